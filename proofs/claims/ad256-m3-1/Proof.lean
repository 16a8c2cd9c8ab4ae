import JvmDerived
import JvmDerived.Pilot.@@N@@Statement
import JvmDerived.Pilot.@@N@@Code
set_option linter.unusedVariables false
set_option linter.unusedSimpArgs false
namespace Jvm.OwnKit
open Sem ClassFile Op Lib Jvm.Stand Jvm.Free Jvm.LawKit Jvm.RoadKit
/-! ## the walk, backwards: from S the run comes to an end that K speaks of -/
def Bk (tb : Tables) (e : Env) (below : List Frame) (S : State) (K : State → Outcome → Prop) : Prop := ∃ s₂ o, Steps tb e below S s₂ ∧ K s₂ o
section Bks
variable {tb : Tables} {e : Env} {below : List Frame} {S S' : State} {K : State → Outcome → Prop}
theorem Bk.of (f : ∀ t, Steps tb e below S' t → Steps tb e below S t) (h : Bk tb e below S' K) : Bk tb e below S K := by
  obtain ⟨t, o, h1, h2⟩ := h; exact ⟨t, o, f t h1, h2⟩
end Bks
/-! ## a body's contract -/
def Ctr (l : Launch) (Z : State) (h0 : Heap) (y : MethodName) (bytes : ByteArray) (maxL : Nat) (ret : Option FieldType) (ws : List Jvm.Cond) (rm : Room) (as' : Array Value) (Q : Option Value → Heap → List Loc → Prop) : Prop :=
  MetFree l y (head1 (Jvm.Cond.code y bytes maxL ret :: ws) rm) (fun a U => a = as' ∧ Z.Warmed39 U.vm ∧ U.heap = h0) (fun _ _ _ _ _ => True) (fun _ U o U' => ∃ v L, o = .returned v ∧ Q v U'.heap L ∧ FrameEnd U o U' L rm.cells rm.slots)
/-- what the end of a body's walk must show -/
def Fin (p : Program) (l : Launch) (e : Env) (rm : Room) (s : State) (m : MethodId) (as' : Array Value) (below : List Frame) (meth : Method) (c : Code) (ret : Option FieldType) (Q : Option Value → Heap → List Loc → Prop) (K : State → Outcome → Prop) : Prop :=
  ∀ {T : State} {locs : List Loc} {cells slots : Nat} {F : JFrame} (v : Option Value), Stand p l e rm s m as' below meth c T locs cells slots → (ret = none → v = none) →
    (∀ fs, (∀ (f : JFrame) (acts : List Action), f.method = m → f.locked = none → f.entered = [] → (doReturn e (T.setTop f) acts v).1 = T.setFrames fs) → Steps p.tables e below (T.setTop F) (T.setFrames fs)) →
    Q v T.heap locs → cells ≤ rm.cells → slots ≤ rm.slots → Bk p.tables e below (T.setTop F) K
theorem Ctr.make {l : Launch} {Z : State} {h0 : Heap} {y : MethodName} {bytes : ByteArray} {maxL : Nat} {ret : Option FieldType} {ws : List Jvm.Cond} {rm : Room} {as' : Array Value} {Q : Option Value → Heap → List Loc → Prop} (hpn : plainFor y = true)
    (H : ∀ (p : Program) (e : Env) (s : State) (m : MethodId) (below : List Frame) (meth : Method) (c : Code) (s₁ : State) (K : State → Outcome → Prop), meth.sig.returnType = ret → c.maxLocals = maxL → p.tables.exec = Jvm.exec → c.code = bytes → s.vm.findClass y.cls = some m.cls → meth.name = y.name → Z.Warmed39 s.vm →
      Stand p l e rm s m as' below meth c s₁ [] 0 0 → s₁.heap = h0 → Fin p l e rm s m as' below meth c ret Q K → Bk p.tables e below (s₁.setTop (entryFrame m as' maxL)) K) : Ctr l Z h0 y bytes maxL ret ws rm as' Q := by
  refine MetFree.of_bodySF hpn hisR ?_
  intro p e s m args below meth c s₁ Bd hml hP hK
  obtain ⟨rfl, hZ, hh⟩ := hP
  refine H p e s m below meth c s₁ (fun s₂ o => s₂.status = .running ∧ Ended s₂ below o ∧ ∃ v L, o = .returned v ∧ Q v s₂.heap L ∧ FrameEnd s o s₂ L rm.cells rm.slots) Bd.returns hml Bd.exec Bd.bytes (findClass_of_methodNamed Bd.named) (name_of_methodNamed Bd.named Bd.method).1 hZ (Stand.of_body Bd) (by rw [← hh, Bd.state]; rfl) ?_
  intro T locs cells slots F v X hv hst hq hc hs
  obtain ⟨fs, hr, hrun, hended, hW, hsame⟩ := X.leave (v := v) (fun h => hv (Bd.returns ▸ h)) Bd.notSynchronized
  exact ⟨_, _, hst fs hr, hrun, hended, v, locs, rfl, hq, ⟨_, rfl⟩, hW, hsame.mono hc hs⟩
section Calls
variable {p : Program} {l : Launch} {e : Env} {R : Room} {s : State} {m : MethodId} {args : Array Value} {below : List Frame} {meth : Method} {c : Code} {T : State} {locs : List Loc} {cells slots : Nat} {Z : State} {a0 : Array Value} {h : Heap}
variable {y z : MethodName} {bytes : ByteArray} {maxL : Nat} {ret : Option FieldType} {rm : Room} {as' : Array Value} {Q : Option Value → Heap → List Loc → Prop}
theorem Ctr.static (M : Ctr l Z h y bytes maxL ret [] rm as' Q) (X : Stand p l e R s m args below meth c T locs cells slots) (hx : p.tables.exec = Jvm.exec) (hZ : Z.Warmed39 s.vm) (eT : T.heap = h) {own : String} {index : Nat} (hown : s.vm.findClass own = some m.cls)
    (wl : (Jvm.Cond.methodLink own index y).before a0 Z = true) (wt : (Jvm.Cond.static y).before a0 Z = true) (wi : (Jvm.Cond.initialized y.cls).before a0 Z = true) (wc : (Jvm.Cond.code y bytes maxL ret).before a0 Z = true) (hy : y.cls ≠ "java/lang/invoke/MethodHandle" ∧ y.cls ≠ "java/lang/invoke/VarHandle")
    {ps : List FieldType} {rt : Option FieldType} (hpd : parseMethodDescriptor y.desc = some ⟨ps, rt⟩) {g : JFrame} (hg : g.method = m) (hsize : g.locals.size = c.maxLocals) {argsL rest : List Value} (ha : argsL.toArray = as') (hlen : argsL.length = ps.length) (hstack : g.stack = argsL.reverse ++ rest)
    {W : Nat} (hW : 2 * g.monitorRoom + (rest.map fun v => v.category).sum ≤ W) (hf : rm.frames + 1 ≤ R.frames) (hl : W + (maxL + 11) + rm.locals ≤ R.locals) (hd : decode c.code g.pc = .ok (.invokestatic index, 3)) (hc : cells + rm.cells ≤ R.cells) (hs : slots + rm.slots ≤ R.slots) :
    ∃ (v : Option Value) (T' : State) (L : List Loc), Stand p l e R s m args below meth c T' (locs ++ L) (cells + rm.cells) (slots + rm.slots) ∧ Q v T'.heap L ∧ ∀ target, Steps p.tables e below (T'.setTop { g with pc := g.pc + 3, stack := v.toList ++ rest }) target → Steps p.tables e below (T.setTop g) target := by
  obtain ⟨v, _, ⟨T', L, k, n⟩, -, X', ⟨Lc, hQ, l1, y1, z1⟩, st⟩ := Jvm.LawKit.callS X hx hown (mvT hZ wl) (mvT hZ wt) (mvT hZ wi) (mvT hZ wc) hy (backOf (W := W) M hZ wc wi hf hl) hg hsize (argsL := argsL) (rest := rest) (lenOf hpd hlen) hstack hW hd (fun _ _ => ⟨ha, eT, hc, hs⟩)
  dsimp only [Pt.U, Pt.locs, Pt.cells, Pt.slots] at X' l1 y1 z1 st hQ
  subst l1 y1 z1
  exact ⟨v, T', Lc, X', hQ, st⟩
theorem Ctr.special (M : Ctr l Z h y bytes maxL none [] rm as' Q) (X : Stand p l e R s m args below meth c T locs cells slots) (hx : p.tables.exec = Jvm.exec) (hZ : Z.Warmed39 s.vm) (eT : T.heap = h) {own : String} {index : Nat} (hown : s.vm.findClass own = some m.cls) (hy1 : y.name = "<init>")
    (wl : (Jvm.Cond.methodLink own index y).before a0 Z = true) (wt : (Jvm.Cond.instanceMethod y).before a0 Z = true) (wi : (Jvm.Cond.initialized y.cls).before a0 Z = true) (wc : (Jvm.Cond.code y bytes maxL none).before a0 Z = true) (hy : y.cls ≠ "java/lang/invoke/MethodHandle" ∧ y.cls ≠ "java/lang/invoke/VarHandle")
    {ps : List FieldType} {rt : Option FieldType} (hpd : parseMethodDescriptor y.desc = some ⟨ps, rt⟩) {g : JFrame} (hg : g.method = m) (hsize : g.locals.size = c.maxLocals) {a : Addr} {argsL rest : List Value} (ha : (.ref a :: argsL).toArray = as') (hlen : argsL.length = ps.length) (hstack : g.stack = argsL.reverse ++ .ref a :: rest)
    {W : Nat} (hW : 2 * g.monitorRoom + (rest.map fun v => v.category).sum ≤ W) (hf : rm.frames + 1 ≤ R.frames) (hl : W + (maxL + 11) + rm.locals ≤ R.locals) (hd : decode c.code g.pc = .ok (.invokespecial index, 3)) (hc : cells + rm.cells ≤ R.cells) (hs : slots + rm.slots ≤ R.slots) :
    ∃ (v : Option Value) (T' : State) (L : List Loc), Stand p l e R s m args below meth c T' (locs ++ L) (cells + rm.cells) (slots + rm.slots) ∧ Q v T'.heap L ∧ ∀ target, Steps p.tables e below (T'.setTop { g with pc := g.pc + 3, stack := v.toList ++ rest }) target → Steps p.tables e below (T.setTop g) target := by
  obtain ⟨v, _, ⟨T', L, k, n⟩, -, X', ⟨Lc, hQ, l1, y1, z1⟩, st⟩ := X.specialBack hx hy1 hown (mvT hZ wl) (mvT hZ wt) (mvT hZ wc) hy (backOf (W := W) M hZ wc wi hf hl) hg hsize (Steps.refl _) (a := a) (argsL := argsL) (rest := rest) (lenOf hpd hlen) hstack hW hd (fun _ _ => ⟨ha, eT, hc, hs⟩)
  dsimp only [Pt.U, Pt.locs, Pt.cells, Pt.slots] at X' l1 y1 z1 st hQ
  subst l1 y1 z1
  exact ⟨v, T', Lc, X', hQ, fun target k => st.trans k⟩
theorem Ctr.virtual (M : Ctr l Z h z bytes maxL ret [] rm as' Q) (X : Stand p l e R s m args below meth c T locs cells slots) (hx : p.tables.exec = Jvm.exec) (hZ : Z.Warmed39 s.vm) (eT : T.heap = h) {own C : String} {index : Nat} (hown : s.vm.findClass own = some m.cls)
    (wl : (Jvm.Cond.methodLink own index y).before a0 Z = true) (wd : (Jvm.Cond.declares y).before a0 Z = true) (hnf : NotFace s y) (wsel : (Jvm.Cond.selects C y z).before a0 Z = true) (wt : (Jvm.Cond.instanceMethod z).before a0 Z = true) (wi : (Jvm.Cond.initialized z.cls).before a0 Z = true) (wc : (Jvm.Cond.code z bytes maxL ret).before a0 Z = true) (hy : y.cls ≠ "java/lang/invoke/MethodHandle" ∧ y.cls ≠ "java/lang/invoke/VarHandle")
    {a : Addr} (E : Exa Z h a C) {ps : List FieldType} {rt : Option FieldType} (hpd : parseMethodDescriptor y.desc = some ⟨ps, rt⟩) {g : JFrame} (hg : g.method = m) (hsize : g.locals.size = c.maxLocals) {argsL rest : List Value} (ha : (.ref a :: argsL).toArray = as') (hlen : argsL.length = ps.length) (hstack : g.stack = argsL.reverse ++ .ref a :: rest)
    {W : Nat} (hW : 2 * g.monitorRoom + (rest.map fun v => v.category).sum ≤ W) (hf : rm.frames + 1 ≤ R.frames) (hl : W + (maxL + 11) + rm.locals ≤ R.locals) (hd : decode c.code g.pc = .ok (.invokevirtual index, 3)) (hc : cells + rm.cells ≤ R.cells) (hs : slots + rm.slots ≤ R.slots) :
    ∃ (v : Option Value) (T' : State) (L : List Loc), Stand p l e R s m args below meth c T' (locs ++ L) (cells + rm.cells) (slots + rm.slots) ∧ Q v T'.heap L ∧ ∀ target, Steps p.tables e below (T'.setTop { g with pc := g.pc + 3, stack := v.toList ++ rest }) target → Steps p.tables e below (T.setTop g) target := by
  obtain ⟨cq, kq, qa, qb, qc⟩ := isOf hZ eT E
  obtain ⟨v, _, ⟨T', L, k, n⟩, -, X', ⟨Lc, hQ, l1, y1, z1⟩, st⟩ := X.virtualBack hx hown (mvT hZ wl) (mvT hZ wd) hnf (mvT hZ wsel) (mvT hZ wt) hy (backOf (W := W) M hZ wc wi hf hl) qa qc hg hsize (Steps.refl _) (argsL := argsL) (rest := rest) (lenOf hpd hlen) hstack hW hd (fun _ _ => ⟨ha, eT, hc, hs⟩)
  dsimp only [Pt.U, Pt.locs, Pt.cells, Pt.slots] at X' l1 y1 z1 st hQ
  subst l1 y1 z1
  exact ⟨v, T', Lc, X', hQ, fun target k => st.trans k⟩
theorem Ctr.priv (M : Ctr l Z h y bytes maxL ret [] rm as' Q) (X : Stand p l e R s m args below meth c T locs cells slots) (hx : p.tables.exec = Jvm.exec) (hZ : Z.Warmed39 s.vm) (eT : T.heap = h) {own : String} {index n : Nat} (hown : s.vm.findClass own = some m.cls)
    (wl : (Jvm.Cond.methodLink own index y).before a0 Z = true) (wt : (Jvm.Cond.instanceMethod y).before a0 Z = true) (wp : (Jvm.Cond.privateMethod y).before a0 Z = true) (win : (Jvm.Cond.instantiable y.cls n).before a0 Z = true) (wi : (Jvm.Cond.initialized y.cls).before a0 Z = true) (wc : (Jvm.Cond.code y bytes maxL ret).before a0 Z = true) (hy : y.cls ≠ "java/lang/invoke/MethodHandle" ∧ y.cls ≠ "java/lang/invoke/VarHandle")
    {C : String} {a : Addr} (E : Exa Z h a C) {ps : List FieldType} {rt : Option FieldType} (hpd : parseMethodDescriptor y.desc = some ⟨ps, rt⟩) {g : JFrame} (hg : g.method = m) (hsize : g.locals.size = c.maxLocals) {argsL rest : List Value} (ha : (.ref a :: argsL).toArray = as') (hlen : argsL.length = ps.length) (hstack : g.stack = argsL.reverse ++ .ref a :: rest)
    {W : Nat} (hW : 2 * g.monitorRoom + (rest.map fun v => v.category).sum ≤ W) (hf : rm.frames + 1 ≤ R.frames) (hl : W + (maxL + 11) + rm.locals ≤ R.locals) (hd : decode c.code g.pc = .ok (.invokevirtual index, 3)) (hc : cells + rm.cells ≤ R.cells) (hs : slots + rm.slots ≤ R.slots) :
    ∃ (v : Option Value) (T' : State) (L : List Loc), Stand p l e R s m args below meth c T' (locs ++ L) (cells + rm.cells) (slots + rm.slots) ∧ Q v T'.heap L ∧ ∀ target, Steps p.tables e below (T'.setTop { g with pc := g.pc + 3, stack := v.toList ++ rest }) target → Steps p.tables e below (T.setTop g) target := by
  obtain ⟨cq, q, q'⟩ := E.cell
  obtain ⟨ck, k, i1, i2, i3, i4, -⟩ := Cond.instantiable_spec (mvT (args := args) hZ win)
  have hni : k.isInterface = false := by cases hk : k.isInterface <;> simp [hk] at i4 ⊢
  have hpr := Cond.privateMethod_at (mvP (args := args) hZ wp)
  obtain ⟨v, _, ⟨T', L, k, n⟩, -, X', ⟨Lc, hQ, l1, y1, z1⟩, st⟩ := X.privateBack hx hown (mvT hZ wl) (mvT hZ wt) (selects_self_of_private i1 i2 hni hpr (mvT hZ wt) hy) hpr (mvT hZ wc) hy (backOf (W := W) M hZ wc wi hf hl) hg hsize (Steps.refl _) (a := a) (by rw [eT]; exact q) q' (argsL := argsL) (rest := rest) (lenOf hpd hlen) hstack hW hd (fun _ _ => ⟨ha, eT, hc, hs⟩)
  dsimp only [Pt.U, Pt.locs, Pt.cells, Pt.slots] at X' l1 y1 z1 st hQ
  subst l1 y1 z1
  exact ⟨v, T', Lc, X', hQ, fun target k => st.trans k⟩
end Calls
/-! ## an array by the list of what it holds -/
def Arl (Z : State) (h : Heap) (a : Addr) (ty : FieldType) (vs : List Value) : Prop := ∃ c : Cell, Arr Z h a c ty ∧ c.slots.toList = vs ∧ vs.length < 2 ^ 31
section Arls
variable {p : Program} {l : Launch} {e : Env} {R : Room} {s : State} {m : MethodId} {args : Array Value} {below : List Frame} {meth : Method} {c : Code} {T : State} {locs : List Loc} {cells slots : Nat} {Z : State} {a0 : Array Value} {h h' h0 : Heap}
variable {a b : Addr} {ty : FieldType} {vs : List Value} {v : Value} {sl : Nat} {ws : List Addr}
theorem Arl.lt (F : Arl Z h a ty vs) : a < h.size := by obtain ⟨c, A, -⟩ := F; exact A.lt
theorem Arl.ext (F : Arl Z h a ty vs) (E : Ext h h') : Arl Z h' a ty vs := by obtain ⟨c, A, r⟩ := F; exact ⟨c, A.ext E, r⟩
theorem Arl.other (F : Arl Z h b ty vs) (W : Wr h h' a sl v) (q : b ≠ a) : Arl Z h' b ty vs := by obtain ⟨c, A, r⟩ := F; exact ⟨c, A.other W q, r⟩
theorem Arl.keep (F : Arl Z h a ty vs) (K : Keep h h' ws) (q : a ∉ ws) : Arl Z h' a ty vs := by obtain ⟨c, A, r⟩ := F; exact ⟨c, ⟨K.2.1 a c A.1 q, A.2⟩, r⟩
theorem Arl.wr (F : Arl Z h a ty vs) (W : Wr h h' a sl v) : Arl Z h' a ty (vs.set sl v) := by
  obtain ⟨c, A, e, q⟩ := F
  exact ⟨c.setSlot sl v, A.same W, by rw [← e]; simp [Cell.setSlot], by simpa using q⟩
theorem Arl.inb {c : Cell} {j : Int32} {i : Nat} (e : c.slots.toList = vs) (hj : j.toNatClampNeg = i) (h0 : ¬ j < 0) (hi : i < vs.length) : ¬ (j < 0 ∨ c.slots.size ≤ j.toNatClampNeg) := by
  subst hj e
  rintro (q | q)
  · exact h0 q
  · simp at hi; omega
theorem Arl.at {c : Cell} {j : Int32} {i : Nat} (e : c.slots.toList = vs) (hj : j.toNatClampNeg = i) (hv : vs[i]? = some v) : c.slots[j.toNatClampNeg]? = some v := by
  subst hj e; simpa using hv
theorem some_lt {i : Nat} (hv : vs[i]? = some v) : i < vs.length := (List.getElem?_eq_some_iff.mp hv).1
theorem newL (X : Stand p l e R s m args below meth c T locs cells slots) (hx : p.tables.exec = Jvm.exec) (hZ : Z.Warmed39 s.vm) {aty : ArrayType} (w : (Jvm.Cond.arrayClass (newarray.typeOf aty)).before a0 Z = true) (eT : T.heap = h) {g : JFrame} (hg : g.method = m) (hd : decode c.code g.pc = .ok (.newarray aty, 2)) {n : Int32} {rest : List Value} (hs : g.stack = .int n :: rest)
    (hn : ¬ n < 0) {cap : Nat} (hcap : n.toNatClampNeg = cap) (hb : cap * 8 ≤ 536870912) (hc : cells + 1 ≤ R.cells) (hl : slots + cap ≤ R.slots) :
    ∃ T' h', Stand p l e R s m args below meth c T' locs (cells + 1) (slots + cap) ∧ T'.heap = h' ∧ Ext h h' ∧ Arl Z h' h.size (newarray.typeOf aty) (List.replicate cap (defaultValue (newarray.typeOf aty))) ∧
      ∀ target, Steps p.tables e below (T'.setTop { g with pc := g.pc + 2, stack := .ref h.size :: rest }) target → Steps p.tables e below (T.setTop g) target := by
  obtain ⟨T', h', cA, X', e', E, A, st⟩ := newP X hx hZ w eT hg hd hs hn (cap := cap) (Nat.le_of_eq hcap) hb hc hl
  refine ⟨T', h', X', e', E, ⟨_, A, by simp [newA, hcap], ?_⟩, st⟩
  have := (back32 hn).2
  rw [List.length_replicate]; omega
theorem lenL (X : Stand p l e R s m args below meth c T locs cells slots) (hx : p.tables.exec = Jvm.exec) (hZ : Z.Warmed39 s.vm) (eT : T.heap = h) (F : Arl Z h a ty vs) {n : Int32} (hn : vs.length.toInt32 = n) {g : JFrame} (hg : g.method = m) {rest : List Value} (hs : g.stack = .ref a :: rest) (hd : decode c.code g.pc = .ok (.arraylength, 1)) (target : State)
    (k : Steps p.tables e below (T.setTop { g with pc := g.pc + 1, stack := .int n :: rest }) target) : Steps p.tables e below (T.setTop g) target := by
  obtain ⟨cl, A, e1, q⟩ := F
  have q2 : cl.slots.size.toInt32 = n := by rw [← hn, ← e1]; simp
  exact X.arraylength hx (by rw [eT]; exact A.1) (State.isArrayOf_alike hZ.alike A.2.1) hg hs hd target (by rw [q2]; exact k)
theorem ldD (X : Stand p l e R s m args below meth c T locs cells slots) (hx : p.tables.exec = Jvm.exec) (hZ : Z.Warmed39 s.vm) (eT : T.heap = h) (F : Arl Z h a .double vs) {j : Int32} {i : Nat} (hj : j.toNatClampNeg = i) (h0 : ¬ j < 0) (hv : vs[i]? = some v) {g : JFrame} (hg : g.method = m) {rest : List Value} (hs : g.stack = .int j :: .ref a :: rest) (hd : decode c.code g.pc = .ok (.daload, 1)) (target : State)
    (k : Steps p.tables e below (T.setTop { g with pc := g.pc + 1, stack := v :: rest }) target) : Steps p.tables e below (T.setTop g) target := by
  obtain ⟨cl, A, e1, q⟩ := F
  exact X.daload hx (by rw [eT]; exact A.1) (State.isArrayOf_alike hZ.alike A.2.1) A.2.2 (Arl.inb e1 hj h0 (some_lt hv)) (Arl.at e1 hj hv) hg hs hd target k
theorem ldI (X : Stand p l e R s m args below meth c T locs cells slots) (hx : p.tables.exec = Jvm.exec) (hZ : Z.Warmed39 s.vm) (eT : T.heap = h) (F : Arl Z h a .int vs) {j : Int32} {i : Nat} (hj : j.toNatClampNeg = i) (h0 : ¬ j < 0) (hv : vs[i]? = some v) {g : JFrame} (hg : g.method = m) {rest : List Value} (hs : g.stack = .int j :: .ref a :: rest) (hd : decode c.code g.pc = .ok (.iaload, 1)) (target : State)
    (k : Steps p.tables e below (T.setTop { g with pc := g.pc + 1, stack := v :: rest }) target) : Steps p.tables e below (T.setTop g) target := by
  obtain ⟨cl, A, e1, q⟩ := F
  exact X.iaload hx (by rw [eT]; exact A.1) (State.isArrayOf_alike hZ.alike A.2.1) A.2.2 (Arl.inb e1 hj h0 (some_lt hv)) (Arl.at e1 hj hv) hg hs hd target k
theorem ldJ (X : Stand p l e R s m args below meth c T locs cells slots) (hx : p.tables.exec = Jvm.exec) (hZ : Z.Warmed39 s.vm) (eT : T.heap = h) (F : Arl Z h a .long vs) {j : Int32} {i : Nat} (hj : j.toNatClampNeg = i) (h0 : ¬ j < 0) (hv : vs[i]? = some v) {g : JFrame} (hg : g.method = m) {rest : List Value} (hs : g.stack = .int j :: .ref a :: rest) (hd : decode c.code g.pc = .ok (.laload, 1)) (target : State)
    (k : Steps p.tables e below (T.setTop { g with pc := g.pc + 1, stack := v :: rest }) target) : Steps p.tables e below (T.setTop g) target := by
  obtain ⟨cl, A, e1, q⟩ := F
  exact X.laload hx (by rw [eT]; exact A.1) (State.isArrayOf_alike hZ.alike A.2.1) A.2.2 (Arl.inb e1 hj h0 (some_lt hv)) (Arl.at e1 hj hv) hg hs hd target k
theorem ldZ (X : Stand p l e R s m args below meth c T locs cells slots) (hx : p.tables.exec = Jvm.exec) (hZ : Z.Warmed39 s.vm) (eT : T.heap = h) (F : Arl Z h a .boolean vs) {j : Int32} {i : Nat} (hj : j.toNatClampNeg = i) (h0 : ¬ j < 0) (hv : vs[i]? = some v) {g : JFrame} (hg : g.method = m) {rest : List Value} (hs : g.stack = .int j :: .ref a :: rest) (hd : decode c.code g.pc = .ok (.baload, 1)) (target : State)
    (k : Steps p.tables e below (T.setTop { g with pc := g.pc + 1, stack := v :: rest }) target) : Steps p.tables e below (T.setTop g) target := by
  obtain ⟨cl, A, e1, q⟩ := F
  exact X.baloadBooleans hx (by rw [eT]; exact A.1) (State.isArrayOf_alike hZ.alike A.2.1) A.2.2 (Arl.inb e1 hj h0 (some_lt hv)) (Arl.at e1 hj hv) hg hs hd target k
theorem ldR (X : Stand p l e R s m args below meth c T locs cells slots) (hx : p.tables.exec = Jvm.exec) (hZ : Z.Warmed39 s.vm) (eT : T.heap = h) (F : Arl Z h a ty vs) (hty : ty.isReference = true) {j : Int32} {i : Nat} (hj : j.toNatClampNeg = i) (h0 : ¬ j < 0) (hv : vs[i]? = some v) {g : JFrame} (hg : g.method = m) {rest : List Value} (hs : g.stack = .int j :: .ref a :: rest) (hd : decode c.code g.pc = .ok (.aaload, 1)) (target : State)
    (k : Steps p.tables e below (T.setTop { g with pc := g.pc + 1, stack := v :: rest }) target) : Steps p.tables e below (T.setTop g) target := by
  obtain ⟨cl, A, e1, q⟩ := F
  exact X.aaload hx (by rw [eT]; exact A.1) (State.isArrayOf_alike hZ.alike A.2.1) hty A.2.2 (Arl.inb e1 hj h0 (some_lt hv)) (Arl.at e1 hj hv) hg hs hd target k
theorem stDl (X : Stand p l e R s m args below meth c T locs cells slots) (hx : p.tables.exec = Jvm.exec) (hZ : Z.Warmed39 s.vm) (eT : T.heap = h) (F : Arl Z h a .double vs) {j : Int32} {i : Nat} {x : UInt64} (hj : j.toNatClampNeg = i) (h0 : ¬ j < 0) (hi : i < vs.length) {g : JFrame} (hg : g.method = m) {rest : List Value} (hs : g.stack = .double x :: .int j :: .ref a :: rest) (hd : decode c.code g.pc = .ok (.dastore, 1)) :
    ∃ T' h', Stand p l e R s m args below meth c T' (locs ++ [⟨a, i⟩]) cells slots ∧ T'.heap = h' ∧ Wr h h' a i (.double x) ∧ Arl Z h' a .double (vs.set i (.double x)) ∧ ∀ target, Steps p.tables e below (T'.setTop { g with pc := g.pc + 1, stack := rest }) target → Steps p.tables e below (T.setTop g) target := by
  have F0 := F
  obtain ⟨cl, A, e1, q⟩ := F
  obtain ⟨T', h', X', e', W, st⟩ := stD X hx hZ eT A (Arl.inb e1 hj h0 hi) hg hs hd
  subst hj
  exact ⟨T', h', X', e', W, F0.wr W, st⟩
theorem stIl (X : Stand p l e R s m args below meth c T locs cells slots) (hx : p.tables.exec = Jvm.exec) (hZ : Z.Warmed39 s.vm) (eT : T.heap = h) (F : Arl Z h a .int vs) {j : Int32} {i : Nat} {x : Int32} (hj : j.toNatClampNeg = i) (h0 : ¬ j < 0) (hi : i < vs.length) {g : JFrame} (hg : g.method = m) {rest : List Value} (hs : g.stack = .int x :: .int j :: .ref a :: rest) (hd : decode c.code g.pc = .ok (.iastore, 1)) :
    ∃ T' h', Stand p l e R s m args below meth c T' (locs ++ [⟨a, i⟩]) cells slots ∧ T'.heap = h' ∧ Wr h h' a i (.int x) ∧ Arl Z h' a .int (vs.set i (.int x)) ∧ ∀ target, Steps p.tables e below (T'.setTop { g with pc := g.pc + 1, stack := rest }) target → Steps p.tables e below (T.setTop g) target := by
  have F0 := F
  obtain ⟨cl, A, e1, q⟩ := F
  obtain ⟨T', h', X', e', W, st⟩ := stI X hx hZ eT A (Arl.inb e1 hj h0 hi) hg hs hd
  subst hj
  exact ⟨T', h', X', e', W, F0.wr W, st⟩
theorem stJl (X : Stand p l e R s m args below meth c T locs cells slots) (hx : p.tables.exec = Jvm.exec) (hZ : Z.Warmed39 s.vm) (eT : T.heap = h) (F : Arl Z h a .long vs) {j : Int32} {i : Nat} {x : Int64} (hj : j.toNatClampNeg = i) (h0 : ¬ j < 0) (hi : i < vs.length) {g : JFrame} (hg : g.method = m) {rest : List Value} (hs : g.stack = .long x :: .int j :: .ref a :: rest) (hd : decode c.code g.pc = .ok (.lastore, 1)) :
    ∃ T' h', Stand p l e R s m args below meth c T' (locs ++ [⟨a, i⟩]) cells slots ∧ T'.heap = h' ∧ Wr h h' a i (.long x) ∧ Arl Z h' a .long (vs.set i (.long x)) ∧ ∀ target, Steps p.tables e below (T'.setTop { g with pc := g.pc + 1, stack := rest }) target → Steps p.tables e below (T.setTop g) target := by
  have F0 := F
  obtain ⟨cl, A, e1, q⟩ := F
  obtain ⟨T', h', X', e', W, st⟩ := stJ X hx hZ eT A (Arl.inb e1 hj h0 hi) hg hs hd
  subst hj
  exact ⟨T', h', X', e', W, F0.wr W, st⟩
end Arls
end Jvm.OwnKit
namespace Jvm.OwnKit
open Jvm.FP Jvm.FP.Core
/-! ## dyadic doubles: a is the number i / 2^k -/
def shf (k : Int) : Datum → Datum
  | .nan => .nan
  | .inf s => .inf s
  | .fin s c q => .fin s c (q + k)
def Dy (i : Int) (k : Int) (a : UInt64) : Prop := Whole i (shf k (val64 a))
theorem shf_zero (d : Datum) : shf 0 d = d := by cases d <;> simp [shf]
theorem shf_shf (j k : Int) (d : Datum) : shf j (shf k d) = shf (k + j) d := by cases d <;> simp [shf]; omega
theorem shf_neg (k : Int) (x : Datum) : shf k (negate x) = negate (shf k x) := by cases x <;> rfl
theorem inU_shf (c : Nat) (q e k : Int) : inUnits c (q + k) (e + k) = inUnits c q e := by
  unfold inUnits; rw [show q + k - (e + k) = q - e by omega]
theorem shf_sum (k : Int) (x y : Datum) : shf k (exactSum x y) = exactSum (shf k x) (shf k y) := by
  cases x <;> cases y
  case fin.fin s c q t d r =>
    have hm : min (q + k) (r + k) = min q r + k := by omega
    simp only [shf, exactSum, hm, sumUnits, inU_shf]
  case inf.inf s t => by_cases h : s = t <;> simp [shf, exactSum, h]
  all_goals rfl
theorem shf_prod (k j : Int) (x y : Datum) : shf (k + j) (exactProduct x y) = exactProduct (shf k x) (shf j y) := by
  cases x <;> cases y
  case fin.fin s c q t d r => simp only [shf, exactProduct]; congr 1; omega
  case inf.fin s t d r => by_cases h : d = 0 <;> simp [shf, exactProduct, h]
  case fin.inf s c q t => by_cases h : c = 0 <;> simp [shf, exactProduct, h]
  all_goals rfl
theorem shf_order (k : Int) (x y : Datum) : order (shf k x) (shf k y) = order x y := by
  cases x <;> cases y
  case fin.fin s c q t d r =>
    have hm : min (q + k) (r + k) = min q r + k := by omega
    simp only [shf, order, hm, inU_shf]
  all_goals rfl
/-- a number of at most 53 digits at a middling exponent is rounded to itself -/
theorem whole_exact {s : Bool} {n : Nat} {k : Int} (hn : n < 2 ^ 53) (h1 : -900 ≤ k) (h2 : k ≤ 1000) : Whole (signed s n) (shf k (round b64 (.fin s n (-k)))) := by
  have q1 : b64.qmin = -1074 := by decide
  have q2 : b64.qmax = 971 := by decide
  obtain ⟨c', q', e1, e2⟩ := round_exact good_b64 s (c := n) (q := -k) (by exact hn) (by omega) (by omega)
  have hf := round_fits good_b64 (.fin s n (-k))
  rw [e1] at hf
  have g1 := hf.2.1
  rw [e1]
  show signed s (c' * 2 ^ (q' + k).toNat) = signed s n * ((2 ^ (-(q' + k)).toNat : Nat) : Int)
  rw [← signed_mul]
  congr 1
  unfold inUnits at e2
  rw [q1] at e2 g1
  refine Nat.eq_of_mul_eq_mul_right (Nat.two_pow_pos ((-k - -1074).toNat)) ?_
  refine Nat.eq_of_mul_eq_mul_right (Nat.two_pow_pos ((q' - -1074).toNat)) ?_
  have hx : (q' + k).toNat + (-k - -1074).toNat = (-(q' + k)).toNat + (q' - -1074).toNat := by omega
  calc c' * 2 ^ (q' + k).toNat * 2 ^ (-k - -1074).toNat * 2 ^ (q' - -1074).toNat
      = (c' * 2 ^ (q' - -1074).toNat) * 2 ^ ((q' + k).toNat + (-k - -1074).toNat) := by rw [Nat.pow_add]; ac_rfl
    _ = (n * 2 ^ (-k - -1074).toNat) * 2 ^ ((-(q' + k)).toNat + (q' - -1074).toNat) := by rw [e2, hx]
    _ = n * 2 ^ (-(q' + k)).toNat * 2 ^ (-k - -1074).toNat * 2 ^ (q' - -1074).toNat := by rw [Nat.pow_add]; ac_rfl
theorem signed_abs {s : Bool} {i : Int} (h : i ≠ 0 → s = decide (i < 0)) : signed s i.natAbs = i := by
  by_cases hi : i = 0
  · subst hi; exact signed_zero s
  · rw [h hi]; unfold signed; by_cases q : i < 0 <;> simp [q] <;> omega
theorem dy_round {i k : Int} {d : Datum} (hi : i.natAbs < 2 ^ 53) (h1 : -900 ≤ k) (h2 : k ≤ 1000) (h : Whole i (shf k d)) : Whole i (shf k (round b64 d)) := by
  cases d with
  | nan => exact h.elim
  | inf => exact h.elim
  | fin s c q =>
    have hw : Whole i (.fin s c (q + k)) := h
    have ha := whole_natAbs hw
    have e : round b64 (.fin s c q) = round b64 (.fin s i.natAbs (-k)) := by
      refine roundRatio_congr (by decide) (by decide) ?_
      rw [show (q - -k).toNat = (q + k).toNat by omega, show (-k - q).toNat = (-(q + k)).toNat by omega]
      simpa using ha
    rw [e]
    have := whole_exact (s := s) (k := k) hi h1 h2
    rw [signed_abs (fun hn => whole_sign hw hn)] at this
    exact this
section Dys
variable {i j k k' : Int} {a b : UInt64}
theorem Dy.fin (h : Dy i k a) : ∃ s c q, val64 a = .fin s c q := by
  unfold Dy at h
  cases hv : val64 a with
  | nan => rw [hv] at h; exact h.elim
  | inf s => rw [hv] at h; exact h.elim
  | fin s c q => exact ⟨s, c, q, rfl⟩
theorem Dy.nn (h : Dy i k a) : Jvm.Free.Fl.NoNaN64 a := by
  obtain ⟨s, c, q, e⟩ := h.fin
  refine Jvm.Free.Fl.val64_no.mpr ?_
  rw [e]; nofun
theorem Dy.l2d {a : Int64} (h : a.toInt.natAbs < 2 ^ 53) : Dy a.toInt 0 (FP.l2d a) := by
  unfold Dy; rw [shf_zero]; exact l2d_int (Nat.le_of_lt h)
theorem Dy.i2d (a : Int32) : Dy a.toInt 0 (FP.i2d a) := by
  unfold Dy; rw [shf_zero]; exact i2d_int a
theorem Dy.add (ha : Dy i k a) (hb : Dy j k b) (h : (i + j).natAbs < 2 ^ 53) (h1 : -900 ≤ k) (h2 : k ≤ 1000) : Dy (i + j) k (FP.dadd a b) := by
  show Whole (i + j) (shf k (val64 (Core.dadd a b)))
  rw [val64_dadd]
  refine dy_round h h1 h2 ?_
  rw [shf_sum]; exact whole_sum ha hb
theorem Dy.sub (ha : Dy i k a) (hb : Dy j k b) (h : (i - j).natAbs < 2 ^ 53) (h1 : -900 ≤ k) (h2 : k ≤ 1000) : Dy (i - j) k (FP.dsub a b) := by
  show Whole (i - j) (shf k (val64 (Core.dsub a b)))
  rw [val64_dsub]
  refine dy_round h h1 h2 ?_
  rw [shf_sum, shf_neg]; exact whole_sum ha (whole_negate hb)
theorem Dy.mul (ha : Dy i k a) (hb : Dy j k' b) (h : (i * j).natAbs < 2 ^ 53) (h1 : -900 ≤ k + k') (h2 : k + k' ≤ 1000) : Dy (i * j) (k + k') (FP.dmul a b) := by
  show Whole (i * j) (shf (k + k') (val64 (Core.dmul a b)))
  rw [val64_dmul]
  refine dy_round h h1 h2 ?_
  rw [shf_prod]; exact whole_product ha hb
theorem Dy.cmp (ha : Dy i k a) (hb : Dy j k b) : FP.dcmp a b = some (compare i j) := by
  show order (val64 a) (val64 b) = _
  rw [← shf_order k]; exact order_whole ha hb
theorem Dy.up (ha : Dy i k a) (n : Nat) : Dy (i * ((2 ^ n : Nat) : Int)) (k + n) a := by
  obtain ⟨s, c, q, e⟩ := ha.fin
  unfold Dy at ha ⊢
  rw [e] at ha ⊢
  have h : signed s (c * 2 ^ (q + k).toNat) = i * ((2 ^ (-(q + k)).toNat : Nat) : Int) := ha
  show signed s (c * 2 ^ (q + (k + n)).toNat) = i * ((2 ^ n : Nat) : Int) * ((2 ^ (-(q + (k + n))).toNat : Nat) : Int)
  have p : ((2 ^ (-(q + k)).toNat : Nat) : Int) ≠ 0 := by have := Nat.two_pow_pos (-(q + k)).toNat; omega
  refine Int.eq_of_mul_eq_mul_right p ?_
  have hx : (q + (k + n)).toNat + (-(q + k)).toNat = (q + k).toNat + (n + (-(q + (k + n))).toNat) := by omega
  calc signed s (c * 2 ^ (q + (k + n)).toNat) * ((2 ^ (-(q + k)).toNat : Nat) : Int)
      = signed s (c * 2 ^ ((q + (k + n)).toNat + (-(q + k)).toNat)) := by rw [← signed_mul, Nat.pow_add, Nat.mul_assoc]
    _ = signed s (c * 2 ^ (q + k).toNat) * ((2 ^ (n + (-(q + (k + n))).toNat) : Nat) : Int) := by rw [hx, Nat.pow_add, ← Nat.mul_assoc, signed_mul]
    _ = i * ((2 ^ n : Nat) : Int) * ((2 ^ (-(q + (k + n))).toNat : Nat) : Int) * ((2 ^ (-(q + k)).toNat : Nat) : Int) := by rw [h, Nat.pow_add, Int.natCast_mul]; ac_rfl
/-- the quotient of two dyadic numbers, rounded -/
theorem Dy.quot (ha : Dy i k a) (hb : Dy j k' b) (hj : j ≠ 0) : ∃ s, (i ≠ 0 → s = (decide (i < 0) != decide (j < 0))) ∧ val64 (FP.ddiv a b) = roundRatio b64 s i.natAbs j.natAbs (k' - k) := by
  obtain ⟨s, c, q, e⟩ := ha.fin
  obtain ⟨t, d, r, e'⟩ := hb.fin
  unfold Dy at ha hb
  rw [e] at ha; rw [e'] at hb
  have wa : Whole i (.fin s c (q + k)) := ha
  have wb : Whole j (.fin t d (r + k')) := hb
  have hd : d ≠ 0 := fun h0 => hj ((whole_zero wb).mp h0)
  refine ⟨s != t, fun hi => by rw [whole_sign wa hi, whole_sign wb hj], ?_⟩
  show val64 (Core.ddiv a b) = _
  rw [val64_ddiv, e, e']
  simp only [quotient, if_neg hd]
  refine roundRatio_congr (by omega) (by omega) ?_
  have na := whole_natAbs wa
  have nb := whole_natAbs wb
  have p : 0 < 2 ^ (r + k').toNat * 2 ^ (-(q + k)).toNat := Nat.mul_pos (Nat.two_pow_pos _) (Nat.two_pow_pos _)
  refine Nat.eq_of_mul_eq_mul_right (Nat.mul_pos (Nat.two_pow_pos (q + k).toNat) (Nat.two_pow_pos (-(r + k')).toNat)) ?_
  have hx : (q - r - (k' - k)).toNat + (-(q + k)).toNat + (r + k').toNat = (k' - k - (q - r)).toNat + ((q + k).toNat + (-(r + k')).toNat) := by omega
  calc c * j.natAbs * 2 ^ (q - r - (k' - k)).toNat * (2 ^ (q + k).toNat * 2 ^ (-(r + k')).toNat)
      = (c * 2 ^ (q + k).toNat) * (j.natAbs * 2 ^ (-(r + k')).toNat) * 2 ^ (q - r - (k' - k)).toNat := by ac_rfl
    _ = (i.natAbs * 2 ^ (-(q + k)).toNat) * (d * 2 ^ (r + k').toNat) * 2 ^ (q - r - (k' - k)).toNat := by rw [na, nb]
    _ = i.natAbs * d * 2 ^ ((q - r - (k' - k)).toNat + (-(q + k)).toNat + (r + k').toNat) := by rw [Nat.pow_add, Nat.pow_add]; ac_rfl
    _ = i.natAbs * d * 2 ^ (k' - k - (q - r)).toNat * (2 ^ (q + k).toNat * 2 ^ (-(r + k')).toNat) := by rw [hx, Nat.pow_add, Nat.pow_add]; ac_rfl
theorem Dy.div (ha : Dy (i * j) k a) (hb : Dy j k' b) (hj : j ≠ 0) (h : i.natAbs < 2 ^ 53) (h1 : -900 ≤ k - k') (h2 : k - k' ≤ 1000) : Dy i (k - k') (FP.ddiv a b) := by
  obtain ⟨s, hs, e⟩ := ha.quot hb hj
  unfold Dy
  rw [e]
  have e2 : roundRatio b64 s (i * j).natAbs j.natAbs (k' - k) = round b64 (.fin s i.natAbs (-(k - k'))) := by
    refine roundRatio_congr (by omega) (by decide) ?_
    rw [show k' - k - -(k - k') = 0 by omega, show -(k - k') - (k' - k) = 0 by omega, Int.natAbs_mul]
    simp
  rw [e2]
  have := whole_exact (s := s) (n := i.natAbs) (k := k - k') h h1 h2
  rw [signed_abs (fun hn => ?_)] at this
  · exact this
  · rw [hs (Int.mul_ne_zero hn hj)]
    rcases Int.lt_or_gt_of_ne hn with p | p <;> rcases Int.lt_or_gt_of_ne hj with q | q
    · have := Int.mul_pos_of_neg_of_neg p q
      simp [p, q, show ¬ i * j < 0 by omega]
    · have := Int.mul_neg_of_neg_of_pos p q
      simp [p, this, show ¬ j < 0 by omega]
    · have := Int.mul_neg_of_pos_of_neg p q
      simp [q, this, show ¬ i < 0 by omega]
    · have := Int.mul_pos p q
      simp [show ¬ i * j < 0 by omega, show ¬ j < 0 by omega, show ¬ i < 0 by omega]
end Dys
end Jvm.OwnKit
namespace Jvm.OwnKit
open Jvm.FP Jvm.FP.Core
section More
variable {i j k k' : Int} {a b : UInt64}
theorem Dy.cast (ha : Dy i k a) (h1 : i = j) (h2 : k = k') : Dy j k' a := by subst h1 h2; exact ha
theorem Dy.divp (ha : Dy i k a) (n : Nat) (hb : Dy ((2 ^ n : Nat) : Int) 0 b) (h : i.natAbs < 2 ^ 53) (h1 : -900 ≤ k + n) (h2 : k + n ≤ 1000) : Dy i (k + n) (FP.ddiv a b) := by
  have p := Nat.two_pow_pos n
  have := Dy.div (k := k + n) (k' := 0) (ha.up n) hb (by omega) h (by omega) (by omega)
  exact this.cast rfl (by omega)
theorem Dy.lit {a : UInt64} {s : Bool} {c : Nat} {q : Int} (e : val64 a = .fin s c q) (h : signed s (c * 2 ^ (q + k).toNat) = i * ((2 ^ (-(q + k)).toNat : Nat) : Int)) : Dy i k a := by
  unfold Dy; rw [e]; exact h
/-- a quotient of middling numbers and its 2^n-th part -/
theorem round_part {s : Bool} {A B n : Nat} (hA : 0 < A) (hB : 0 < B) (lA : A < 2 ^ 100) (lB : B < 2 ^ 100) (hn : n ≤ 100) : ∃ c q, roundRatio b64 s A B 0 = .fin s c q ∧ roundRatio b64 s A B (-(n : Int)) = .fin s c (q - n) := by
  have q1 : b64.qmin = -1074 := by decide
  have q2 : b64.qmax = 971 := by decide
  have hp : (b64.p : Int) - 1 = 52 := by decide
  have a1 : A.log2 < 100 := (Nat.log2_lt (by omega)).mpr lA
  have b1 : B.log2 < 100 := (Nat.log2_lt (by omega)).mpr lB
  have hl : -101 ≤ leading A B ∧ leading A B ≤ 100 := by
    unfold leading; dsimp only; split <;> omega
  have e1 : quantum b64 A B 0 = leading A B - 52 := by unfold quantum; rw [q1, hp]; omega
  have e2 : quantum b64 A B (-(n : Int)) = leading A B - 52 - n := by unfold quantum; rw [q1, hp]; omega
  have z : ¬ A = 0 := by omega
  unfold roundRatio
  rw [if_neg z, if_neg z, e1, e2]
  generalize leading A B = L at hl
  have u1 : unitsNum A (-(n : Int)) (L - 52 - n) = unitsNum A 0 (L - 52) := by unfold unitsNum; congr 2; omega
  have u2 : unitsDen B (-(n : Int)) (L - 52 - n) = unitsDen B 0 (L - 52) := by unfold unitsDen; congr 2; omega
  unfold roundAt
  rw [u1, u2]
  generalize nearest _ _ = c
  unfold settle bound
  by_cases hc : c < 2 ^ b64.p
  · rw [if_pos hc, if_pos hc, if_pos (by omega), if_pos (by omega)]
    exact ⟨_, _, rfl, rfl⟩
  · rw [if_neg hc, if_neg hc, if_pos (by omega), if_pos (by omega)]
    exact ⟨_, _, rfl, by congr 1; omega⟩
/-- (x / y) / 2^n where x / y is rounded once: the same as the rounding of x / (y * 2^n) -/
theorem div_part {x y w : UInt64} {A B : Int} {n : Nat} {got : UInt64} (hx : Dy A 0 x) (hy : Dy B 0 y) (hw : Dy ((2 ^ n : Nat) : Int) 0 w) (hA : 0 < A) (hB : 0 < B) (lA : A < 2 ^ 100) (lB : B < 2 ^ 100) (hn : n ≤ 100)
    {s0 : Bool} (hs : s0 = false) (hg : val64 got = roundRatio b64 s0 A.natAbs B.natAbs (-(n : Int))) : got = FP.ddiv (FP.ddiv x y) w ∧ val64 (FP.ddiv x y) ≠ .nan ∧ val64 got ≠ .nan := by
  subst hs
  obtain ⟨s, h1, h2⟩ := hx.quot hy (by omega)
  have hs : s = false := by rw [h1 (by omega)]; simp [show ¬ A < 0 by omega, show ¬ B < 0 by omega]
  subst hs
  obtain ⟨c, q, e1, e2⟩ := round_part (s := false) (A := A.natAbs) (B := B.natAbs) (n := n) (by omega) (by omega) (by omega) (by omega) hn
  have hf : Core.fits b64 (.fin false c (q - n)) := by rw [← e2]; exact roundRatio_fits good_b64 _ _ (by omega) _
  rw [show (0 : Int) - 0 = 0 by omega, e1] at h2
  rw [e2] at hg
  obtain ⟨t, d, r, ew⟩ := hw.fin
  have ww : Whole ((2 ^ n : Nat) : Int) (.fin t d (r + 0)) := by unfold Dy at hw; rw [ew] at hw; exact hw
  have p := Nat.two_pow_pos n
  have pz : ((2 ^ n : Nat) : Int) ≠ 0 := Int.natCast_ne_zero.mpr (Nat.ne_of_gt p)
  have ht : t = false := by rw [whole_sign ww pz]; exact decide_eq_false (Int.not_lt.mpr (Int.natCast_nonneg (2 ^ n)))
  subst ht
  have hd : d ≠ 0 := fun h0 => pz ((whole_zero ww).mp h0)
  have nw := whole_natAbs ww
  have hq : val64 (FP.ddiv (FP.ddiv x y) w) = .fin false c (q - n) := by
    show val64 (Core.ddiv _ _) = _
    rw [val64_ddiv, h2, ew]
    simp only [quotient, if_neg hd]
    refine roundRatio_exact good_b64 (by omega) hf ?_
    rw [show q - r - (q - n) = n - r by omega, show q - n - (q - r) = r - n by omega]
    rw [Int.natAbs_natCast, Int.add_zero] at nw
    refine Nat.eq_of_mul_eq_mul_right (Nat.two_pow_pos r.toNat) ?_
    have hx : (n - r : Int).toNat + r.toNat = (r - n : Int).toNat + (n + (-r).toNat) := by omega
    calc c * 2 ^ (n - r : Int).toNat * 2 ^ r.toNat = c * 2 ^ ((n - r : Int).toNat + r.toNat) := by rw [Nat.pow_add, Nat.mul_assoc]
      _ = c * 2 ^ (r - n : Int).toNat * (2 ^ n * 2 ^ (-r).toNat) := by rw [hx, Nat.pow_add, Nat.pow_add, Nat.mul_assoc]
      _ = c * d * 2 ^ (r - n : Int).toNat * 2 ^ r.toNat := by rw [← nw]; ac_rfl
  refine ⟨val64_inj (by rw [hg]; nofun) (by rw [hg, hq]), by rw [h2]; nofun, by rw [hg]; nofun⟩
end More
end Jvm.OwnKit
namespace Jvm.OwnKit
open Jvm.FP Jvm.FP.Core
section Pow
variable {i j k k' : Int} {a b : UInt64}
theorem whole_up {d : Datum} {n : Nat} : Whole i (shf k d) ↔ Whole (i * ((2 ^ n : Nat) : Int)) (shf (k + n) d) := by
  cases d with
  | nan => exact Iff.rfl
  | inf => exact Iff.rfl
  | fin s c q =>
    show signed s (c * 2 ^ (q + k).toNat) = i * ((2 ^ (-(q + k)).toNat : Nat) : Int) ↔ signed s (c * 2 ^ (q + (k + n)).toNat) = i * ((2 ^ n : Nat) : Int) * ((2 ^ (-(q + (k + n))).toNat : Nat) : Int)
    have p : ((2 ^ (-(q + k)).toNat : Nat) : Int) ≠ 0 := by have := Nat.two_pow_pos (-(q + k)).toNat; omega
    have p2 : ((2 ^ (n + (-(q + (k + n))).toNat) : Nat) : Int) ≠ 0 := by have := Nat.two_pow_pos (n + (-(q + (k + n))).toNat); omega
    have hx : (q + (k + n)).toNat + (-(q + k)).toNat = (q + k).toNat + (n + (-(q + (k + n))).toNat) := by omega
    have e1 : signed s (c * 2 ^ (q + (k + n)).toNat) * ((2 ^ (-(q + k)).toNat : Nat) : Int) = signed s (c * 2 ^ (q + k).toNat) * ((2 ^ (n + (-(q + (k + n))).toNat) : Nat) : Int) := by
      rw [← signed_mul, ← signed_mul, Nat.mul_assoc, ← Nat.pow_add, Nat.mul_assoc, ← Nat.pow_add, hx]
    have e2 : i * ((2 ^ n : Nat) : Int) * ((2 ^ (-(q + (k + n))).toNat : Nat) : Int) * ((2 ^ (-(q + k)).toNat : Nat) : Int) = i * ((2 ^ (-(q + k)).toNat : Nat) : Int) * ((2 ^ (n + (-(q + (k + n))).toNat) : Nat) : Int) := by
      rw [Nat.pow_add, Int.natCast_mul]; ac_rfl
    constructor
    · intro h
      refine Int.eq_of_mul_eq_mul_right p ?_
      rw [e1, e2, h]
    · intro h
      refine Int.eq_of_mul_eq_mul_right p2 ?_
      rw [← e1, ← e2, h]
theorem Dy.down {n : Nat} (ha : Dy (i * ((2 ^ n : Nat) : Int)) (k + n) a) : Dy i k a := whole_up.mpr ha
/-- times a power of two -/
theorem Dy.mulp (ha : Dy i k a) (n : Nat) (hb : Dy ((2 ^ n : Nat) : Int) 0 b) (h : i.natAbs < 2 ^ 53) (h1 : -900 ≤ k - n) (h2 : k - n ≤ 1000) : Dy i (k - n) (FP.dmul a b) := by
  show Whole i (shf (k - n) (val64 (Core.dmul a b)))
  rw [val64_dmul]
  refine dy_round h h1 h2 ?_
  rw [whole_up (n := n), show k - n + n = k + 0 by omega, shf_prod]
  exact whole_product ha hb
end Pow
end Jvm.OwnKit
namespace Jvm.OwnKit
theorem and64 (x m : Int64) (hm : 0 ≤ m.toInt) : 0 ≤ (x &&& m).toInt ∧ (x &&& m).toInt ≤ m.toInt := by
  have h : (x &&& m).toBitVec.toNat ≤ m.toBitVec.toNat := by rw [Int64.toBitVec_and, BitVec.toNat_and]; exact Nat.and_le_right
  have e : ∀ y : Int64, y.toInt = y.toBitVec.toInt := fun _ => rfl
  rw [e] at hm ⊢
  rw [e m]
  rw [BitVec.toInt_eq_toNat_cond] at hm ⊢
  rw [BitVec.toInt_eq_toNat_cond]
  have l1 := m.toBitVec.isLt
  have l2 := (x &&& m).toBitVec.isLt
  split at hm <;> split <;> omega
theorem and32 (x m : Int32) (hm : 0 ≤ m.toInt) : 0 ≤ (x &&& m).toInt ∧ (x &&& m).toInt ≤ m.toInt := by
  have h : (x &&& m).toBitVec.toNat ≤ m.toBitVec.toNat := by rw [Int32.toBitVec_and, BitVec.toNat_and]; exact Nat.and_le_right
  have e : ∀ y : Int32, y.toInt = y.toBitVec.toInt := fun _ => rfl
  rw [e] at hm ⊢
  rw [e m]
  rw [BitVec.toInt_eq_toNat_cond] at hm ⊢
  rw [BitVec.toInt_eq_toNat_cond]
  have l1 := m.toBitVec.isLt
  have l2 := (x &&& m).toBitVec.isLt
  split at hm <;> split <;> omega
end Jvm.OwnKit
namespace Jvm.Pilot.@@N@@
open Jvm Jvm.ClassFile Sem Op Lib Jvm.Free Jvm.Stand Jvm.LawKit Jvm.RoadKit Jvm.OwnKit Bundle Jvm.Pilot.@@N@@.Jvm.D

theorem own_two : Dy 2 0 (4611686018427387904 : UInt64) := Dy.lit (show FP.Core.val64 4611686018427387904 = .fin false 4503599627370496 (-51) by decide +kernel) (by decide)
theorem own_four : Dy 4 0 (4616189618054758400 : UInt64) := Dy.lit (show FP.Core.val64 4616189618054758400 = .fin false 4503599627370496 (-50) by decide +kernel) (by decide)
theorem own_l2d {a : Int64} {i : Int} (e : a.toInt = i) (h : i.natAbs < 2 ^ 53) : Dy i 0 (FP.l2d a) := by subst e; exact Dy.l2d h
theorem own_plain {t dl m cf ct cfq num den two : Int64} {tf mu : UInt64} {kk : Nat} (hk : kk ≤ 15) (ht : 0 ≤ t.toInt ∧ t.toInt < 2 ^ 24) (hdl : 0 ≤ dl.toInt ∧ dl.toInt < 2 ^ 48) (hm : 1 ≤ m.toInt ∧ m.toInt ≤ 2 ^ 20)
    (hcf : 0 ≤ cf.toInt ∧ cf.toInt < 2 ^ 53) (hct : 0 < ct.toInt ∧ ct.toInt < 2 ^ 53) (hq : 0 ≤ cfq.toInt ∧ cfq.toInt < 2 ^ 24) (hrel : cf.toInt * ((2 ^ kk : Nat) : Int) = cfq.toInt * ct.toInt)
    (htf : FP.ddiv (FP.l2d t) (4611686018427387904 : UInt64) = tf) (hmu : FP.ddiv (FP.l2d m) (4616189618054758400 : UInt64) = mu)
    (hnum : num.toInt = t.toInt * ((2 ^ (kk + 1) : Nat) : Int) + m.toInt * cfq.toInt) (hden : den.toInt = 4 * dl.toInt + m.toInt) (htwo : two.toInt = ((2 ^ kk : Nat) : Int)) :
    Fl.NoNaN64 (FP.ddiv (FP.l2d cf) (FP.l2d ct)) ∧ Fl.NoNaN64 (FP.dmul mu (FP.ddiv (FP.l2d cf) (FP.l2d ct))) ∧ Fl.NoNaN64 (FP.dadd tf (FP.dmul mu (FP.ddiv (FP.l2d cf) (FP.l2d ct)))) ∧ Fl.NoNaN64 (FP.dadd (FP.l2d dl) mu) ∧
    Fl.NoNaN64 (FP.ddiv (FP.dadd tf (FP.dmul mu (FP.ddiv (FP.l2d cf) (FP.l2d ct)))) (FP.dadd (FP.l2d dl) mu)) ∧ Fl.NoNaN64 (FP.ddiv (FP.l2d num) (FP.l2d den)) ∧ Fl.NoNaN64 (FP.ddiv (FP.ddiv (FP.l2d num) (FP.l2d den)) (FP.l2d two)) ∧
    FP.dcmp (FP.ddiv (FP.dadd tf (FP.dmul mu (FP.ddiv (FP.l2d cf) (FP.l2d ct)))) (FP.dadd (FP.l2d dl) mu)) (FP.ddiv (FP.ddiv (FP.l2d num) (FP.l2d den)) (FP.l2d two)) = some .eq := by
  have p1 : 2 ^ kk ≤ 2 ^ 15 := Nat.pow_le_pow_right (by decide) hk
  have p0 : 0 < 2 ^ kk := Nat.two_pow_pos kk
  have p2 : 2 ^ (kk + 1) = 2 * 2 ^ kk := by rw [Nat.pow_succ, Nat.mul_comm]
  have mq0 : 0 ≤ m.toInt * cfq.toInt := Int.mul_nonneg (by omega) hq.1
  have mq1 : m.toInt * cfq.toInt ≤ 2 ^ 20 * 2 ^ 24 := Int.mul_le_mul hm.2 (by omega) hq.1 (by decide)
  have tq0 : 0 ≤ t.toInt * ((2 ^ (kk + 1) : Nat) : Int) := Int.mul_nonneg ht.1 (by omega)
  have tq1 : t.toInt * ((2 ^ (kk + 1) : Nat) : Int) ≤ 2 ^ 24 * 2 ^ 16 := Int.mul_le_mul (by omega) (by omega) (by omega) (by decide)
  have Dtf : Dy t.toInt 1 tf := by rw [← htf]; exact (Dy.divp (k := 0) (own_l2d rfl (by omega)) 1 own_two (by omega) (by decide) (by decide)).cast rfl (by decide)
  have Dmu : Dy m.toInt 2 mu := by rw [← hmu]; exact (Dy.divp (k := 0) (own_l2d rfl (by omega)) 2 own_four (by omega) (by decide) (by decide)).cast rfl (by decide)
  have Dr : Dy cfq.toInt kk (FP.ddiv (FP.l2d cf) (FP.l2d ct)) := by
    have h1 : Dy (cfq.toInt * ct.toInt) kk (FP.l2d cf) := ((own_l2d (a := cf) rfl (by omega)).up kk).cast hrel (by omega)
    exact (h1.div (k' := 0) (own_l2d (a := ct) rfl (by omega)) (by omega) (by omega) (by omega) (by omega)).cast rfl (by omega)
  have Dp := Dmu.mul Dr (by omega) (by omega) (by omega)
  have Ds := ((Dtf.up (kk + 1)).cast rfl (show (1 : Int) + ((kk + 1 : Nat) : Int) = 2 + kk by omega)).add Dp (by omega) (by omega) (by omega)
  have Dd := (((own_l2d (a := dl) rfl (by omega)).up 2).cast (j := 4 * dl.toInt) (k' := 2) (by omega) (by decide)).add Dmu (by omega) (by omega) (by omega)
  have Dn : Dy num.toInt 0 (FP.l2d num) := own_l2d rfl (by omega)
  have De : Dy den.toInt 0 (FP.l2d den) := own_l2d rfl (by omega)
  have Dw : Dy ((2 ^ kk : Nat) : Int) 0 (FP.l2d two) := own_l2d htwo (by omega)
  rw [← hnum] at Ds
  rw [← hden] at Dd
  refine ⟨Dr.nn, Dp.nn, Ds.nn, Dd.nn, ?_⟩
  have hd0 : den.toInt ≠ 0 := by omega
  by_cases hz : num.toInt = 0
  · rw [hz] at Ds Dn
    have z1 : Dy (0 * den.toInt) (2 + kk) (FP.dadd tf (FP.dmul mu (FP.ddiv (FP.l2d cf) (FP.l2d ct)))) := by rw [Int.zero_mul]; exact Ds
    have z2 : Dy (0 * den.toInt) 0 (FP.l2d num) := by rw [Int.zero_mul]; exact Dn
    have g1 := z1.div Dd hd0 (by decide) (by omega) (by omega)
    have g2 := z2.div De hd0 (by decide) (by omega) (by omega)
    have g3 : Dy (0 * ((2 ^ kk : Nat) : Int)) (0 - 0) (FP.ddiv (FP.l2d num) (FP.l2d den)) := by rw [Int.zero_mul]; exact g2
    have g4 := g3.div Dw (by omega) (by decide) (by omega) (by omega)
    refine ⟨g1.nn, g2.nn, g4.nn, ?_⟩
    have g1' := (g1.up 0).cast (j := 0) (k' := kk) (by simp) (by omega)
    have g4' := (g4.up kk).cast (j := 0) (k' := kk) (by simp) (by omega)
    exact g1'.cmp g4'
  · obtain ⟨s, hs, e⟩ := Ds.quot Dd hd0
    have hs0 : s = false := by rw [hs hz]; simp [show ¬ num.toInt < 0 by omega, show ¬ den.toInt < 0 by omega]
    rw [show (2 : Int) - (2 + kk) = -(kk : Int) by omega] at e
    obtain ⟨r1, r2, r3⟩ := div_part Dn De Dw (by omega) (by omega) (by omega) (by omega) (by omega) hs0 e
    rw [← r1]
    exact ⟨Fl.val64_no.mpr r3, Fl.val64_no.mpr r2, Fl.val64_no.mpr r3, FP.Core.dcmp_self r3⟩
theorem own_sh (i : Fin 16) : ((1 : Int64) <<< ((Int32.ofNat i.1) &&& 0x3f).toInt64).toInt = ((2 ^ i.1 : Nat) : Int) := by revert i; decide +kernel
theorem own_sh1 (i : Fin 16) : ((1 : Int64) <<< (((Int32.ofNat i.1) + (1 : Int32)) &&& 0x3f).toInt64).toInt = ((2 ^ (i.1 + 1) : Nat) : Int) := by revert i; decide +kernel
theorem own_k {k : Int32} (h1 : 0 ≤ k.toInt) (h2 : k.toInt ≤ 15) : ∃ i : Fin 16, k = Int32.ofNat i.1 ∧ k.toInt.toNat = i.1 := by
  refine ⟨⟨k.toInt.toNat, by omega⟩, ?_, rfl⟩
  apply Int32.toInt_inj.mp
  rw [Int32.toInt_ofNat_of_lt (by show k.toInt.toNat < _; omega)]
  show k.toInt = ((k.toInt.toNat : Nat) : Int)
  omega
theorem own_num {t m q num : Int64} {k : Int32} {i : Fin 16} (hk : k = Int32.ofNat i.1) (ht : 0 ≤ t.toInt ∧ t.toInt < 2 ^ 24) (hm : 1 ≤ m.toInt ∧ m.toInt ≤ 2 ^ 20) (hq : 0 ≤ q.toInt ∧ q.toInt < 2 ^ 24)
    (e : (t <<< ((k + (1 : Int32)) &&& 0x3f).toInt64) + m * q = num) : num.toInt = t.toInt * ((2 ^ (i.1 + 1) : Nat) : Int) + m.toInt * q.toInt := by
  subst hk
  have s1 := own_sh1 i
  have p2 : 2 ^ (i.1 + 1) ≤ 2 ^ 16 := Nat.pow_le_pow_right (by decide) (by omega)
  have p0 : 0 < 2 ^ (i.1 + 1) := Nat.two_pow_pos _
  rw [shlmL (x := t) rfl] at e
  have mq0 : 0 ≤ m.toInt * q.toInt := Int.mul_nonneg (by omega) hq.1
  have mq1 : m.toInt * q.toInt ≤ 2 ^ 20 * 2 ^ 24 := Int.mul_le_mul hm.2 (by omega) hq.1 (by decide)
  have tq0 : 0 ≤ t.toInt * ((2 ^ (i.1 + 1) : Nat) : Int) := Int.mul_nonneg ht.1 (by omega)
  have tq1 : t.toInt * ((2 ^ (i.1 + 1) : Nat) : Int) ≤ 2 ^ 24 * 2 ^ 16 := Int.mul_le_mul (by omega) (by omega) (by omega) (by decide)
  have e1 := FP.Core.int64_mul (a := t) (b := (1 : Int64) <<< (((Int32.ofNat i.1) + (1 : Int32)) &&& 0x3f).toInt64) (by rw [s1]; omega) (by rw [s1]; omega)
  have e2 := FP.Core.int64_mul (a := m) (b := q) (by omega) (by omega)
  rw [s1] at e1
  rw [← e, FP.Core.int64_add (by rw [e1, e2]; omega) (by rw [e1, e2]; omega), e1, e2]
theorem own_den {d m den : Int64} (hd : 0 ≤ d.toInt ∧ d.toInt < 2 ^ 48) (hm : 1 ≤ m.toInt ∧ m.toInt ≤ 2 ^ 20) (e : (4 : Int64) * d + m = den) : den.toInt = 4 * d.toInt + m.toInt := by
  have e1 := FP.Core.int64_mul (a := 4) (b := d) (by rw [show (4 : Int64).toInt = 4 from rfl]; omega) (by rw [show (4 : Int64).toInt = 4 from rfl]; omega)
  rw [show (4 : Int64).toInt = 4 from rfl] at e1
  rw [← e, FP.Core.int64_add (by rw [e1]; omega) (by rw [e1]; omega), e1]
theorem own_inc {a b : Int64} {A : Int} (ha : 0 ≤ a.toInt ∧ a.toInt ≤ A) (hA : A < 2 ^ 62) (e : a + (1 : Int64) = b) : 1 ≤ b.toInt ∧ b.toInt ≤ A + 1 := by
  have e1 := FP.Core.int64_add (a := a) (b := 1) (by rw [show (1 : Int64).toInt = 1 from rfl]; omega) (by rw [show (1 : Int64).toInt = 1 from rfl]; omega)
  rw [show (1 : Int64).toInt = 1 from rfl, e] at e1
  omega
theorem d1_0 : decode prog_8_method_4_code 0 = .ok (.lload 6, 2) := by decide +kernel
theorem d1_2 : decode prog_8_method_4_code 2 = .ok (.l2d, 1) := by decide +kernel
theorem d1_3 : decode prog_8_method_4_code 3 = .ok (.lload 8, 2) := by decide +kernel
theorem d1_5 : decode prog_8_method_4_code 5 = .ok (.l2d, 1) := by decide +kernel
theorem d1_6 : decode prog_8_method_4_code 6 = .ok (.ddiv, 1) := by decide +kernel
theorem d1_7 : decode prog_8_method_4_code 7 = .ok (.dstore 10, 2) := by decide +kernel
theorem d1_9 : decode prog_8_method_4_code 9 = .ok (.dload_n 2, 1) := by decide +kernel
theorem d1_10 : decode prog_8_method_4_code 10 = .ok (.dload_n 0, 1) := by decide +kernel
theorem d1_11 : decode prog_8_method_4_code 11 = .ok (.dload 10, 2) := by decide +kernel
theorem d1_13 : decode prog_8_method_4_code 13 = .ok (.dmul, 1) := by decide +kernel
theorem d1_14 : decode prog_8_method_4_code 14 = .ok (.dadd, 1) := by decide +kernel
theorem d1_15 : decode prog_8_method_4_code 15 = .ok (.lload 4, 2) := by decide +kernel
theorem d1_17 : decode prog_8_method_4_code 17 = .ok (.l2d, 1) := by decide +kernel
theorem d1_18 : decode prog_8_method_4_code 18 = .ok (.dload_n 0, 1) := by decide +kernel
theorem d1_19 : decode prog_8_method_4_code 19 = .ok (.dadd, 1) := by decide +kernel
theorem d1_20 : decode prog_8_method_4_code 20 = .ok (.ddiv, 1) := by decide +kernel
theorem d1_21 : decode prog_8_method_4_code 21 = .ok (.dreturn, 1) := by decide +kernel
theorem pn_17 : plainName "com/example/helenus/helenus/Dirichlet" = true := by first | (simp [plainName, overriddenIn]; done) | decide +kernel
theorem ef_rm1 (m : MethodId) (mu : UInt64) (tf : UInt64) (dl : Int64) (cf : Int64) (ct : Int64) : entryFrame m #[(.double mu), (.double tf), (.long dl), (.long cf), (.long ct)] 12 = mkF m 0 #[.val (.double mu), .second, .val (.double tf), .second, .val (.long dl), .second, .val (.long cf), .second, .val (.long ct), .second, .unset, .unset] [] := by first | (simp [entryFrame, mkF, argsToLocals, Value.category]; done) | rfl
def Q_rm1 (Z : State) (mu : UInt64) (tf : UInt64) (dl : Int64) (cf : Int64) (ct : Int64) (h0 : Heap) (n0 : Nat) (v : Option Value) (h : Heap) (L : List Loc) : Prop := v = (some (.double (FP.ddiv (FP.dadd tf (FP.dmul mu (FP.ddiv (FP.l2d cf) (FP.l2d ct)))) (FP.dadd (FP.l2d dl) mu)))) ∧ Fr n0 L ∧ h = h0
set_option maxRecDepth 65536 in
set_option maxHeartbeats 40000000 in
theorem rm1 (l : Launch) (Z : State) (a0 : Array Value) (hw : ∀ d ∈ tables_1, d.before a0 Z = true) (mu : UInt64) (tf : UInt64) (dl : Int64) (cf : Int64) (ct : Int64) (h0 : Heap) (n0 : Nat) (Z0 : n0 ≤ h0.size) (n6 : Fl.NoNaN64 (FP.ddiv (FP.l2d cf) (FP.l2d ct))) (n13 : Fl.NoNaN64 (FP.dmul mu (FP.ddiv (FP.l2d cf) (FP.l2d ct)))) (n14 : Fl.NoNaN64 (FP.dadd tf (FP.dmul mu (FP.ddiv (FP.l2d cf) (FP.l2d ct))))) (n19 : Fl.NoNaN64 (FP.dadd (FP.l2d dl) mu)) (n20 : Fl.NoNaN64 (FP.ddiv (FP.dadd tf (FP.dmul mu (FP.ddiv (FP.l2d cf) (FP.l2d ct)))) (FP.dadd (FP.l2d dl) mu))) :
    Ctr l Z h0 (⟨"com/example/helenus/helenus/Dirichlet", "probability", "(DDJJJ)D"⟩ : MethodName) prog_8_method_4_code 12 (some .double) [] ({ frames := 0, cells := 0, slots := 0, locals := 0 } : Room) #[(.double mu), (.double tf), (.long dl), (.long cf), (.long ct)] (Q_rm1 Z mu tf dl cf ct h0 n0) := by
  refine Ctr.make (plainFor_of_name pn_17) fun p e s m below meth c s₁ K hret hml hx hby hown hnm hZ X0 e0 hK => ?_
  have hown : s.vm.findClass "com/example/helenus/helenus/Dirichlet" = some m.cls := hown
  have N0 := Fr.nil n0
  have K0 : Keep h0 h0 [] := Keep.refl _ _
  refine Bk.of (fun _ k => castTop (ef_rm1 m mu tf dl cf ct) k) ?_
  show Bk p.tables e below (s₁.setTop (mkF m 0 #[.val (.double mu), .second, .val (.double tf), .second, .val (.long dl), .second, .val (.long cf), .second, .val (.long ct), .second, .unset, .unset] [])) K
  refine Bk.of (fun _ k => XS.lload X0.here hx rfl (hb hby d1_0) rfl k) ?_
  show Bk p.tables e below (s₁.setTop (mkF m 2 #[.val (.double mu), .second, .val (.double tf), .second, .val (.long dl), .second, .val (.long cf), .second, .val (.long ct), .second, .unset, .unset] [(.long cf)])) K
  refine Bk.of (fun _ k => XS.l2dS X0.here hx rfl (hb hby d1_2) rfl rfl k) ?_
  show Bk p.tables e below (s₁.setTop (mkF m 3 #[.val (.double mu), .second, .val (.double tf), .second, .val (.long dl), .second, .val (.long cf), .second, .val (.long ct), .second, .unset, .unset] [(.double (FP.l2d cf))])) K
  refine Bk.of (fun _ k => XS.lload X0.here hx rfl (hb hby d1_3) rfl k) ?_
  show Bk p.tables e below (s₁.setTop (mkF m 5 #[.val (.double mu), .second, .val (.double tf), .second, .val (.long dl), .second, .val (.long cf), .second, .val (.long ct), .second, .unset, .unset] [(.long ct), (.double (FP.l2d cf))])) K
  refine Bk.of (fun _ k => XS.l2dS X0.here hx rfl (hb hby d1_5) rfl rfl k) ?_
  show Bk p.tables e below (s₁.setTop (mkF m 6 #[.val (.double mu), .second, .val (.double tf), .second, .val (.long dl), .second, .val (.long cf), .second, .val (.long ct), .second, .unset, .unset] [(.double (FP.l2d ct)), (.double (FP.l2d cf))])) K
  refine Bk.of (fun _ k => XS.ddivS X0.here hx rfl (hb hby d1_6) rfl n6 rfl k) ?_
  show Bk p.tables e below (s₁.setTop (mkF m 7 #[.val (.double mu), .second, .val (.double tf), .second, .val (.long dl), .second, .val (.long cf), .second, .val (.long ct), .second, .unset, .unset] [(.double (FP.ddiv (FP.l2d cf) (FP.l2d ct)))])) K
  refine Bk.of (fun _ k => XS.dstore X0.here hx rfl (hb hby d1_7) rfl (l' := #[.val (.double mu), .second, .val (.double tf), .second, .val (.long dl), .second, .val (.long cf), .second, .val (.long ct), .second, .val (.double (FP.ddiv (FP.l2d cf) (FP.l2d ct))), .second]) rfl k) ?_
  show Bk p.tables e below (s₁.setTop (mkF m 9 #[.val (.double mu), .second, .val (.double tf), .second, .val (.long dl), .second, .val (.long cf), .second, .val (.long ct), .second, .val (.double (FP.ddiv (FP.l2d cf) (FP.l2d ct))), .second] [])) K
  refine Bk.of (fun _ k => XS.dloadN X0.here hx rfl (hb hby d1_9) rfl k) ?_
  show Bk p.tables e below (s₁.setTop (mkF m 10 #[.val (.double mu), .second, .val (.double tf), .second, .val (.long dl), .second, .val (.long cf), .second, .val (.long ct), .second, .val (.double (FP.ddiv (FP.l2d cf) (FP.l2d ct))), .second] [(.double tf)])) K
  refine Bk.of (fun _ k => XS.dloadN X0.here hx rfl (hb hby d1_10) rfl k) ?_
  show Bk p.tables e below (s₁.setTop (mkF m 11 #[.val (.double mu), .second, .val (.double tf), .second, .val (.long dl), .second, .val (.long cf), .second, .val (.long ct), .second, .val (.double (FP.ddiv (FP.l2d cf) (FP.l2d ct))), .second] [(.double mu), (.double tf)])) K
  refine Bk.of (fun _ k => XS.dload X0.here hx rfl (hb hby d1_11) rfl k) ?_
  show Bk p.tables e below (s₁.setTop (mkF m 13 #[.val (.double mu), .second, .val (.double tf), .second, .val (.long dl), .second, .val (.long cf), .second, .val (.long ct), .second, .val (.double (FP.ddiv (FP.l2d cf) (FP.l2d ct))), .second] [(.double (FP.ddiv (FP.l2d cf) (FP.l2d ct))), (.double mu), (.double tf)])) K
  refine Bk.of (fun _ k => XS.dmulS X0.here hx rfl (hb hby d1_13) rfl n13 rfl k) ?_
  show Bk p.tables e below (s₁.setTop (mkF m 14 #[.val (.double mu), .second, .val (.double tf), .second, .val (.long dl), .second, .val (.long cf), .second, .val (.long ct), .second, .val (.double (FP.ddiv (FP.l2d cf) (FP.l2d ct))), .second] [(.double (FP.dmul mu (FP.ddiv (FP.l2d cf) (FP.l2d ct)))), (.double tf)])) K
  refine Bk.of (fun _ k => XS.daddS X0.here hx rfl (hb hby d1_14) rfl n14 rfl k) ?_
  show Bk p.tables e below (s₁.setTop (mkF m 15 #[.val (.double mu), .second, .val (.double tf), .second, .val (.long dl), .second, .val (.long cf), .second, .val (.long ct), .second, .val (.double (FP.ddiv (FP.l2d cf) (FP.l2d ct))), .second] [(.double (FP.dadd tf (FP.dmul mu (FP.ddiv (FP.l2d cf) (FP.l2d ct)))))])) K
  refine Bk.of (fun _ k => XS.lload X0.here hx rfl (hb hby d1_15) rfl k) ?_
  show Bk p.tables e below (s₁.setTop (mkF m 17 #[.val (.double mu), .second, .val (.double tf), .second, .val (.long dl), .second, .val (.long cf), .second, .val (.long ct), .second, .val (.double (FP.ddiv (FP.l2d cf) (FP.l2d ct))), .second] [(.long dl), (.double (FP.dadd tf (FP.dmul mu (FP.ddiv (FP.l2d cf) (FP.l2d ct)))))])) K
  refine Bk.of (fun _ k => XS.l2dS X0.here hx rfl (hb hby d1_17) rfl rfl k) ?_
  show Bk p.tables e below (s₁.setTop (mkF m 18 #[.val (.double mu), .second, .val (.double tf), .second, .val (.long dl), .second, .val (.long cf), .second, .val (.long ct), .second, .val (.double (FP.ddiv (FP.l2d cf) (FP.l2d ct))), .second] [(.double (FP.l2d dl)), (.double (FP.dadd tf (FP.dmul mu (FP.ddiv (FP.l2d cf) (FP.l2d ct)))))])) K
  refine Bk.of (fun _ k => XS.dloadN X0.here hx rfl (hb hby d1_18) rfl k) ?_
  show Bk p.tables e below (s₁.setTop (mkF m 19 #[.val (.double mu), .second, .val (.double tf), .second, .val (.long dl), .second, .val (.long cf), .second, .val (.long ct), .second, .val (.double (FP.ddiv (FP.l2d cf) (FP.l2d ct))), .second] [(.double mu), (.double (FP.l2d dl)), (.double (FP.dadd tf (FP.dmul mu (FP.ddiv (FP.l2d cf) (FP.l2d ct)))))])) K
  refine Bk.of (fun _ k => XS.daddS X0.here hx rfl (hb hby d1_19) rfl n19 rfl k) ?_
  show Bk p.tables e below (s₁.setTop (mkF m 20 #[.val (.double mu), .second, .val (.double tf), .second, .val (.long dl), .second, .val (.long cf), .second, .val (.long ct), .second, .val (.double (FP.ddiv (FP.l2d cf) (FP.l2d ct))), .second] [(.double (FP.dadd (FP.l2d dl) mu)), (.double (FP.dadd tf (FP.dmul mu (FP.ddiv (FP.l2d cf) (FP.l2d ct)))))])) K
  refine Bk.of (fun _ k => XS.ddivS X0.here hx rfl (hb hby d1_20) rfl n20 rfl k) ?_
  show Bk p.tables e below (s₁.setTop (mkF m 21 #[.val (.double mu), .second, .val (.double tf), .second, .val (.long dl), .second, .val (.long cf), .second, .val (.long ct), .second, .val (.double (FP.ddiv (FP.l2d cf) (FP.l2d ct))), .second] [(.double (FP.ddiv (FP.dadd tf (FP.dmul mu (FP.ddiv (FP.l2d cf) (FP.l2d ct)))) (FP.dadd (FP.l2d dl) mu)))])) K
  refine hK (some (.double (FP.ddiv (FP.dadd tf (FP.dmul mu (FP.ddiv (FP.l2d cf) (FP.l2d ct)))) (FP.dadd (FP.l2d dl) mu)))) X0 (fun q => by cases q) (fun fs hr => retOut X0 hx hret rfl (Or.inr (Or.inr (Or.inl ⟨rfl, rfl, _, rfl⟩))) (hb hby d1_21) hr) ?_ (by decide) (by decide)
  rw [show s₁.heap = h0 from e0]
  exact ⟨rfl, N0, rfl⟩
theorem pd_18 : parseMethodDescriptor "(DDJJJ)D" = some ⟨[.double, .double, .long, .long, .long], some .double⟩ := by decide +kernel
theorem pn_19 : plainName "com/example/helenus/helenus/DirichletProbabilityPinLaw" = true := by first | (simp [plainName, overriddenIn]; done) | decide +kernel
theorem ef_rm0 (m : MethodId) (p1 : Int32) (q2 : Int64) (q3 : Int64) (q4 : Int64) (p5 : Int32) (p6 : Int32) : entryFrame m #[(.int p1), (.long q2), (.long q3), (.long q4), (.int p5), (.int p6)] maxLocals = mkF m 0 #[.val (.int p1), .val (.long q2), .second, .val (.long q3), .second, .val (.long q4), .second, .val (.int p5), .val (.int p6), .unset, .unset, .unset, .unset, .unset, .unset, .unset, .unset, .unset, .unset, .unset, .unset, .unset, .unset, .unset, .unset, .unset, .unset, .unset, .unset, .unset, .unset, .unset, .unset, .unset] [] := by first | (simp [entryFrame, mkF, argsToLocals, Value.category, maxLocals]; done) | rfl
def Q_rm0 (Z : State) (p1 : Int32) (q2 : Int64) (q3 : Int64) (q4 : Int64) (p5 : Int32) (p6 : Int32) (h0 : Heap) (n0 : Nat) (v : Option Value) (h : Heap) (L : List Loc) : Prop := v = (some (.int (1 : Int32))) ∧ Fr n0 L
set_option maxRecDepth 65536 in
set_option maxHeartbeats 40000000 in
theorem rm0 (l : Launch) (Z : State) (a0 : Array Value) (hw : ∀ d ∈ tables_1, d.before a0 Z = true) (ws : List Jvm.Cond) (p1 : Int32) (q2 : Int64) (q3 : Int64) (q4 : Int64) (p5 : Int32) (p6 : Int32) (h0 : Heap) (n0 : Nat) (Z0 : n0 ≤ h0.size) :
    Ctr l Z h0 x code maxLocals ret ws room_1 #[(.int p1), (.long q2), (.long q3), (.long q4), (.int p5), (.int p6)] (Q_rm0 Z p1 q2 q3 q4 p5 p6 h0 n0) := by
  refine Ctr.make (plainFor_of_name pn_19) fun p e s m below meth c s₁ K hret hml hx hby hown hnm hZ X0 e0 hK => ?_
  have hown : s.vm.findClass "com/example/helenus/helenus/DirichletProbabilityPinLaw" = some m.cls := hown
  have hml : c.maxLocals = 34 := hml
  have N0 := Fr.nil n0
  have K0 : Keep h0 h0 [] := Keep.refl _ _
  refine Bk.of (fun _ k => castTop (ef_rm0 m p1 q2 q3 q4 p5 p6) k) ?_
  show Bk p.tables e below (s₁.setTop (mkF m 0 #[.val (.int p1), .val (.long q2), .second, .val (.long q3), .second, .val (.long q4), .second, .val (.int p5), .val (.int p6), .unset, .unset, .unset, .unset, .unset, .unset, .unset, .unset, .unset, .unset, .unset, .unset, .unset, .unset, .unset, .unset, .unset, .unset, .unset, .unset, .unset, .unset, .unset, .unset, .unset] [])) K
  refine Bk.of (fun _ k => XS.iloadN X0.here hx rfl (hb hby at_0) rfl k) ?_
  show Bk p.tables e below (s₁.setTop (mkF m 1 #[.val (.int p1), .val (.long q2), .second, .val (.long q3), .second, .val (.long q4), .second, .val (.int p5), .val (.int p6), .unset, .unset, .unset, .unset, .unset, .unset, .unset, .unset, .unset, .unset, .unset, .unset, .unset, .unset, .unset, .unset, .unset, .unset, .unset, .unset, .unset, .unset, .unset, .unset, .unset] [(.int p1)])) K
  refine Bk.of (fun _ k => XS.i2l X0.here hx rfl (hb hby at_1) rfl k) ?_
  show Bk p.tables e below (s₁.setTop (mkF m 2 #[.val (.int p1), .val (.long q2), .second, .val (.long q3), .second, .val (.long q4), .second, .val (.int p5), .val (.int p6), .unset, .unset, .unset, .unset, .unset, .unset, .unset, .unset, .unset, .unset, .unset, .unset, .unset, .unset, .unset, .unset, .unset, .unset, .unset, .unset, .unset, .unset, .unset, .unset, .unset] [(.long (p1.toInt64))])) K
  refine Bk.of (fun _ k => X0.ldc2Long hx hown (mvT hZ (hw _ (List.mem_of_getElem? (i := 0) rfl))) (g := (mkF m 2 #[.val (.int p1), .val (.long q2), .second, .val (.long q3), .second, .val (.long q4), .second, .val (.int p5), .val (.int p6), .unset, .unset, .unset, .unset, .unset, .unset, .unset, .unset, .unset, .unset, .unset, .unset, .unset, .unset, .unset, .unset, .unset, .unset, .unset, .unset, .unset, .unset, .unset, .unset, .unset] [(.long (p1.toInt64))])) rfl (hb hby at_2) _ k) ?_
  show Bk p.tables e below (s₁.setTop (mkF m 5 #[.val (.int p1), .val (.long q2), .second, .val (.long q3), .second, .val (.long q4), .second, .val (.int p5), .val (.int p6), .unset, .unset, .unset, .unset, .unset, .unset, .unset, .unset, .unset, .unset, .unset, .unset, .unset, .unset, .unset, .unset, .unset, .unset, .unset, .unset, .unset, .unset, .unset, .unset, .unset] [(.long (16777215 : Int64)), (.long (p1.toInt64))])) K
  refine Bk.of (fun _ k => XS.land X0.here hx rfl (hb hby at_5) rfl k) ?_
  show Bk p.tables e below (s₁.setTop (mkF m 6 #[.val (.int p1), .val (.long q2), .second, .val (.long q3), .second, .val (.long q4), .second, .val (.int p5), .val (.int p6), .unset, .unset, .unset, .unset, .unset, .unset, .unset, .unset, .unset, .unset, .unset, .unset, .unset, .unset, .unset, .unset, .unset, .unset, .unset, .unset, .unset, .unset, .unset, .unset, .unset] [(.long ((p1.toInt64) &&& (16777215 : Int64)))])) K
  refine Bk.of (fun _ k => XS.lstore X0.here hx rfl (hb hby at_6) rfl (l' := #[.val (.int p1), .val (.long q2), .second, .val (.long q3), .second, .val (.long q4), .second, .val (.int p5), .val (.int p6), .val (.long ((p1.toInt64) &&& (16777215 : Int64))), .second, .unset, .unset, .unset, .unset, .unset, .unset, .unset, .unset, .unset, .unset, .unset, .unset, .unset, .unset, .unset, .unset, .unset, .unset, .unset, .unset, .unset, .unset, .unset]) rfl k) ?_
  show Bk p.tables e below (s₁.setTop (mkF m 8 #[.val (.int p1), .val (.long q2), .second, .val (.long q3), .second, .val (.long q4), .second, .val (.int p5), .val (.int p6), .val (.long ((p1.toInt64) &&& (16777215 : Int64))), .second, .unset, .unset, .unset, .unset, .unset, .unset, .unset, .unset, .unset, .unset, .unset, .unset, .unset, .unset, .unset, .unset, .unset, .unset, .unset, .unset, .unset, .unset, .unset] [])) K
  generalize hv1 : ((p1.toInt64) &&& (16777215 : Int64)) = v1
  have rt : 0 ≤ v1.toInt ∧ v1.toInt < 2 ^ 24 := by have q := and64 p1.toInt64 (16777215 : Int64) (by decide); rw [hv1, show (16777215 : Int64).toInt = 16777215 from rfl] at q; omega
  refine Bk.of (fun _ k => XS.lload X0.here hx rfl (hb hby at_8) rfl k) ?_
  show Bk p.tables e below (s₁.setTop (mkF m 10 #[.val (.int p1), .val (.long q2), .second, .val (.long q3), .second, .val (.long q4), .second, .val (.int p5), .val (.int p6), .val (.long v1), .second, .unset, .unset, .unset, .unset, .unset, .unset, .unset, .unset, .unset, .unset, .unset, .unset, .unset, .unset, .unset, .unset, .unset, .unset, .unset, .unset, .unset, .unset, .unset] [(.long v1)])) K
  refine Bk.of (fun _ k => XS.l2dS X0.here hx rfl (hb hby at_10) rfl rfl k) ?_
  show Bk p.tables e below (s₁.setTop (mkF m 11 #[.val (.int p1), .val (.long q2), .second, .val (.long q3), .second, .val (.long q4), .second, .val (.int p5), .val (.int p6), .val (.long v1), .second, .unset, .unset, .unset, .unset, .unset, .unset, .unset, .unset, .unset, .unset, .unset, .unset, .unset, .unset, .unset, .unset, .unset, .unset, .unset, .unset, .unset, .unset, .unset] [(.double (FP.l2d v1))])) K
  refine Bk.of (fun _ k => X0.ldc2DoubleC hx hown (mvT hZ (hw _ (List.mem_of_getElem? (i := 1) rfl))) (g := (mkF m 11 #[.val (.int p1), .val (.long q2), .second, .val (.long q3), .second, .val (.long q4), .second, .val (.int p5), .val (.int p6), .val (.long v1), .second, .unset, .unset, .unset, .unset, .unset, .unset, .unset, .unset, .unset, .unset, .unset, .unset, .unset, .unset, .unset, .unset, .unset, .unset, .unset, .unset, .unset, .unset, .unset] [(.double (FP.l2d v1))])) rfl (hb hby at_11) _ k) ?_
  show Bk p.tables e below (s₁.setTop (mkF m 14 #[.val (.int p1), .val (.long q2), .second, .val (.long q3), .second, .val (.long q4), .second, .val (.int p5), .val (.int p6), .val (.long v1), .second, .unset, .unset, .unset, .unset, .unset, .unset, .unset, .unset, .unset, .unset, .unset, .unset, .unset, .unset, .unset, .unset, .unset, .unset, .unset, .unset, .unset, .unset, .unset] [(.double (4611686018427387904 : UInt64)), (.double (FP.l2d v1))])) K
  refine Bk.of (fun _ k => XS.ddivS X0.here hx rfl (hb hby at_14) rfl (Dy.divp (k := 0) (own_l2d rfl (by omega)) 1 own_two (by omega) (by decide) (by decide)).nn rfl k) ?_
  show Bk p.tables e below (s₁.setTop (mkF m 15 #[.val (.int p1), .val (.long q2), .second, .val (.long q3), .second, .val (.long q4), .second, .val (.int p5), .val (.int p6), .val (.long v1), .second, .unset, .unset, .unset, .unset, .unset, .unset, .unset, .unset, .unset, .unset, .unset, .unset, .unset, .unset, .unset, .unset, .unset, .unset, .unset, .unset, .unset, .unset, .unset] [(.double (FP.ddiv (FP.l2d v1) (4611686018427387904 : UInt64)))])) K
  refine Bk.of (fun _ k => XS.dstore X0.here hx rfl (hb hby at_15) rfl (l' := #[.val (.int p1), .val (.long q2), .second, .val (.long q3), .second, .val (.long q4), .second, .val (.int p5), .val (.int p6), .val (.long v1), .second, .val (.double (FP.ddiv (FP.l2d v1) (4611686018427387904 : UInt64))), .second, .unset, .unset, .unset, .unset, .unset, .unset, .unset, .unset, .unset, .unset, .unset, .unset, .unset, .unset, .unset, .unset, .unset, .unset, .unset, .unset, .unset]) rfl k) ?_
  show Bk p.tables e below (s₁.setTop (mkF m 17 #[.val (.int p1), .val (.long q2), .second, .val (.long q3), .second, .val (.long q4), .second, .val (.int p5), .val (.int p6), .val (.long v1), .second, .val (.double (FP.ddiv (FP.l2d v1) (4611686018427387904 : UInt64))), .second, .unset, .unset, .unset, .unset, .unset, .unset, .unset, .unset, .unset, .unset, .unset, .unset, .unset, .unset, .unset, .unset, .unset, .unset, .unset, .unset, .unset] [])) K
  generalize hv2 : (FP.ddiv (FP.l2d v1) (4611686018427387904 : UInt64)) = v2
  refine Bk.of (fun _ k => XS.lloadN X0.here hx rfl (hb hby at_17) rfl k) ?_
  show Bk p.tables e below (s₁.setTop (mkF m 18 #[.val (.int p1), .val (.long q2), .second, .val (.long q3), .second, .val (.long q4), .second, .val (.int p5), .val (.int p6), .val (.long v1), .second, .val (.double v2), .second, .unset, .unset, .unset, .unset, .unset, .unset, .unset, .unset, .unset, .unset, .unset, .unset, .unset, .unset, .unset, .unset, .unset, .unset, .unset, .unset, .unset] [(.long q2)])) K
  refine Bk.of (fun _ k => X0.ldc2Long hx hown (mvT hZ (hw _ (List.mem_of_getElem? (i := 2) rfl))) (g := (mkF m 18 #[.val (.int p1), .val (.long q2), .second, .val (.long q3), .second, .val (.long q4), .second, .val (.int p5), .val (.int p6), .val (.long v1), .second, .val (.double v2), .second, .unset, .unset, .unset, .unset, .unset, .unset, .unset, .unset, .unset, .unset, .unset, .unset, .unset, .unset, .unset, .unset, .unset, .unset, .unset, .unset, .unset] [(.long q2)])) rfl (hb hby at_18) _ k) ?_
  show Bk p.tables e below (s₁.setTop (mkF m 21 #[.val (.int p1), .val (.long q2), .second, .val (.long q3), .second, .val (.long q4), .second, .val (.int p5), .val (.int p6), .val (.long v1), .second, .val (.double v2), .second, .unset, .unset, .unset, .unset, .unset, .unset, .unset, .unset, .unset, .unset, .unset, .unset, .unset, .unset, .unset, .unset, .unset, .unset, .unset, .unset, .unset] [(.long (281474976710655 : Int64)), (.long q2)])) K
  refine Bk.of (fun _ k => XS.land X0.here hx rfl (hb hby at_21) rfl k) ?_
  show Bk p.tables e below (s₁.setTop (mkF m 22 #[.val (.int p1), .val (.long q2), .second, .val (.long q3), .second, .val (.long q4), .second, .val (.int p5), .val (.int p6), .val (.long v1), .second, .val (.double v2), .second, .unset, .unset, .unset, .unset, .unset, .unset, .unset, .unset, .unset, .unset, .unset, .unset, .unset, .unset, .unset, .unset, .unset, .unset, .unset, .unset, .unset] [(.long (q2 &&& (281474976710655 : Int64)))])) K
  refine Bk.of (fun _ k => XS.lstore X0.here hx rfl (hb hby at_22) rfl (l' := #[.val (.int p1), .val (.long q2), .second, .val (.long q3), .second, .val (.long q4), .second, .val (.int p5), .val (.int p6), .val (.long v1), .second, .val (.double v2), .second, .val (.long (q2 &&& (281474976710655 : Int64))), .second, .unset, .unset, .unset, .unset, .unset, .unset, .unset, .unset, .unset, .unset, .unset, .unset, .unset, .unset, .unset, .unset, .unset, .unset, .unset]) rfl k) ?_
  show Bk p.tables e below (s₁.setTop (mkF m 24 #[.val (.int p1), .val (.long q2), .second, .val (.long q3), .second, .val (.long q4), .second, .val (.int p5), .val (.int p6), .val (.long v1), .second, .val (.double v2), .second, .val (.long (q2 &&& (281474976710655 : Int64))), .second, .unset, .unset, .unset, .unset, .unset, .unset, .unset, .unset, .unset, .unset, .unset, .unset, .unset, .unset, .unset, .unset, .unset, .unset, .unset] [])) K
  generalize hv3 : (q2 &&& (281474976710655 : Int64)) = v3
  have rdl : 0 ≤ v3.toInt ∧ v3.toInt < 2 ^ 48 := by have q := and64 q2 (281474976710655 : Int64) (by decide); rw [hv3, show (281474976710655 : Int64).toInt = 281474976710655 from rfl] at q; omega
  refine Bk.of (fun _ k => XS.iload X0.here hx rfl (hb hby at_24) rfl k) ?_
  show Bk p.tables e below (s₁.setTop (mkF m 26 #[.val (.int p1), .val (.long q2), .second, .val (.long q3), .second, .val (.long q4), .second, .val (.int p5), .val (.int p6), .val (.long v1), .second, .val (.double v2), .second, .val (.long v3), .second, .unset, .unset, .unset, .unset, .unset, .unset, .unset, .unset, .unset, .unset, .unset, .unset, .unset, .unset, .unset, .unset, .unset, .unset, .unset] [(.int p5)])) K
  refine Bk.of (fun _ k => X0.ldcInt hx hown (mvT hZ (hw _ (List.mem_of_getElem? (i := 3) rfl))) (g := (mkF m 26 #[.val (.int p1), .val (.long q2), .second, .val (.long q3), .second, .val (.long q4), .second, .val (.int p5), .val (.int p6), .val (.long v1), .second, .val (.double v2), .second, .val (.long v3), .second, .unset, .unset, .unset, .unset, .unset, .unset, .unset, .unset, .unset, .unset, .unset, .unset, .unset, .unset, .unset, .unset, .unset, .unset, .unset] [(.int p5)])) rfl (hb hby at_26) _ k) ?_
  show Bk p.tables e below (s₁.setTop (mkF m 28 #[.val (.int p1), .val (.long q2), .second, .val (.long q3), .second, .val (.long q4), .second, .val (.int p5), .val (.int p6), .val (.long v1), .second, .val (.double v2), .second, .val (.long v3), .second, .unset, .unset, .unset, .unset, .unset, .unset, .unset, .unset, .unset, .unset, .unset, .unset, .unset, .unset, .unset, .unset, .unset, .unset, .unset] [(.int (1048575 : Int32)), (.int p5)])) K
  refine Bk.of (fun _ k => XS.iand X0.here hx rfl (hb hby at_28) rfl k) ?_
  show Bk p.tables e below (s₁.setTop (mkF m 29 #[.val (.int p1), .val (.long q2), .second, .val (.long q3), .second, .val (.long q4), .second, .val (.int p5), .val (.int p6), .val (.long v1), .second, .val (.double v2), .second, .val (.long v3), .second, .unset, .unset, .unset, .unset, .unset, .unset, .unset, .unset, .unset, .unset, .unset, .unset, .unset, .unset, .unset, .unset, .unset, .unset, .unset] [(.int (p5 &&& (1048575 : Int32)))])) K
  refine Bk.of (fun _ k => XS.i2l X0.here hx rfl (hb hby at_29) rfl k) ?_
  show Bk p.tables e below (s₁.setTop (mkF m 30 #[.val (.int p1), .val (.long q2), .second, .val (.long q3), .second, .val (.long q4), .second, .val (.int p5), .val (.int p6), .val (.long v1), .second, .val (.double v2), .second, .val (.long v3), .second, .unset, .unset, .unset, .unset, .unset, .unset, .unset, .unset, .unset, .unset, .unset, .unset, .unset, .unset, .unset, .unset, .unset, .unset, .unset] [(.long ((p5 &&& (1048575 : Int32)).toInt64))])) K
  refine Bk.of (fun _ k => XS.lconst X0.here hx rfl (hb hby at_30) k) ?_
  show Bk p.tables e below (s₁.setTop (mkF m 31 #[.val (.int p1), .val (.long q2), .second, .val (.long q3), .second, .val (.long q4), .second, .val (.int p5), .val (.int p6), .val (.long v1), .second, .val (.double v2), .second, .val (.long v3), .second, .unset, .unset, .unset, .unset, .unset, .unset, .unset, .unset, .unset, .unset, .unset, .unset, .unset, .unset, .unset, .unset, .unset, .unset, .unset] [(.long (1 : Int64)), (.long ((p5 &&& (1048575 : Int32)).toInt64))])) K
  refine Bk.of (fun _ k => XS.ladd X0.here hx rfl (hb hby at_31) rfl k) ?_
  show Bk p.tables e below (s₁.setTop (mkF m 32 #[.val (.int p1), .val (.long q2), .second, .val (.long q3), .second, .val (.long q4), .second, .val (.int p5), .val (.int p6), .val (.long v1), .second, .val (.double v2), .second, .val (.long v3), .second, .unset, .unset, .unset, .unset, .unset, .unset, .unset, .unset, .unset, .unset, .unset, .unset, .unset, .unset, .unset, .unset, .unset, .unset, .unset] [(.long (((p5 &&& (1048575 : Int32)).toInt64) + (1 : Int64)))])) K
  refine Bk.of (fun _ k => XS.lstore X0.here hx rfl (hb hby at_32) rfl (l' := #[.val (.int p1), .val (.long q2), .second, .val (.long q3), .second, .val (.long q4), .second, .val (.int p5), .val (.int p6), .val (.long v1), .second, .val (.double v2), .second, .val (.long v3), .second, .val (.long (((p5 &&& (1048575 : Int32)).toInt64) + (1 : Int64))), .second, .unset, .unset, .unset, .unset, .unset, .unset, .unset, .unset, .unset, .unset, .unset, .unset, .unset, .unset, .unset, .unset, .unset]) rfl k) ?_
  show Bk p.tables e below (s₁.setTop (mkF m 34 #[.val (.int p1), .val (.long q2), .second, .val (.long q3), .second, .val (.long q4), .second, .val (.int p5), .val (.int p6), .val (.long v1), .second, .val (.double v2), .second, .val (.long v3), .second, .val (.long (((p5 &&& (1048575 : Int32)).toInt64) + (1 : Int64))), .second, .unset, .unset, .unset, .unset, .unset, .unset, .unset, .unset, .unset, .unset, .unset, .unset, .unset, .unset, .unset, .unset, .unset] [])) K
  generalize hv4 : (((p5 &&& (1048575 : Int32)).toInt64) + (1 : Int64)) = v4
  have rm : 1 ≤ v4.toInt ∧ v4.toInt ≤ 2 ^ 20 := by
    have q := and32 p5 (1048575 : Int32) (by decide)
    rw [show (1048575 : Int32).toInt = 1048575 from rfl, ← Int32.toInt_toInt64] at q
    have := own_inc (A := 1048575) q (by decide) hv4; omega
  refine Bk.of (fun _ k => XS.lload X0.here hx rfl (hb hby at_34) rfl k) ?_
  show Bk p.tables e below (s₁.setTop (mkF m 36 #[.val (.int p1), .val (.long q2), .second, .val (.long q3), .second, .val (.long q4), .second, .val (.int p5), .val (.int p6), .val (.long v1), .second, .val (.double v2), .second, .val (.long v3), .second, .val (.long v4), .second, .unset, .unset, .unset, .unset, .unset, .unset, .unset, .unset, .unset, .unset, .unset, .unset, .unset, .unset, .unset, .unset, .unset] [(.long v4)])) K
  refine Bk.of (fun _ k => XS.l2dS X0.here hx rfl (hb hby at_36) rfl rfl k) ?_
  show Bk p.tables e below (s₁.setTop (mkF m 37 #[.val (.int p1), .val (.long q2), .second, .val (.long q3), .second, .val (.long q4), .second, .val (.int p5), .val (.int p6), .val (.long v1), .second, .val (.double v2), .second, .val (.long v3), .second, .val (.long v4), .second, .unset, .unset, .unset, .unset, .unset, .unset, .unset, .unset, .unset, .unset, .unset, .unset, .unset, .unset, .unset, .unset, .unset] [(.double (FP.l2d v4))])) K
  refine Bk.of (fun _ k => X0.ldc2DoubleC hx hown (mvT hZ (hw _ (List.mem_of_getElem? (i := 4) rfl))) (g := (mkF m 37 #[.val (.int p1), .val (.long q2), .second, .val (.long q3), .second, .val (.long q4), .second, .val (.int p5), .val (.int p6), .val (.long v1), .second, .val (.double v2), .second, .val (.long v3), .second, .val (.long v4), .second, .unset, .unset, .unset, .unset, .unset, .unset, .unset, .unset, .unset, .unset, .unset, .unset, .unset, .unset, .unset, .unset, .unset] [(.double (FP.l2d v4))])) rfl (hb hby at_37) _ k) ?_
  show Bk p.tables e below (s₁.setTop (mkF m 40 #[.val (.int p1), .val (.long q2), .second, .val (.long q3), .second, .val (.long q4), .second, .val (.int p5), .val (.int p6), .val (.long v1), .second, .val (.double v2), .second, .val (.long v3), .second, .val (.long v4), .second, .unset, .unset, .unset, .unset, .unset, .unset, .unset, .unset, .unset, .unset, .unset, .unset, .unset, .unset, .unset, .unset, .unset] [(.double (4616189618054758400 : UInt64)), (.double (FP.l2d v4))])) K
  refine Bk.of (fun _ k => XS.ddivS X0.here hx rfl (hb hby at_40) rfl (Dy.divp (k := 0) (own_l2d rfl (by omega)) 2 own_four (by omega) (by decide) (by decide)).nn rfl k) ?_
  show Bk p.tables e below (s₁.setTop (mkF m 41 #[.val (.int p1), .val (.long q2), .second, .val (.long q3), .second, .val (.long q4), .second, .val (.int p5), .val (.int p6), .val (.long v1), .second, .val (.double v2), .second, .val (.long v3), .second, .val (.long v4), .second, .unset, .unset, .unset, .unset, .unset, .unset, .unset, .unset, .unset, .unset, .unset, .unset, .unset, .unset, .unset, .unset, .unset] [(.double (FP.ddiv (FP.l2d v4) (4616189618054758400 : UInt64)))])) K
  refine Bk.of (fun _ k => XS.dstore X0.here hx rfl (hb hby at_41) rfl (l' := #[.val (.int p1), .val (.long q2), .second, .val (.long q3), .second, .val (.long q4), .second, .val (.int p5), .val (.int p6), .val (.long v1), .second, .val (.double v2), .second, .val (.long v3), .second, .val (.long v4), .second, .val (.double (FP.ddiv (FP.l2d v4) (4616189618054758400 : UInt64))), .second, .unset, .unset, .unset, .unset, .unset, .unset, .unset, .unset, .unset, .unset, .unset, .unset, .unset, .unset, .unset]) rfl k) ?_
  show Bk p.tables e below (s₁.setTop (mkF m 43 #[.val (.int p1), .val (.long q2), .second, .val (.long q3), .second, .val (.long q4), .second, .val (.int p5), .val (.int p6), .val (.long v1), .second, .val (.double v2), .second, .val (.long v3), .second, .val (.long v4), .second, .val (.double (FP.ddiv (FP.l2d v4) (4616189618054758400 : UInt64))), .second, .unset, .unset, .unset, .unset, .unset, .unset, .unset, .unset, .unset, .unset, .unset, .unset, .unset, .unset, .unset] [])) K
  generalize hv5 : (FP.ddiv (FP.l2d v4) (4616189618054758400 : UInt64)) = v5
  refine Bk.of (fun _ k => XS.iload X0.here hx rfl (hb hby at_43) rfl k) ?_
  show Bk p.tables e below (s₁.setTop (mkF m 45 #[.val (.int p1), .val (.long q2), .second, .val (.long q3), .second, .val (.long q4), .second, .val (.int p5), .val (.int p6), .val (.long v1), .second, .val (.double v2), .second, .val (.long v3), .second, .val (.long v4), .second, .val (.double v5), .second, .unset, .unset, .unset, .unset, .unset, .unset, .unset, .unset, .unset, .unset, .unset, .unset, .unset, .unset, .unset] [(.int p6)])) K
  refine Bk.of (fun _ k => XS.iconst X0.here hx rfl (hb hby at_45) k) ?_
  show Bk p.tables e below (s₁.setTop (mkF m 46 #[.val (.int p1), .val (.long q2), .second, .val (.long q3), .second, .val (.long q4), .second, .val (.int p5), .val (.int p6), .val (.long v1), .second, .val (.double v2), .second, .val (.long v3), .second, .val (.long v4), .second, .val (.double v5), .second, .unset, .unset, .unset, .unset, .unset, .unset, .unset, .unset, .unset, .unset, .unset, .unset, .unset, .unset, .unset] [(.int (1 : Int32)), (.int p6)])) K
  refine Bk.of (fun _ k => XS.iand X0.here hx rfl (hb hby at_46) rfl k) ?_
  show Bk p.tables e below (s₁.setTop (mkF m 47 #[.val (.int p1), .val (.long q2), .second, .val (.long q3), .second, .val (.long q4), .second, .val (.int p5), .val (.int p6), .val (.long v1), .second, .val (.double v2), .second, .val (.long v3), .second, .val (.long v4), .second, .val (.double v5), .second, .unset, .unset, .unset, .unset, .unset, .unset, .unset, .unset, .unset, .unset, .unset, .unset, .unset, .unset, .unset] [(.int (p6 &&& (1 : Int32)))])) K
  by_cases hc6 : (p6 &&& (1 : Int32)) = (0 : Int32)
  · refine Bk.of (fun _ k => XS.ifNo X0.here hx rfl (hb hby at_47) rfl ((if0 _ _).trans (teq hc6).2) k) ?_
    show Bk p.tables e below (s₁.setTop (mkF m 50 #[.val (.int p1), .val (.long q2), .second, .val (.long q3), .second, .val (.long q4), .second, .val (.int p5), .val (.int p6), .val (.long v1), .second, .val (.double v2), .second, .val (.long v3), .second, .val (.long v4), .second, .val (.double v5), .second, .unset, .unset, .unset, .unset, .unset, .unset, .unset, .unset, .unset, .unset, .unset, .unset, .unset, .unset, .unset] [])) K
    refine Bk.of (fun _ k => XS.lload X0.here hx rfl (hb hby at_50) rfl k) ?_
    show Bk p.tables e below (s₁.setTop (mkF m 52 #[.val (.int p1), .val (.long q2), .second, .val (.long q3), .second, .val (.long q4), .second, .val (.int p5), .val (.int p6), .val (.long v1), .second, .val (.double v2), .second, .val (.long v3), .second, .val (.long v4), .second, .val (.double v5), .second, .unset, .unset, .unset, .unset, .unset, .unset, .unset, .unset, .unset, .unset, .unset, .unset, .unset, .unset, .unset] [(.long q4)])) K
    refine Bk.of (fun _ k => X0.ldc2Long hx hown (mvT hZ (hw _ (List.mem_of_getElem? (i := 12) rfl))) (g := (mkF m 52 #[.val (.int p1), .val (.long q2), .second, .val (.long q3), .second, .val (.long q4), .second, .val (.int p5), .val (.int p6), .val (.long v1), .second, .val (.double v2), .second, .val (.long v3), .second, .val (.long v4), .second, .val (.double v5), .second, .unset, .unset, .unset, .unset, .unset, .unset, .unset, .unset, .unset, .unset, .unset, .unset, .unset, .unset, .unset] [(.long q4)])) rfl (hb hby at_52) _ k) ?_
    show Bk p.tables e below (s₁.setTop (mkF m 55 #[.val (.int p1), .val (.long q2), .second, .val (.long q3), .second, .val (.long q4), .second, .val (.int p5), .val (.int p6), .val (.long v1), .second, .val (.double v2), .second, .val (.long v3), .second, .val (.long v4), .second, .val (.double v5), .second, .unset, .unset, .unset, .unset, .unset, .unset, .unset, .unset, .unset, .unset, .unset, .unset, .unset, .unset, .unset] [(.long (15 : Int64)), (.long q4)])) K
    refine Bk.of (fun _ k => XS.land X0.here hx rfl (hb hby at_55) rfl k) ?_
    show Bk p.tables e below (s₁.setTop (mkF m 56 #[.val (.int p1), .val (.long q2), .second, .val (.long q3), .second, .val (.long q4), .second, .val (.int p5), .val (.int p6), .val (.long v1), .second, .val (.double v2), .second, .val (.long v3), .second, .val (.long v4), .second, .val (.double v5), .second, .unset, .unset, .unset, .unset, .unset, .unset, .unset, .unset, .unset, .unset, .unset, .unset, .unset, .unset, .unset] [(.long (q4 &&& (15 : Int64)))])) K
    refine Bk.of (fun _ k => XS.l2i X0.here hx rfl (hb hby at_56) rfl k) ?_
    show Bk p.tables e below (s₁.setTop (mkF m 57 #[.val (.int p1), .val (.long q2), .second, .val (.long q3), .second, .val (.long q4), .second, .val (.int p5), .val (.int p6), .val (.long v1), .second, .val (.double v2), .second, .val (.long v3), .second, .val (.long v4), .second, .val (.double v5), .second, .unset, .unset, .unset, .unset, .unset, .unset, .unset, .unset, .unset, .unset, .unset, .unset, .unset, .unset, .unset] [(.int ((q4 &&& (15 : Int64)).toInt32))])) K
    refine Bk.of (fun _ k => XS.istore X0.here hx rfl (hb hby at_57) rfl (l' := #[.val (.int p1), .val (.long q2), .second, .val (.long q3), .second, .val (.long q4), .second, .val (.int p5), .val (.int p6), .val (.long v1), .second, .val (.double v2), .second, .val (.long v3), .second, .val (.long v4), .second, .val (.double v5), .second, .unset, .unset, .unset, .unset, .unset, .unset, .val (.int ((q4 &&& (15 : Int64)).toInt32)), .unset, .unset, .unset, .unset, .unset, .unset, .unset, .unset]) rfl k) ?_
    show Bk p.tables e below (s₁.setTop (mkF m 59 #[.val (.int p1), .val (.long q2), .second, .val (.long q3), .second, .val (.long q4), .second, .val (.int p5), .val (.int p6), .val (.long v1), .second, .val (.double v2), .second, .val (.long v3), .second, .val (.long v4), .second, .val (.double v5), .second, .unset, .unset, .unset, .unset, .unset, .unset, .val (.int ((q4 &&& (15 : Int64)).toInt32)), .unset, .unset, .unset, .unset, .unset, .unset, .unset, .unset] [])) K
    generalize hv7 : ((q4 &&& (15 : Int64)).toInt32) = v7
    refine Bk.of (fun _ k => XS.lconst X0.here hx rfl (hb hby at_59) k) ?_
    show Bk p.tables e below (s₁.setTop (mkF m 60 #[.val (.int p1), .val (.long q2), .second, .val (.long q3), .second, .val (.long q4), .second, .val (.int p5), .val (.int p6), .val (.long v1), .second, .val (.double v2), .second, .val (.long v3), .second, .val (.long v4), .second, .val (.double v5), .second, .unset, .unset, .unset, .unset, .unset, .unset, .val (.int v7), .unset, .unset, .unset, .unset, .unset, .unset, .unset, .unset] [(.long (1 : Int64))])) K
    refine Bk.of (fun _ k => XS.iload X0.here hx rfl (hb hby at_60) rfl k) ?_
    show Bk p.tables e below (s₁.setTop (mkF m 62 #[.val (.int p1), .val (.long q2), .second, .val (.long q3), .second, .val (.long q4), .second, .val (.int p5), .val (.int p6), .val (.long v1), .second, .val (.double v2), .second, .val (.long v3), .second, .val (.long v4), .second, .val (.double v5), .second, .unset, .unset, .unset, .unset, .unset, .unset, .val (.int v7), .unset, .unset, .unset, .unset, .unset, .unset, .unset, .unset] [(.int v7), (.long (1 : Int64))])) K
    refine Bk.of (fun _ k => XS.lshl X0.here hx rfl (hb hby at_62) rfl k) ?_
    show Bk p.tables e below (s₁.setTop (mkF m 63 #[.val (.int p1), .val (.long q2), .second, .val (.long q3), .second, .val (.long q4), .second, .val (.int p5), .val (.int p6), .val (.long v1), .second, .val (.double v2), .second, .val (.long v3), .second, .val (.long v4), .second, .val (.double v5), .second, .unset, .unset, .unset, .unset, .unset, .unset, .val (.int v7), .unset, .unset, .unset, .unset, .unset, .unset, .unset, .unset] [(.long ((1 : Int64) <<< (v7 &&& 0x3f).toInt64))])) K
    refine Bk.of (fun _ k => XS.lstore X0.here hx rfl (hb hby at_63) rfl (l' := #[.val (.int p1), .val (.long q2), .second, .val (.long q3), .second, .val (.long q4), .second, .val (.int p5), .val (.int p6), .val (.long v1), .second, .val (.double v2), .second, .val (.long v3), .second, .val (.long v4), .second, .val (.double v5), .second, .unset, .unset, .val (.long ((1 : Int64) <<< (v7 &&& 0x3f).toInt64)), .second, .unset, .unset, .val (.int v7), .unset, .unset, .unset, .unset, .unset, .unset, .unset, .unset]) rfl k) ?_
    show Bk p.tables e below (s₁.setTop (mkF m 65 #[.val (.int p1), .val (.long q2), .second, .val (.long q3), .second, .val (.long q4), .second, .val (.int p5), .val (.int p6), .val (.long v1), .second, .val (.double v2), .second, .val (.long v3), .second, .val (.long v4), .second, .val (.double v5), .second, .unset, .unset, .val (.long ((1 : Int64) <<< (v7 &&& 0x3f).toInt64)), .second, .unset, .unset, .val (.int v7), .unset, .unset, .unset, .unset, .unset, .unset, .unset, .unset] [])) K
    generalize hv8 : ((1 : Int64) <<< (v7 &&& 0x3f).toInt64) = v8
    refine Bk.of (fun _ k => XS.lloadN X0.here hx rfl (hb hby at_65) rfl k) ?_
    show Bk p.tables e below (s₁.setTop (mkF m 66 #[.val (.int p1), .val (.long q2), .second, .val (.long q3), .second, .val (.long q4), .second, .val (.int p5), .val (.int p6), .val (.long v1), .second, .val (.double v2), .second, .val (.long v3), .second, .val (.long v4), .second, .val (.double v5), .second, .unset, .unset, .val (.long v8), .second, .unset, .unset, .val (.int v7), .unset, .unset, .unset, .unset, .unset, .unset, .unset, .unset] [(.long q3)])) K
    refine Bk.of (fun _ k => X0.ldc2Long hx hown (mvT hZ (hw _ (List.mem_of_getElem? (i := 0) rfl))) (g := (mkF m 66 #[.val (.int p1), .val (.long q2), .second, .val (.long q3), .second, .val (.long q4), .second, .val (.int p5), .val (.int p6), .val (.long v1), .second, .val (.double v2), .second, .val (.long v3), .second, .val (.long v4), .second, .val (.double v5), .second, .unset, .unset, .val (.long v8), .second, .unset, .unset, .val (.int v7), .unset, .unset, .unset, .unset, .unset, .unset, .unset, .unset] [(.long q3)])) rfl (hb hby at_66) _ k) ?_
    show Bk p.tables e below (s₁.setTop (mkF m 69 #[.val (.int p1), .val (.long q2), .second, .val (.long q3), .second, .val (.long q4), .second, .val (.int p5), .val (.int p6), .val (.long v1), .second, .val (.double v2), .second, .val (.long v3), .second, .val (.long v4), .second, .val (.double v5), .second, .unset, .unset, .val (.long v8), .second, .unset, .unset, .val (.int v7), .unset, .unset, .unset, .unset, .unset, .unset, .unset, .unset] [(.long (16777215 : Int64)), (.long q3)])) K
    refine Bk.of (fun _ k => XS.land X0.here hx rfl (hb hby at_69) rfl k) ?_
    show Bk p.tables e below (s₁.setTop (mkF m 70 #[.val (.int p1), .val (.long q2), .second, .val (.long q3), .second, .val (.long q4), .second, .val (.int p5), .val (.int p6), .val (.long v1), .second, .val (.double v2), .second, .val (.long v3), .second, .val (.long v4), .second, .val (.double v5), .second, .unset, .unset, .val (.long v8), .second, .unset, .unset, .val (.int v7), .unset, .unset, .unset, .unset, .unset, .unset, .unset, .unset] [(.long (q3 &&& (16777215 : Int64)))])) K
    refine Bk.of (fun _ k => XS.lstore X0.here hx rfl (hb hby at_70) rfl (l' := #[.val (.int p1), .val (.long q2), .second, .val (.long q3), .second, .val (.long q4), .second, .val (.int p5), .val (.int p6), .val (.long v1), .second, .val (.double v2), .second, .val (.long v3), .second, .val (.long v4), .second, .val (.double v5), .second, .val (.long (q3 &&& (16777215 : Int64))), .second, .val (.long v8), .second, .unset, .unset, .val (.int v7), .unset, .unset, .unset, .unset, .unset, .unset, .unset, .unset]) rfl k) ?_
    show Bk p.tables e below (s₁.setTop (mkF m 72 #[.val (.int p1), .val (.long q2), .second, .val (.long q3), .second, .val (.long q4), .second, .val (.int p5), .val (.int p6), .val (.long v1), .second, .val (.double v2), .second, .val (.long v3), .second, .val (.long v4), .second, .val (.double v5), .second, .val (.long (q3 &&& (16777215 : Int64))), .second, .val (.long v8), .second, .unset, .unset, .val (.int v7), .unset, .unset, .unset, .unset, .unset, .unset, .unset, .unset] [])) K
    generalize hv9 : (q3 &&& (16777215 : Int64)) = v9
    refine Bk.of (fun _ k => XS.lload X0.here hx rfl (hb hby at_72) rfl k) ?_
    show Bk p.tables e below (s₁.setTop (mkF m 74 #[.val (.int p1), .val (.long q2), .second, .val (.long q3), .second, .val (.long q4), .second, .val (.int p5), .val (.int p6), .val (.long v1), .second, .val (.double v2), .second, .val (.long v3), .second, .val (.long v4), .second, .val (.double v5), .second, .val (.long v9), .second, .val (.long v8), .second, .unset, .unset, .val (.int v7), .unset, .unset, .unset, .unset, .unset, .unset, .unset, .unset] [(.long v9)])) K
    refine Bk.of (fun _ k => XS.lstore X0.here hx rfl (hb hby at_74) rfl (l' := #[.val (.int p1), .val (.long q2), .second, .val (.long q3), .second, .val (.long q4), .second, .val (.int p5), .val (.int p6), .val (.long v1), .second, .val (.double v2), .second, .val (.long v3), .second, .val (.long v4), .second, .val (.double v5), .second, .val (.long v9), .second, .val (.long v8), .second, .val (.long v9), .second, .val (.int v7), .unset, .unset, .unset, .unset, .unset, .unset, .unset, .unset]) rfl k) ?_
    show Bk p.tables e below (s₁.setTop (mkF m 76 #[.val (.int p1), .val (.long q2), .second, .val (.long q3), .second, .val (.long q4), .second, .val (.int p5), .val (.int p6), .val (.long v1), .second, .val (.double v2), .second, .val (.long v3), .second, .val (.long v4), .second, .val (.double v5), .second, .val (.long v9), .second, .val (.long v8), .second, .val (.long v9), .second, .val (.int v7), .unset, .unset, .unset, .unset, .unset, .unset, .unset, .unset] [])) K
    refine Bk.of (fun _ k => XS.goto X0.here hx rfl (pc0 := 76) (pc' := 110) rfl (hb hby at_76) (by decide) (by decide) k) ?_
    show Bk p.tables e below (s₁.setTop (mkF m 110 #[.val (.int p1), .val (.long q2), .second, .val (.long q3), .second, .val (.long q4), .second, .val (.int p5), .val (.int p6), .val (.long v1), .second, .val (.double v2), .second, .val (.long v3), .second, .val (.long v4), .second, .val (.double v5), .second, .val (.long v9), .second, .val (.long v8), .second, .val (.long v9), .second, .val (.int v7), .unset, .unset, .unset, .unset, .unset, .unset, .unset, .unset] [])) K
    have rk : 0 ≤ v7.toInt ∧ v7.toInt ≤ 15 := by
      have q := and64 q4 (15 : Int64) (by decide)
      rw [show (15 : Int64).toInt = 15 from rfl] at q
      rw [← hv7, FP.Core.int64_toInt32 (by omega) (by omega)]; exact q
    obtain ⟨ki, hki, hkn⟩ := own_k rk.1 rk.2
    have hct : v8.toInt = ((2 ^ ki.1 : Nat) : Int) := by rw [← hv8, hki]; exact own_sh ki
    have rcf : 0 ≤ v9.toInt ∧ v9.toInt < 2 ^ 24 := by have q := and64 q3 (16777215 : Int64) (by decide); rw [hv9, show (16777215 : Int64).toInt = 16777215 from rfl] at q; omega
    have pk : 2 ^ ki.1 ≤ 2 ^ 15 := Nat.pow_le_pow_right (by decide) (by omega)
    have pk0 : 0 < 2 ^ ki.1 := Nat.two_pow_pos _
    obtain ⟨num, hnum⟩ : ∃ z, (v1 <<< ((v7 + (1 : Int32)) &&& 0x3f).toInt64) + v4 * v9 = z := ⟨_, rfl⟩
    obtain ⟨den, hden⟩ : ∃ z, (4 : Int64) * v3 + v4 = z := ⟨_, rfl⟩
    obtain ⟨two, htwo⟩ : ∃ z, (1 : Int64) <<< (v7 &&& 0x3f).toInt64 = z := ⟨_, rfl⟩
    obtain ⟨n6, n13, n14, n19, n20, n157, n163, hcmp⟩ := own_plain (kk := ki.1) (t := v1) (dl := v3) (m := v4) (cf := v9) (ct := v8) (cfq := v9) (num := num) (den := den) (two := two) (by omega) rt rdl rm ⟨rcf.1, by omega⟩ (by rw [hct]; omega) rcf (by rw [hct]) hv2 hv5 (own_num hki rt rm rcf hnum) (own_den rdl rm hden) (by rw [← htwo, hki]; exact own_sh ki)
    refine Bk.of (fun _ k => XS.dload X0.here hx rfl (hb hby at_110) rfl k) ?_
    show Bk p.tables e below (s₁.setTop (mkF m 112 #[.val (.int p1), .val (.long q2), .second, .val (.long q3), .second, .val (.long q4), .second, .val (.int p5), .val (.int p6), .val (.long v1), .second, .val (.double v2), .second, .val (.long v3), .second, .val (.long v4), .second, .val (.double v5), .second, .val (.long v9), .second, .val (.long v8), .second, .val (.long v9), .second, .val (.int v7), .unset, .unset, .unset, .unset, .unset, .unset, .unset, .unset] [(.double v5)])) K
    refine Bk.of (fun _ k => XS.dload X0.here hx rfl (hb hby at_112) rfl k) ?_
    show Bk p.tables e below (s₁.setTop (mkF m 114 #[.val (.int p1), .val (.long q2), .second, .val (.long q3), .second, .val (.long q4), .second, .val (.int p5), .val (.int p6), .val (.long v1), .second, .val (.double v2), .second, .val (.long v3), .second, .val (.long v4), .second, .val (.double v5), .second, .val (.long v9), .second, .val (.long v8), .second, .val (.long v9), .second, .val (.int v7), .unset, .unset, .unset, .unset, .unset, .unset, .unset, .unset] [(.double v2), (.double v5)])) K
    refine Bk.of (fun _ k => XS.lload X0.here hx rfl (hb hby at_114) rfl k) ?_
    show Bk p.tables e below (s₁.setTop (mkF m 116 #[.val (.int p1), .val (.long q2), .second, .val (.long q3), .second, .val (.long q4), .second, .val (.int p5), .val (.int p6), .val (.long v1), .second, .val (.double v2), .second, .val (.long v3), .second, .val (.long v4), .second, .val (.double v5), .second, .val (.long v9), .second, .val (.long v8), .second, .val (.long v9), .second, .val (.int v7), .unset, .unset, .unset, .unset, .unset, .unset, .unset, .unset] [(.long v3), (.double v2), (.double v5)])) K
    refine Bk.of (fun _ k => XS.lload X0.here hx rfl (hb hby at_116) rfl k) ?_
    show Bk p.tables e below (s₁.setTop (mkF m 118 #[.val (.int p1), .val (.long q2), .second, .val (.long q3), .second, .val (.long q4), .second, .val (.int p5), .val (.int p6), .val (.long v1), .second, .val (.double v2), .second, .val (.long v3), .second, .val (.long v4), .second, .val (.double v5), .second, .val (.long v9), .second, .val (.long v8), .second, .val (.long v9), .second, .val (.int v7), .unset, .unset, .unset, .unset, .unset, .unset, .unset, .unset] [(.long v9), (.long v3), (.double v2), (.double v5)])) K
    refine Bk.of (fun _ k => XS.lload X0.here hx rfl (hb hby at_118) rfl k) ?_
    show Bk p.tables e below (s₁.setTop (mkF m 120 #[.val (.int p1), .val (.long q2), .second, .val (.long q3), .second, .val (.long q4), .second, .val (.int p5), .val (.int p6), .val (.long v1), .second, .val (.double v2), .second, .val (.long v3), .second, .val (.long v4), .second, .val (.double v5), .second, .val (.long v9), .second, .val (.long v8), .second, .val (.long v9), .second, .val (.int v7), .unset, .unset, .unset, .unset, .unset, .unset, .unset, .unset] [(.long v8), (.long v9), (.long v3), (.double v2), (.double v5)])) K
    obtain ⟨v10, T10, L10, X10, q10, st10⟩ := Ctr.static (rm1 l Z a0 hw v5 v2 v3 v9 v8 h0 n0 (Nat.le_trans Z0 K0.1) n6 n13 n14 n19 n20) X0 hx hZ e0 hown (hw _ (List.mem_of_getElem? (i := 7) rfl)) (hw _ (List.mem_of_getElem? (i := 8) rfl)) (hw _ (List.mem_of_getElem? (i := 9) rfl)) (hw _ (List.mem_of_getElem? (i := 10) rfl)) (by decide) pd_18 (g := (mkF m 120 #[.val (.int p1), .val (.long q2), .second, .val (.long q3), .second, .val (.long q4), .second, .val (.int p5), .val (.int p6), .val (.long v1), .second, .val (.double v2), .second, .val (.long v3), .second, .val (.long v4), .second, .val (.double v5), .second, .val (.long v9), .second, .val (.long v8), .second, .val (.long v9), .second, .val (.int v7), .unset, .unset, .unset, .unset, .unset, .unset, .unset, .unset] [(.long v8), (.long v9), (.long v3), (.double v2), (.double v5)])) rfl (by rw [hml]; rfl) (argsL := [(.double v5), (.double v2), (.long v3), (.long v9), (.long v8)]) (rest := []) rfl rfl rfl (W := 0) (by show 2 * 0 + _ ≤ _; exact Nat.le_of_eq rfl) (by decide) (by decide) (hb hby at_120) (by decide) (by decide)
    obtain ⟨rfl, N10q, hh10⟩ := q10
    have N11 := Fr.app N0 N10q
    refine Bk.of (fun _ k => st10 _ k) ?_
    show Bk p.tables e below (T10.setTop (mkF m 123 #[.val (.int p1), .val (.long q2), .second, .val (.long q3), .second, .val (.long q4), .second, .val (.int p5), .val (.int p6), .val (.long v1), .second, .val (.double v2), .second, .val (.long v3), .second, .val (.long v4), .second, .val (.double v5), .second, .val (.long v9), .second, .val (.long v8), .second, .val (.long v9), .second, .val (.int v7), .unset, .unset, .unset, .unset, .unset, .unset, .unset, .unset] [(.double (FP.ddiv (FP.dadd v2 (FP.dmul v5 (FP.ddiv (FP.l2d v9) (FP.l2d v8)))) (FP.dadd (FP.l2d v3) v5)))])) K
    refine Bk.of (fun _ k => XS.dstore X10.here hx rfl (hb hby at_123) rfl (l' := #[.val (.int p1), .val (.long q2), .second, .val (.long q3), .second, .val (.long q4), .second, .val (.int p5), .val (.int p6), .val (.long v1), .second, .val (.double v2), .second, .val (.long v3), .second, .val (.long v4), .second, .val (.double v5), .second, .val (.long v9), .second, .val (.long v8), .second, .val (.long v9), .second, .val (.int v7), .val (.double (FP.ddiv (FP.dadd v2 (FP.dmul v5 (FP.ddiv (FP.l2d v9) (FP.l2d v8)))) (FP.dadd (FP.l2d v3) v5))), .second, .unset, .unset, .unset, .unset, .unset, .unset]) rfl k) ?_
    show Bk p.tables e below (T10.setTop (mkF m 125 #[.val (.int p1), .val (.long q2), .second, .val (.long q3), .second, .val (.long q4), .second, .val (.int p5), .val (.int p6), .val (.long v1), .second, .val (.double v2), .second, .val (.long v3), .second, .val (.long v4), .second, .val (.double v5), .second, .val (.long v9), .second, .val (.long v8), .second, .val (.long v9), .second, .val (.int v7), .val (.double (FP.ddiv (FP.dadd v2 (FP.dmul v5 (FP.ddiv (FP.l2d v9) (FP.l2d v8)))) (FP.dadd (FP.l2d v3) v5))), .second, .unset, .unset, .unset, .unset, .unset, .unset] [])) K
    generalize hv12 : (FP.ddiv (FP.dadd v2 (FP.dmul v5 (FP.ddiv (FP.l2d v9) (FP.l2d v8)))) (FP.dadd (FP.l2d v3) v5)) = v12
    refine Bk.of (fun _ k => XS.lload X10.here hx rfl (hb hby at_125) rfl k) ?_
    show Bk p.tables e below (T10.setTop (mkF m 127 #[.val (.int p1), .val (.long q2), .second, .val (.long q3), .second, .val (.long q4), .second, .val (.int p5), .val (.int p6), .val (.long v1), .second, .val (.double v2), .second, .val (.long v3), .second, .val (.long v4), .second, .val (.double v5), .second, .val (.long v9), .second, .val (.long v8), .second, .val (.long v9), .second, .val (.int v7), .val (.double v12), .second, .unset, .unset, .unset, .unset, .unset, .unset] [(.long v1)])) K
    refine Bk.of (fun _ k => XS.iload X10.here hx rfl (hb hby at_127) rfl k) ?_
    show Bk p.tables e below (T10.setTop (mkF m 129 #[.val (.int p1), .val (.long q2), .second, .val (.long q3), .second, .val (.long q4), .second, .val (.int p5), .val (.int p6), .val (.long v1), .second, .val (.double v2), .second, .val (.long v3), .second, .val (.long v4), .second, .val (.double v5), .second, .val (.long v9), .second, .val (.long v8), .second, .val (.long v9), .second, .val (.int v7), .val (.double v12), .second, .unset, .unset, .unset, .unset, .unset, .unset] [(.int v7), (.long v1)])) K
    refine Bk.of (fun _ k => XS.iconst X10.here hx rfl (hb hby at_129) k) ?_
    show Bk p.tables e below (T10.setTop (mkF m 130 #[.val (.int p1), .val (.long q2), .second, .val (.long q3), .second, .val (.long q4), .second, .val (.int p5), .val (.int p6), .val (.long v1), .second, .val (.double v2), .second, .val (.long v3), .second, .val (.long v4), .second, .val (.double v5), .second, .val (.long v9), .second, .val (.long v8), .second, .val (.long v9), .second, .val (.int v7), .val (.double v12), .second, .unset, .unset, .unset, .unset, .unset, .unset] [(.int (1 : Int32)), (.int v7), (.long v1)])) K
    refine Bk.of (fun _ k => XS.iadd X10.here hx rfl (hb hby at_130) rfl k) ?_
    show Bk p.tables e below (T10.setTop (mkF m 131 #[.val (.int p1), .val (.long q2), .second, .val (.long q3), .second, .val (.long q4), .second, .val (.int p5), .val (.int p6), .val (.long v1), .second, .val (.double v2), .second, .val (.long v3), .second, .val (.long v4), .second, .val (.double v5), .second, .val (.long v9), .second, .val (.long v8), .second, .val (.long v9), .second, .val (.int v7), .val (.double v12), .second, .unset, .unset, .unset, .unset, .unset, .unset] [(.int (v7 + (1 : Int32))), (.long v1)])) K
    refine Bk.of (fun _ k => XS.lshl X10.here hx rfl (hb hby at_131) rfl k) ?_
    show Bk p.tables e below (T10.setTop (mkF m 132 #[.val (.int p1), .val (.long q2), .second, .val (.long q3), .second, .val (.long q4), .second, .val (.int p5), .val (.int p6), .val (.long v1), .second, .val (.double v2), .second, .val (.long v3), .second, .val (.long v4), .second, .val (.double v5), .second, .val (.long v9), .second, .val (.long v8), .second, .val (.long v9), .second, .val (.int v7), .val (.double v12), .second, .unset, .unset, .unset, .unset, .unset, .unset] [(.long (v1 <<< ((v7 + (1 : Int32)) &&& 0x3f).toInt64))])) K
    refine Bk.of (fun _ k => XS.lload X10.here hx rfl (hb hby at_132) rfl k) ?_
    show Bk p.tables e below (T10.setTop (mkF m 134 #[.val (.int p1), .val (.long q2), .second, .val (.long q3), .second, .val (.long q4), .second, .val (.int p5), .val (.int p6), .val (.long v1), .second, .val (.double v2), .second, .val (.long v3), .second, .val (.long v4), .second, .val (.double v5), .second, .val (.long v9), .second, .val (.long v8), .second, .val (.long v9), .second, .val (.int v7), .val (.double v12), .second, .unset, .unset, .unset, .unset, .unset, .unset] [(.long v4), (.long (v1 <<< ((v7 + (1 : Int32)) &&& 0x3f).toInt64))])) K
    refine Bk.of (fun _ k => XS.lload X10.here hx rfl (hb hby at_134) rfl k) ?_
    show Bk p.tables e below (T10.setTop (mkF m 136 #[.val (.int p1), .val (.long q2), .second, .val (.long q3), .second, .val (.long q4), .second, .val (.int p5), .val (.int p6), .val (.long v1), .second, .val (.double v2), .second, .val (.long v3), .second, .val (.long v4), .second, .val (.double v5), .second, .val (.long v9), .second, .val (.long v8), .second, .val (.long v9), .second, .val (.int v7), .val (.double v12), .second, .unset, .unset, .unset, .unset, .unset, .unset] [(.long v9), (.long v4), (.long (v1 <<< ((v7 + (1 : Int32)) &&& 0x3f).toInt64))])) K
    refine Bk.of (fun _ k => XS.lmul X10.here hx rfl (hb hby at_136) rfl k) ?_
    show Bk p.tables e below (T10.setTop (mkF m 137 #[.val (.int p1), .val (.long q2), .second, .val (.long q3), .second, .val (.long q4), .second, .val (.int p5), .val (.int p6), .val (.long v1), .second, .val (.double v2), .second, .val (.long v3), .second, .val (.long v4), .second, .val (.double v5), .second, .val (.long v9), .second, .val (.long v8), .second, .val (.long v9), .second, .val (.int v7), .val (.double v12), .second, .unset, .unset, .unset, .unset, .unset, .unset] [(.long (v4 * v9)), (.long (v1 <<< ((v7 + (1 : Int32)) &&& 0x3f).toInt64))])) K
    refine Bk.of (fun _ k => XS.ladd X10.here hx rfl (hb hby at_137) rfl k) ?_
    show Bk p.tables e below (T10.setTop (mkF m 138 #[.val (.int p1), .val (.long q2), .second, .val (.long q3), .second, .val (.long q4), .second, .val (.int p5), .val (.int p6), .val (.long v1), .second, .val (.double v2), .second, .val (.long v3), .second, .val (.long v4), .second, .val (.double v5), .second, .val (.long v9), .second, .val (.long v8), .second, .val (.long v9), .second, .val (.int v7), .val (.double v12), .second, .unset, .unset, .unset, .unset, .unset, .unset] [(.long ((v1 <<< ((v7 + (1 : Int32)) &&& 0x3f).toInt64) + (v4 * v9)))])) K
    refine Bk.of (fun _ k => XS.lstore X10.here hx rfl (hb hby at_138) rfl (l' := #[.val (.int p1), .val (.long q2), .second, .val (.long q3), .second, .val (.long q4), .second, .val (.int p5), .val (.int p6), .val (.long v1), .second, .val (.double v2), .second, .val (.long v3), .second, .val (.long v4), .second, .val (.double v5), .second, .val (.long v9), .second, .val (.long v8), .second, .val (.long v9), .second, .val (.int v7), .val (.double v12), .second, .val (.long ((v1 <<< ((v7 + (1 : Int32)) &&& 0x3f).toInt64) + (v4 * v9))), .second, .unset, .unset, .unset, .unset]) rfl k) ?_
    show Bk p.tables e below (T10.setTop (mkF m 140 #[.val (.int p1), .val (.long q2), .second, .val (.long q3), .second, .val (.long q4), .second, .val (.int p5), .val (.int p6), .val (.long v1), .second, .val (.double v2), .second, .val (.long v3), .second, .val (.long v4), .second, .val (.double v5), .second, .val (.long v9), .second, .val (.long v8), .second, .val (.long v9), .second, .val (.int v7), .val (.double v12), .second, .val (.long ((v1 <<< ((v7 + (1 : Int32)) &&& 0x3f).toInt64) + (v4 * v9))), .second, .unset, .unset, .unset, .unset] [])) K
    generalize hv13 : ((v1 <<< ((v7 + (1 : Int32)) &&& 0x3f).toInt64) + (v4 * v9)) = v13
    refine Bk.of (fun _ k => X10.ldc2Long hx hown (mvT hZ (hw _ (List.mem_of_getElem? (i := 11) rfl))) (g := (mkF m 140 #[.val (.int p1), .val (.long q2), .second, .val (.long q3), .second, .val (.long q4), .second, .val (.int p5), .val (.int p6), .val (.long v1), .second, .val (.double v2), .second, .val (.long v3), .second, .val (.long v4), .second, .val (.double v5), .second, .val (.long v9), .second, .val (.long v8), .second, .val (.long v9), .second, .val (.int v7), .val (.double v12), .second, .val (.long v13), .second, .unset, .unset, .unset, .unset] [])) rfl (hb hby at_140) _ k) ?_
    show Bk p.tables e below (T10.setTop (mkF m 143 #[.val (.int p1), .val (.long q2), .second, .val (.long q3), .second, .val (.long q4), .second, .val (.int p5), .val (.int p6), .val (.long v1), .second, .val (.double v2), .second, .val (.long v3), .second, .val (.long v4), .second, .val (.double v5), .second, .val (.long v9), .second, .val (.long v8), .second, .val (.long v9), .second, .val (.int v7), .val (.double v12), .second, .val (.long v13), .second, .unset, .unset, .unset, .unset] [(.long (4 : Int64))])) K
    refine Bk.of (fun _ k => XS.lload X10.here hx rfl (hb hby at_143) rfl k) ?_
    show Bk p.tables e below (T10.setTop (mkF m 145 #[.val (.int p1), .val (.long q2), .second, .val (.long q3), .second, .val (.long q4), .second, .val (.int p5), .val (.int p6), .val (.long v1), .second, .val (.double v2), .second, .val (.long v3), .second, .val (.long v4), .second, .val (.double v5), .second, .val (.long v9), .second, .val (.long v8), .second, .val (.long v9), .second, .val (.int v7), .val (.double v12), .second, .val (.long v13), .second, .unset, .unset, .unset, .unset] [(.long v3), (.long (4 : Int64))])) K
    refine Bk.of (fun _ k => XS.lmul X10.here hx rfl (hb hby at_145) rfl k) ?_
    show Bk p.tables e below (T10.setTop (mkF m 146 #[.val (.int p1), .val (.long q2), .second, .val (.long q3), .second, .val (.long q4), .second, .val (.int p5), .val (.int p6), .val (.long v1), .second, .val (.double v2), .second, .val (.long v3), .second, .val (.long v4), .second, .val (.double v5), .second, .val (.long v9), .second, .val (.long v8), .second, .val (.long v9), .second, .val (.int v7), .val (.double v12), .second, .val (.long v13), .second, .unset, .unset, .unset, .unset] [(.long ((4 : Int64) * v3))])) K
    refine Bk.of (fun _ k => XS.lload X10.here hx rfl (hb hby at_146) rfl k) ?_
    show Bk p.tables e below (T10.setTop (mkF m 148 #[.val (.int p1), .val (.long q2), .second, .val (.long q3), .second, .val (.long q4), .second, .val (.int p5), .val (.int p6), .val (.long v1), .second, .val (.double v2), .second, .val (.long v3), .second, .val (.long v4), .second, .val (.double v5), .second, .val (.long v9), .second, .val (.long v8), .second, .val (.long v9), .second, .val (.int v7), .val (.double v12), .second, .val (.long v13), .second, .unset, .unset, .unset, .unset] [(.long v4), (.long ((4 : Int64) * v3))])) K
    refine Bk.of (fun _ k => XS.ladd X10.here hx rfl (hb hby at_148) rfl k) ?_
    show Bk p.tables e below (T10.setTop (mkF m 149 #[.val (.int p1), .val (.long q2), .second, .val (.long q3), .second, .val (.long q4), .second, .val (.int p5), .val (.int p6), .val (.long v1), .second, .val (.double v2), .second, .val (.long v3), .second, .val (.long v4), .second, .val (.double v5), .second, .val (.long v9), .second, .val (.long v8), .second, .val (.long v9), .second, .val (.int v7), .val (.double v12), .second, .val (.long v13), .second, .unset, .unset, .unset, .unset] [(.long (((4 : Int64) * v3) + v4))])) K
    refine Bk.of (fun _ k => XS.lstore X10.here hx rfl (hb hby at_149) rfl (l' := #[.val (.int p1), .val (.long q2), .second, .val (.long q3), .second, .val (.long q4), .second, .val (.int p5), .val (.int p6), .val (.long v1), .second, .val (.double v2), .second, .val (.long v3), .second, .val (.long v4), .second, .val (.double v5), .second, .val (.long v9), .second, .val (.long v8), .second, .val (.long v9), .second, .val (.int v7), .val (.double v12), .second, .val (.long v13), .second, .val (.long (((4 : Int64) * v3) + v4)), .second, .unset, .unset]) rfl k) ?_
    show Bk p.tables e below (T10.setTop (mkF m 151 #[.val (.int p1), .val (.long q2), .second, .val (.long q3), .second, .val (.long q4), .second, .val (.int p5), .val (.int p6), .val (.long v1), .second, .val (.double v2), .second, .val (.long v3), .second, .val (.long v4), .second, .val (.double v5), .second, .val (.long v9), .second, .val (.long v8), .second, .val (.long v9), .second, .val (.int v7), .val (.double v12), .second, .val (.long v13), .second, .val (.long (((4 : Int64) * v3) + v4)), .second, .unset, .unset] [])) K
    generalize hv14 : (((4 : Int64) * v3) + v4) = v14
    have en : num = v13 := hnum.symm.trans hv13
    have ed : den = v14 := hden.symm.trans hv14
    rw [en, ed] at n157 n163 hcmp
    refine Bk.of (fun _ k => XS.lload X10.here hx rfl (hb hby at_151) rfl k) ?_
    show Bk p.tables e below (T10.setTop (mkF m 153 #[.val (.int p1), .val (.long q2), .second, .val (.long q3), .second, .val (.long q4), .second, .val (.int p5), .val (.int p6), .val (.long v1), .second, .val (.double v2), .second, .val (.long v3), .second, .val (.long v4), .second, .val (.double v5), .second, .val (.long v9), .second, .val (.long v8), .second, .val (.long v9), .second, .val (.int v7), .val (.double v12), .second, .val (.long v13), .second, .val (.long v14), .second, .unset, .unset] [(.long v13)])) K
    refine Bk.of (fun _ k => XS.l2dS X10.here hx rfl (hb hby at_153) rfl rfl k) ?_
    show Bk p.tables e below (T10.setTop (mkF m 154 #[.val (.int p1), .val (.long q2), .second, .val (.long q3), .second, .val (.long q4), .second, .val (.int p5), .val (.int p6), .val (.long v1), .second, .val (.double v2), .second, .val (.long v3), .second, .val (.long v4), .second, .val (.double v5), .second, .val (.long v9), .second, .val (.long v8), .second, .val (.long v9), .second, .val (.int v7), .val (.double v12), .second, .val (.long v13), .second, .val (.long v14), .second, .unset, .unset] [(.double (FP.l2d v13))])) K
    refine Bk.of (fun _ k => XS.lload X10.here hx rfl (hb hby at_154) rfl k) ?_
    show Bk p.tables e below (T10.setTop (mkF m 156 #[.val (.int p1), .val (.long q2), .second, .val (.long q3), .second, .val (.long q4), .second, .val (.int p5), .val (.int p6), .val (.long v1), .second, .val (.double v2), .second, .val (.long v3), .second, .val (.long v4), .second, .val (.double v5), .second, .val (.long v9), .second, .val (.long v8), .second, .val (.long v9), .second, .val (.int v7), .val (.double v12), .second, .val (.long v13), .second, .val (.long v14), .second, .unset, .unset] [(.long v14), (.double (FP.l2d v13))])) K
    refine Bk.of (fun _ k => XS.l2dS X10.here hx rfl (hb hby at_156) rfl rfl k) ?_
    show Bk p.tables e below (T10.setTop (mkF m 157 #[.val (.int p1), .val (.long q2), .second, .val (.long q3), .second, .val (.long q4), .second, .val (.int p5), .val (.int p6), .val (.long v1), .second, .val (.double v2), .second, .val (.long v3), .second, .val (.long v4), .second, .val (.double v5), .second, .val (.long v9), .second, .val (.long v8), .second, .val (.long v9), .second, .val (.int v7), .val (.double v12), .second, .val (.long v13), .second, .val (.long v14), .second, .unset, .unset] [(.double (FP.l2d v14)), (.double (FP.l2d v13))])) K
    refine Bk.of (fun _ k => XS.ddivS X10.here hx rfl (hb hby at_157) rfl n157 rfl k) ?_
    show Bk p.tables e below (T10.setTop (mkF m 158 #[.val (.int p1), .val (.long q2), .second, .val (.long q3), .second, .val (.long q4), .second, .val (.int p5), .val (.int p6), .val (.long v1), .second, .val (.double v2), .second, .val (.long v3), .second, .val (.long v4), .second, .val (.double v5), .second, .val (.long v9), .second, .val (.long v8), .second, .val (.long v9), .second, .val (.int v7), .val (.double v12), .second, .val (.long v13), .second, .val (.long v14), .second, .unset, .unset] [(.double (FP.ddiv (FP.l2d v13) (FP.l2d v14)))])) K
    refine Bk.of (fun _ k => XS.lconst X10.here hx rfl (hb hby at_158) k) ?_
    show Bk p.tables e below (T10.setTop (mkF m 159 #[.val (.int p1), .val (.long q2), .second, .val (.long q3), .second, .val (.long q4), .second, .val (.int p5), .val (.int p6), .val (.long v1), .second, .val (.double v2), .second, .val (.long v3), .second, .val (.long v4), .second, .val (.double v5), .second, .val (.long v9), .second, .val (.long v8), .second, .val (.long v9), .second, .val (.int v7), .val (.double v12), .second, .val (.long v13), .second, .val (.long v14), .second, .unset, .unset] [(.long (1 : Int64)), (.double (FP.ddiv (FP.l2d v13) (FP.l2d v14)))])) K
    refine Bk.of (fun _ k => XS.iload X10.here hx rfl (hb hby at_159) rfl k) ?_
    show Bk p.tables e below (T10.setTop (mkF m 161 #[.val (.int p1), .val (.long q2), .second, .val (.long q3), .second, .val (.long q4), .second, .val (.int p5), .val (.int p6), .val (.long v1), .second, .val (.double v2), .second, .val (.long v3), .second, .val (.long v4), .second, .val (.double v5), .second, .val (.long v9), .second, .val (.long v8), .second, .val (.long v9), .second, .val (.int v7), .val (.double v12), .second, .val (.long v13), .second, .val (.long v14), .second, .unset, .unset] [(.int v7), (.long (1 : Int64)), (.double (FP.ddiv (FP.l2d v13) (FP.l2d v14)))])) K
    refine Bk.of (fun _ k => XS.lshl X10.here hx rfl (hb hby at_161) rfl k) ?_
    show Bk p.tables e below (T10.setTop (mkF m 162 #[.val (.int p1), .val (.long q2), .second, .val (.long q3), .second, .val (.long q4), .second, .val (.int p5), .val (.int p6), .val (.long v1), .second, .val (.double v2), .second, .val (.long v3), .second, .val (.long v4), .second, .val (.double v5), .second, .val (.long v9), .second, .val (.long v8), .second, .val (.long v9), .second, .val (.int v7), .val (.double v12), .second, .val (.long v13), .second, .val (.long v14), .second, .unset, .unset] [(.long ((1 : Int64) <<< (v7 &&& 0x3f).toInt64)), (.double (FP.ddiv (FP.l2d v13) (FP.l2d v14)))])) K
    rw [htwo]
    refine Bk.of (fun _ k => XS.l2dS X10.here hx rfl (hb hby at_162) rfl rfl k) ?_
    show Bk p.tables e below (T10.setTop (mkF m 163 #[.val (.int p1), .val (.long q2), .second, .val (.long q3), .second, .val (.long q4), .second, .val (.int p5), .val (.int p6), .val (.long v1), .second, .val (.double v2), .second, .val (.long v3), .second, .val (.long v4), .second, .val (.double v5), .second, .val (.long v9), .second, .val (.long v8), .second, .val (.long v9), .second, .val (.int v7), .val (.double v12), .second, .val (.long v13), .second, .val (.long v14), .second, .unset, .unset] [(.double (FP.l2d two)), (.double (FP.ddiv (FP.l2d v13) (FP.l2d v14)))])) K
    refine Bk.of (fun _ k => XS.ddivS X10.here hx rfl (hb hby at_163) rfl n163 rfl k) ?_
    show Bk p.tables e below (T10.setTop (mkF m 164 #[.val (.int p1), .val (.long q2), .second, .val (.long q3), .second, .val (.long q4), .second, .val (.int p5), .val (.int p6), .val (.long v1), .second, .val (.double v2), .second, .val (.long v3), .second, .val (.long v4), .second, .val (.double v5), .second, .val (.long v9), .second, .val (.long v8), .second, .val (.long v9), .second, .val (.int v7), .val (.double v12), .second, .val (.long v13), .second, .val (.long v14), .second, .unset, .unset] [(.double (FP.ddiv (FP.ddiv (FP.l2d v13) (FP.l2d v14)) (FP.l2d two)))])) K
    refine Bk.of (fun _ k => XS.dstore X10.here hx rfl (hb hby at_164) rfl (l' := #[.val (.int p1), .val (.long q2), .second, .val (.long q3), .second, .val (.long q4), .second, .val (.int p5), .val (.int p6), .val (.long v1), .second, .val (.double v2), .second, .val (.long v3), .second, .val (.long v4), .second, .val (.double v5), .second, .val (.long v9), .second, .val (.long v8), .second, .val (.long v9), .second, .val (.int v7), .val (.double v12), .second, .val (.long v13), .second, .val (.long v14), .second, .val (.double (FP.ddiv (FP.ddiv (FP.l2d v13) (FP.l2d v14)) (FP.l2d two))), .second]) rfl k) ?_
    show Bk p.tables e below (T10.setTop (mkF m 166 #[.val (.int p1), .val (.long q2), .second, .val (.long q3), .second, .val (.long q4), .second, .val (.int p5), .val (.int p6), .val (.long v1), .second, .val (.double v2), .second, .val (.long v3), .second, .val (.long v4), .second, .val (.double v5), .second, .val (.long v9), .second, .val (.long v8), .second, .val (.long v9), .second, .val (.int v7), .val (.double v12), .second, .val (.long v13), .second, .val (.long v14), .second, .val (.double (FP.ddiv (FP.ddiv (FP.l2d v13) (FP.l2d v14)) (FP.l2d two))), .second] [])) K
    generalize hv15 : (FP.ddiv (FP.ddiv (FP.l2d v13) (FP.l2d v14)) (FP.l2d two)) = v15
    refine Bk.of (fun _ k => XS.dload X10.here hx rfl (hb hby at_166) rfl k) ?_
    show Bk p.tables e below (T10.setTop (mkF m 168 #[.val (.int p1), .val (.long q2), .second, .val (.long q3), .second, .val (.long q4), .second, .val (.int p5), .val (.int p6), .val (.long v1), .second, .val (.double v2), .second, .val (.long v3), .second, .val (.long v4), .second, .val (.double v5), .second, .val (.long v9), .second, .val (.long v8), .second, .val (.long v9), .second, .val (.int v7), .val (.double v12), .second, .val (.long v13), .second, .val (.long v14), .second, .val (.double v15), .second] [(.double v12)])) K
    refine Bk.of (fun _ k => XS.dload X10.here hx rfl (hb hby at_168) rfl k) ?_
    show Bk p.tables e below (T10.setTop (mkF m 170 #[.val (.int p1), .val (.long q2), .second, .val (.long q3), .second, .val (.long q4), .second, .val (.int p5), .val (.int p6), .val (.long v1), .second, .val (.double v2), .second, .val (.long v3), .second, .val (.long v4), .second, .val (.double v5), .second, .val (.long v9), .second, .val (.long v8), .second, .val (.long v9), .second, .val (.int v7), .val (.double v12), .second, .val (.long v13), .second, .val (.long v14), .second, .val (.double v15), .second] [(.double v15), (.double v12)])) K
    refine Bk.of (fun _ k => XS.dcmpS X10.here hx rfl (hb hby at_170) rfl rfl k) ?_
    show Bk p.tables e below (T10.setTop (mkF m 171 #[.val (.int p1), .val (.long q2), .second, .val (.long q3), .second, .val (.long q4), .second, .val (.int p5), .val (.int p6), .val (.long v1), .second, .val (.double v2), .second, .val (.long v3), .second, .val (.long v4), .second, .val (.double v5), .second, .val (.long v9), .second, .val (.long v8), .second, .val (.long v9), .second, .val (.int v7), .val (.double v12), .second, .val (.long v13), .second, .val (.long v14), .second, .val (.double v15), .second] [(.int (cmpValue (FP.dcmp v12 v15) .l))])) K
    refine Bk.of (fun _ k => XS.ifNo X10.here hx rfl (hb hby at_171) rfl ((if0 _ _).trans (teq (show (cmpValue (FP.dcmp v12 v15) .l) = (0 : Int32) by rw [← hv12, ← hv15, hcmp]; rfl)).2) k) ?_
    show Bk p.tables e below (T10.setTop (mkF m 174 #[.val (.int p1), .val (.long q2), .second, .val (.long q3), .second, .val (.long q4), .second, .val (.int p5), .val (.int p6), .val (.long v1), .second, .val (.double v2), .second, .val (.long v3), .second, .val (.long v4), .second, .val (.double v5), .second, .val (.long v9), .second, .val (.long v8), .second, .val (.long v9), .second, .val (.int v7), .val (.double v12), .second, .val (.long v13), .second, .val (.long v14), .second, .val (.double v15), .second] [])) K
    refine Bk.of (fun _ k => XS.iconst X10.here hx rfl (hb hby at_174) k) ?_
    show Bk p.tables e below (T10.setTop (mkF m 175 #[.val (.int p1), .val (.long q2), .second, .val (.long q3), .second, .val (.long q4), .second, .val (.int p5), .val (.int p6), .val (.long v1), .second, .val (.double v2), .second, .val (.long v3), .second, .val (.long v4), .second, .val (.double v5), .second, .val (.long v9), .second, .val (.long v8), .second, .val (.long v9), .second, .val (.int v7), .val (.double v12), .second, .val (.long v13), .second, .val (.long v14), .second, .val (.double v15), .second] [(.int (1 : Int32))])) K
    refine Bk.of (fun _ k => XS.goto X10.here hx rfl (pc0 := 175) (pc' := 179) rfl (hb hby at_175) (by decide) (by decide) k) ?_
    show Bk p.tables e below (T10.setTop (mkF m 179 #[.val (.int p1), .val (.long q2), .second, .val (.long q3), .second, .val (.long q4), .second, .val (.int p5), .val (.int p6), .val (.long v1), .second, .val (.double v2), .second, .val (.long v3), .second, .val (.long v4), .second, .val (.double v5), .second, .val (.long v9), .second, .val (.long v8), .second, .val (.long v9), .second, .val (.int v7), .val (.double v12), .second, .val (.long v13), .second, .val (.long v14), .second, .val (.double v15), .second] [(.int (1 : Int32))])) K
    refine hK (some (.int (1 : Int32))) X10 (fun q => by cases q) (fun fs hr => retN X10 hx (t := .boolean) hret (by simp) (hb hby at_179) hr) ?_ (by decide) (by decide)
    rw [show T10.heap = h0 from hh10]
    exact ⟨rfl, N11⟩
  · refine Bk.of (fun _ k => XS.ifYes X0.here hx rfl (pc0 := 47) (pc' := 79) rfl (hb hby at_47) rfl ((if0 _ _).trans (feq hc6).2) (by decide) (by decide) k) ?_
    show Bk p.tables e below (s₁.setTop (mkF m 79 #[.val (.int p1), .val (.long q2), .second, .val (.long q3), .second, .val (.long q4), .second, .val (.int p5), .val (.int p6), .val (.long v1), .second, .val (.double v2), .second, .val (.long v3), .second, .val (.long v4), .second, .val (.double v5), .second, .unset, .unset, .unset, .unset, .unset, .unset, .unset, .unset, .unset, .unset, .unset, .unset, .unset, .unset, .unset] [])) K
    refine Bk.of (fun _ k => XS.iconst X0.here hx rfl (hb hby at_79) k) ?_
    show Bk p.tables e below (s₁.setTop (mkF m 80 #[.val (.int p1), .val (.long q2), .second, .val (.long q3), .second, .val (.long q4), .second, .val (.int p5), .val (.int p6), .val (.long v1), .second, .val (.double v2), .second, .val (.long v3), .second, .val (.long v4), .second, .val (.double v5), .second, .unset, .unset, .unset, .unset, .unset, .unset, .unset, .unset, .unset, .unset, .unset, .unset, .unset, .unset, .unset] [(.int (0 : Int32))])) K
    refine Bk.of (fun _ k => XS.istore X0.here hx rfl (hb hby at_80) rfl (l' := #[.val (.int p1), .val (.long q2), .second, .val (.long q3), .second, .val (.long q4), .second, .val (.int p5), .val (.int p6), .val (.long v1), .second, .val (.double v2), .second, .val (.long v3), .second, .val (.long v4), .second, .val (.double v5), .second, .unset, .unset, .unset, .unset, .unset, .unset, .val (.int (0 : Int32)), .unset, .unset, .unset, .unset, .unset, .unset, .unset, .unset]) rfl k) ?_
    show Bk p.tables e below (s₁.setTop (mkF m 82 #[.val (.int p1), .val (.long q2), .second, .val (.long q3), .second, .val (.long q4), .second, .val (.int p5), .val (.int p6), .val (.long v1), .second, .val (.double v2), .second, .val (.long v3), .second, .val (.long v4), .second, .val (.double v5), .second, .unset, .unset, .unset, .unset, .unset, .unset, .val (.int (0 : Int32)), .unset, .unset, .unset, .unset, .unset, .unset, .unset, .unset] [])) K
    refine Bk.of (fun _ k => XS.lload X0.here hx rfl (hb hby at_82) rfl k) ?_
    show Bk p.tables e below (s₁.setTop (mkF m 84 #[.val (.int p1), .val (.long q2), .second, .val (.long q3), .second, .val (.long q4), .second, .val (.int p5), .val (.int p6), .val (.long v1), .second, .val (.double v2), .second, .val (.long v3), .second, .val (.long v4), .second, .val (.double v5), .second, .unset, .unset, .unset, .unset, .unset, .unset, .val (.int (0 : Int32)), .unset, .unset, .unset, .unset, .unset, .unset, .unset, .unset] [(.long q4)])) K
    refine Bk.of (fun _ k => X0.ldc2Long hx hown (mvT hZ (hw _ (List.mem_of_getElem? (i := 5) rfl))) (g := (mkF m 84 #[.val (.int p1), .val (.long q2), .second, .val (.long q3), .second, .val (.long q4), .second, .val (.int p5), .val (.int p6), .val (.long v1), .second, .val (.double v2), .second, .val (.long v3), .second, .val (.long v4), .second, .val (.double v5), .second, .unset, .unset, .unset, .unset, .unset, .unset, .val (.int (0 : Int32)), .unset, .unset, .unset, .unset, .unset, .unset, .unset, .unset] [(.long q4)])) rfl (hb hby at_84) _ k) ?_
    show Bk p.tables e below (s₁.setTop (mkF m 87 #[.val (.int p1), .val (.long q2), .second, .val (.long q3), .second, .val (.long q4), .second, .val (.int p5), .val (.int p6), .val (.long v1), .second, .val (.double v2), .second, .val (.long v3), .second, .val (.long v4), .second, .val (.double v5), .second, .unset, .unset, .unset, .unset, .unset, .unset, .val (.int (0 : Int32)), .unset, .unset, .unset, .unset, .unset, .unset, .unset, .unset] [(.long (1099511627775 : Int64)), (.long q4)])) K
    refine Bk.of (fun _ k => XS.land X0.here hx rfl (hb hby at_87) rfl k) ?_
    show Bk p.tables e below (s₁.setTop (mkF m 88 #[.val (.int p1), .val (.long q2), .second, .val (.long q3), .second, .val (.long q4), .second, .val (.int p5), .val (.int p6), .val (.long v1), .second, .val (.double v2), .second, .val (.long v3), .second, .val (.long v4), .second, .val (.double v5), .second, .unset, .unset, .unset, .unset, .unset, .unset, .val (.int (0 : Int32)), .unset, .unset, .unset, .unset, .unset, .unset, .unset, .unset] [(.long (q4 &&& (1099511627775 : Int64)))])) K
    refine Bk.of (fun _ k => XS.lconst X0.here hx rfl (hb hby at_88) k) ?_
    show Bk p.tables e below (s₁.setTop (mkF m 89 #[.val (.int p1), .val (.long q2), .second, .val (.long q3), .second, .val (.long q4), .second, .val (.int p5), .val (.int p6), .val (.long v1), .second, .val (.double v2), .second, .val (.long v3), .second, .val (.long v4), .second, .val (.double v5), .second, .unset, .unset, .unset, .unset, .unset, .unset, .val (.int (0 : Int32)), .unset, .unset, .unset, .unset, .unset, .unset, .unset, .unset] [(.long (1 : Int64)), (.long (q4 &&& (1099511627775 : Int64)))])) K
    refine Bk.of (fun _ k => XS.ladd X0.here hx rfl (hb hby at_89) rfl k) ?_
    show Bk p.tables e below (s₁.setTop (mkF m 90 #[.val (.int p1), .val (.long q2), .second, .val (.long q3), .second, .val (.long q4), .second, .val (.int p5), .val (.int p6), .val (.long v1), .second, .val (.double v2), .second, .val (.long v3), .second, .val (.long v4), .second, .val (.double v5), .second, .unset, .unset, .unset, .unset, .unset, .unset, .val (.int (0 : Int32)), .unset, .unset, .unset, .unset, .unset, .unset, .unset, .unset] [(.long ((q4 &&& (1099511627775 : Int64)) + (1 : Int64)))])) K
    refine Bk.of (fun _ k => XS.lstore X0.here hx rfl (hb hby at_90) rfl (l' := #[.val (.int p1), .val (.long q2), .second, .val (.long q3), .second, .val (.long q4), .second, .val (.int p5), .val (.int p6), .val (.long v1), .second, .val (.double v2), .second, .val (.long v3), .second, .val (.long v4), .second, .val (.double v5), .second, .unset, .unset, .val (.long ((q4 &&& (1099511627775 : Int64)) + (1 : Int64))), .second, .unset, .unset, .val (.int (0 : Int32)), .unset, .unset, .unset, .unset, .unset, .unset, .unset, .unset]) rfl k) ?_
    show Bk p.tables e below (s₁.setTop (mkF m 92 #[.val (.int p1), .val (.long q2), .second, .val (.long q3), .second, .val (.long q4), .second, .val (.int p5), .val (.int p6), .val (.long v1), .second, .val (.double v2), .second, .val (.long v3), .second, .val (.long v4), .second, .val (.double v5), .second, .unset, .unset, .val (.long ((q4 &&& (1099511627775 : Int64)) + (1 : Int64))), .second, .unset, .unset, .val (.int (0 : Int32)), .unset, .unset, .unset, .unset, .unset, .unset, .unset, .unset] [])) K
    generalize hv16 : ((q4 &&& (1099511627775 : Int64)) + (1 : Int64)) = v16
    refine Bk.of (fun _ k => XS.lloadN X0.here hx rfl (hb hby at_92) rfl k) ?_
    show Bk p.tables e below (s₁.setTop (mkF m 93 #[.val (.int p1), .val (.long q2), .second, .val (.long q3), .second, .val (.long q4), .second, .val (.int p5), .val (.int p6), .val (.long v1), .second, .val (.double v2), .second, .val (.long v3), .second, .val (.long v4), .second, .val (.double v5), .second, .unset, .unset, .val (.long v16), .second, .unset, .unset, .val (.int (0 : Int32)), .unset, .unset, .unset, .unset, .unset, .unset, .unset, .unset] [(.long q3)])) K
    refine Bk.of (fun _ k => X0.ldc2Long hx hown (mvT hZ (hw _ (List.mem_of_getElem? (i := 6) rfl))) (g := (mkF m 93 #[.val (.int p1), .val (.long q2), .second, .val (.long q3), .second, .val (.long q4), .second, .val (.int p5), .val (.int p6), .val (.long v1), .second, .val (.double v2), .second, .val (.long v3), .second, .val (.long v4), .second, .val (.double v5), .second, .unset, .unset, .val (.long v16), .second, .unset, .unset, .val (.int (0 : Int32)), .unset, .unset, .unset, .unset, .unset, .unset, .unset, .unset] [(.long q3)])) rfl (hb hby at_93) _ k) ?_
    show Bk p.tables e below (s₁.setTop (mkF m 96 #[.val (.int p1), .val (.long q2), .second, .val (.long q3), .second, .val (.long q4), .second, .val (.int p5), .val (.int p6), .val (.long v1), .second, .val (.double v2), .second, .val (.long v3), .second, .val (.long v4), .second, .val (.double v5), .second, .unset, .unset, .val (.long v16), .second, .unset, .unset, .val (.int (0 : Int32)), .unset, .unset, .unset, .unset, .unset, .unset, .unset, .unset] [(.long (7 : Int64)), (.long q3)])) K
    refine Bk.of (fun _ k => XS.land X0.here hx rfl (hb hby at_96) rfl k) ?_
    show Bk p.tables e below (s₁.setTop (mkF m 97 #[.val (.int p1), .val (.long q2), .second, .val (.long q3), .second, .val (.long q4), .second, .val (.int p5), .val (.int p6), .val (.long v1), .second, .val (.double v2), .second, .val (.long v3), .second, .val (.long v4), .second, .val (.double v5), .second, .unset, .unset, .val (.long v16), .second, .unset, .unset, .val (.int (0 : Int32)), .unset, .unset, .unset, .unset, .unset, .unset, .unset, .unset] [(.long (q3 &&& (7 : Int64)))])) K
    refine Bk.of (fun _ k => XS.lstore X0.here hx rfl (hb hby at_97) rfl (l' := #[.val (.int p1), .val (.long q2), .second, .val (.long q3), .second, .val (.long q4), .second, .val (.int p5), .val (.int p6), .val (.long v1), .second, .val (.double v2), .second, .val (.long v3), .second, .val (.long v4), .second, .val (.double v5), .second, .unset, .unset, .val (.long v16), .second, .unset, .unset, .val (.int (0 : Int32)), .val (.long (q3 &&& (7 : Int64))), .second, .unset, .unset, .unset, .unset, .unset, .unset]) rfl k) ?_
    show Bk p.tables e below (s₁.setTop (mkF m 99 #[.val (.int p1), .val (.long q2), .second, .val (.long q3), .second, .val (.long q4), .second, .val (.int p5), .val (.int p6), .val (.long v1), .second, .val (.double v2), .second, .val (.long v3), .second, .val (.long v4), .second, .val (.double v5), .second, .unset, .unset, .val (.long v16), .second, .unset, .unset, .val (.int (0 : Int32)), .val (.long (q3 &&& (7 : Int64))), .second, .unset, .unset, .unset, .unset, .unset, .unset] [])) K
    generalize hv17 : (q3 &&& (7 : Int64)) = v17
    refine Bk.of (fun _ k => XS.lload X0.here hx rfl (hb hby at_99) rfl k) ?_
    show Bk p.tables e below (s₁.setTop (mkF m 101 #[.val (.int p1), .val (.long q2), .second, .val (.long q3), .second, .val (.long q4), .second, .val (.int p5), .val (.int p6), .val (.long v1), .second, .val (.double v2), .second, .val (.long v3), .second, .val (.long v4), .second, .val (.double v5), .second, .unset, .unset, .val (.long v16), .second, .unset, .unset, .val (.int (0 : Int32)), .val (.long v17), .second, .unset, .unset, .unset, .unset, .unset, .unset] [(.long v17)])) K
    refine Bk.of (fun _ k => XS.lload X0.here hx rfl (hb hby at_101) rfl k) ?_
    show Bk p.tables e below (s₁.setTop (mkF m 103 #[.val (.int p1), .val (.long q2), .second, .val (.long q3), .second, .val (.long q4), .second, .val (.int p5), .val (.int p6), .val (.long v1), .second, .val (.double v2), .second, .val (.long v3), .second, .val (.long v4), .second, .val (.double v5), .second, .unset, .unset, .val (.long v16), .second, .unset, .unset, .val (.int (0 : Int32)), .val (.long v17), .second, .unset, .unset, .unset, .unset, .unset, .unset] [(.long v16), (.long v17)])) K
    refine Bk.of (fun _ k => XS.lmul X0.here hx rfl (hb hby at_103) rfl k) ?_
    show Bk p.tables e below (s₁.setTop (mkF m 104 #[.val (.int p1), .val (.long q2), .second, .val (.long q3), .second, .val (.long q4), .second, .val (.int p5), .val (.int p6), .val (.long v1), .second, .val (.double v2), .second, .val (.long v3), .second, .val (.long v4), .second, .val (.double v5), .second, .unset, .unset, .val (.long v16), .second, .unset, .unset, .val (.int (0 : Int32)), .val (.long v17), .second, .unset, .unset, .unset, .unset, .unset, .unset] [(.long (v17 * v16))])) K
    refine Bk.of (fun _ k => XS.lstore X0.here hx rfl (hb hby at_104) rfl (l' := #[.val (.int p1), .val (.long q2), .second, .val (.long q3), .second, .val (.long q4), .second, .val (.int p5), .val (.int p6), .val (.long v1), .second, .val (.double v2), .second, .val (.long v3), .second, .val (.long v4), .second, .val (.double v5), .second, .val (.long (v17 * v16)), .second, .val (.long v16), .second, .unset, .unset, .val (.int (0 : Int32)), .val (.long v17), .second, .unset, .unset, .unset, .unset, .unset, .unset]) rfl k) ?_
    show Bk p.tables e below (s₁.setTop (mkF m 106 #[.val (.int p1), .val (.long q2), .second, .val (.long q3), .second, .val (.long q4), .second, .val (.int p5), .val (.int p6), .val (.long v1), .second, .val (.double v2), .second, .val (.long v3), .second, .val (.long v4), .second, .val (.double v5), .second, .val (.long (v17 * v16)), .second, .val (.long v16), .second, .unset, .unset, .val (.int (0 : Int32)), .val (.long v17), .second, .unset, .unset, .unset, .unset, .unset, .unset] [])) K
    generalize hv18 : (v17 * v16) = v18
    refine Bk.of (fun _ k => XS.lload X0.here hx rfl (hb hby at_106) rfl k) ?_
    show Bk p.tables e below (s₁.setTop (mkF m 108 #[.val (.int p1), .val (.long q2), .second, .val (.long q3), .second, .val (.long q4), .second, .val (.int p5), .val (.int p6), .val (.long v1), .second, .val (.double v2), .second, .val (.long v3), .second, .val (.long v4), .second, .val (.double v5), .second, .val (.long v18), .second, .val (.long v16), .second, .unset, .unset, .val (.int (0 : Int32)), .val (.long v17), .second, .unset, .unset, .unset, .unset, .unset, .unset] [(.long v17)])) K
    refine Bk.of (fun _ k => XS.lstore X0.here hx rfl (hb hby at_108) rfl (l' := #[.val (.int p1), .val (.long q2), .second, .val (.long q3), .second, .val (.long q4), .second, .val (.int p5), .val (.int p6), .val (.long v1), .second, .val (.double v2), .second, .val (.long v3), .second, .val (.long v4), .second, .val (.double v5), .second, .val (.long v18), .second, .val (.long v16), .second, .val (.long v17), .second, .val (.int (0 : Int32)), .val (.long v17), .second, .unset, .unset, .unset, .unset, .unset, .unset]) rfl k) ?_
    show Bk p.tables e below (s₁.setTop (mkF m 110 #[.val (.int p1), .val (.long q2), .second, .val (.long q3), .second, .val (.long q4), .second, .val (.int p5), .val (.int p6), .val (.long v1), .second, .val (.double v2), .second, .val (.long v3), .second, .val (.long v4), .second, .val (.double v5), .second, .val (.long v18), .second, .val (.long v16), .second, .val (.long v17), .second, .val (.int (0 : Int32)), .val (.long v17), .second, .unset, .unset, .unset, .unset, .unset, .unset] [])) K
    have rct : 1 ≤ v16.toInt ∧ v16.toInt ≤ 2 ^ 40 := by
      have q := and64 q4 (1099511627775 : Int64) (by decide)
      rw [show (1099511627775 : Int64).toInt = 1099511627775 from rfl] at q
      have := own_inc (A := 1099511627775) q (by decide) hv16; omega
    have rj : 0 ≤ v17.toInt ∧ v17.toInt ≤ 7 := by have q := and64 q3 (7 : Int64) (by decide); rw [hv17, show (7 : Int64).toInt = 7 from rfl] at q; exact q
    have mj0 : 0 ≤ v17.toInt * v16.toInt := Int.mul_nonneg rj.1 (by omega)
    have mj1 : v17.toInt * v16.toInt ≤ 7 * 2 ^ 40 := Int.mul_le_mul rj.2 rct.2 (by omega) (by decide)
    have hcf : v18.toInt = v17.toInt * v16.toInt := by rw [← hv18]; exact FP.Core.int64_mul (by omega) (by omega)
    obtain ⟨num, hnum⟩ : ∃ z, (v1 <<< (((0 : Int32) + (1 : Int32)) &&& 0x3f).toInt64) + v4 * v17 = z := ⟨_, rfl⟩
    obtain ⟨den, hden⟩ : ∃ z, (4 : Int64) * v3 + v4 = z := ⟨_, rfl⟩
    obtain ⟨two, htwo⟩ : ∃ z, (1 : Int64) <<< ((0 : Int32) &&& 0x3f).toInt64 = z := ⟨_, rfl⟩
    obtain ⟨n6, n13, n14, n19, n20, n157, n163, hcmp⟩ := own_plain (kk := 0) (t := v1) (dl := v3) (m := v4) (cf := v18) (ct := v16) (cfq := v17) (num := num) (den := den) (two := two) (by decide) rt rdl rm ⟨by omega, by omega⟩ ⟨by omega, by omega⟩ ⟨rj.1, by omega⟩ (by rw [hcf]; simp) hv2 hv5 (own_num (i := 0) (k := 0) rfl rt rm ⟨rj.1, by omega⟩ hnum) (own_den rdl rm hden) (by rw [← htwo]; rfl)
    refine Bk.of (fun _ k => XS.dload X0.here hx rfl (hb hby at_110) rfl k) ?_
    show Bk p.tables e below (s₁.setTop (mkF m 112 #[.val (.int p1), .val (.long q2), .second, .val (.long q3), .second, .val (.long q4), .second, .val (.int p5), .val (.int p6), .val (.long v1), .second, .val (.double v2), .second, .val (.long v3), .second, .val (.long v4), .second, .val (.double v5), .second, .val (.long v18), .second, .val (.long v16), .second, .val (.long v17), .second, .val (.int (0 : Int32)), .val (.long v17), .second, .unset, .unset, .unset, .unset, .unset, .unset] [(.double v5)])) K
    refine Bk.of (fun _ k => XS.dload X0.here hx rfl (hb hby at_112) rfl k) ?_
    show Bk p.tables e below (s₁.setTop (mkF m 114 #[.val (.int p1), .val (.long q2), .second, .val (.long q3), .second, .val (.long q4), .second, .val (.int p5), .val (.int p6), .val (.long v1), .second, .val (.double v2), .second, .val (.long v3), .second, .val (.long v4), .second, .val (.double v5), .second, .val (.long v18), .second, .val (.long v16), .second, .val (.long v17), .second, .val (.int (0 : Int32)), .val (.long v17), .second, .unset, .unset, .unset, .unset, .unset, .unset] [(.double v2), (.double v5)])) K
    refine Bk.of (fun _ k => XS.lload X0.here hx rfl (hb hby at_114) rfl k) ?_
    show Bk p.tables e below (s₁.setTop (mkF m 116 #[.val (.int p1), .val (.long q2), .second, .val (.long q3), .second, .val (.long q4), .second, .val (.int p5), .val (.int p6), .val (.long v1), .second, .val (.double v2), .second, .val (.long v3), .second, .val (.long v4), .second, .val (.double v5), .second, .val (.long v18), .second, .val (.long v16), .second, .val (.long v17), .second, .val (.int (0 : Int32)), .val (.long v17), .second, .unset, .unset, .unset, .unset, .unset, .unset] [(.long v3), (.double v2), (.double v5)])) K
    refine Bk.of (fun _ k => XS.lload X0.here hx rfl (hb hby at_116) rfl k) ?_
    show Bk p.tables e below (s₁.setTop (mkF m 118 #[.val (.int p1), .val (.long q2), .second, .val (.long q3), .second, .val (.long q4), .second, .val (.int p5), .val (.int p6), .val (.long v1), .second, .val (.double v2), .second, .val (.long v3), .second, .val (.long v4), .second, .val (.double v5), .second, .val (.long v18), .second, .val (.long v16), .second, .val (.long v17), .second, .val (.int (0 : Int32)), .val (.long v17), .second, .unset, .unset, .unset, .unset, .unset, .unset] [(.long v18), (.long v3), (.double v2), (.double v5)])) K
    refine Bk.of (fun _ k => XS.lload X0.here hx rfl (hb hby at_118) rfl k) ?_
    show Bk p.tables e below (s₁.setTop (mkF m 120 #[.val (.int p1), .val (.long q2), .second, .val (.long q3), .second, .val (.long q4), .second, .val (.int p5), .val (.int p6), .val (.long v1), .second, .val (.double v2), .second, .val (.long v3), .second, .val (.long v4), .second, .val (.double v5), .second, .val (.long v18), .second, .val (.long v16), .second, .val (.long v17), .second, .val (.int (0 : Int32)), .val (.long v17), .second, .unset, .unset, .unset, .unset, .unset, .unset] [(.long v16), (.long v18), (.long v3), (.double v2), (.double v5)])) K
    obtain ⟨v19, T19, L19, X19, q19, st19⟩ := Ctr.static (rm1 l Z a0 hw v5 v2 v3 v18 v16 h0 n0 (Nat.le_trans Z0 K0.1) n6 n13 n14 n19 n20) X0 hx hZ e0 hown (hw _ (List.mem_of_getElem? (i := 7) rfl)) (hw _ (List.mem_of_getElem? (i := 8) rfl)) (hw _ (List.mem_of_getElem? (i := 9) rfl)) (hw _ (List.mem_of_getElem? (i := 10) rfl)) (by decide) pd_18 (g := (mkF m 120 #[.val (.int p1), .val (.long q2), .second, .val (.long q3), .second, .val (.long q4), .second, .val (.int p5), .val (.int p6), .val (.long v1), .second, .val (.double v2), .second, .val (.long v3), .second, .val (.long v4), .second, .val (.double v5), .second, .val (.long v18), .second, .val (.long v16), .second, .val (.long v17), .second, .val (.int (0 : Int32)), .val (.long v17), .second, .unset, .unset, .unset, .unset, .unset, .unset] [(.long v16), (.long v18), (.long v3), (.double v2), (.double v5)])) rfl (by rw [hml]; rfl) (argsL := [(.double v5), (.double v2), (.long v3), (.long v18), (.long v16)]) (rest := []) rfl rfl rfl (W := 0) (by show 2 * 0 + _ ≤ _; exact Nat.le_of_eq rfl) (by decide) (by decide) (hb hby at_120) (by decide) (by decide)
    obtain ⟨rfl, N19q, hh19⟩ := q19
    have N20 := Fr.app N0 N19q
    refine Bk.of (fun _ k => st19 _ k) ?_
    show Bk p.tables e below (T19.setTop (mkF m 123 #[.val (.int p1), .val (.long q2), .second, .val (.long q3), .second, .val (.long q4), .second, .val (.int p5), .val (.int p6), .val (.long v1), .second, .val (.double v2), .second, .val (.long v3), .second, .val (.long v4), .second, .val (.double v5), .second, .val (.long v18), .second, .val (.long v16), .second, .val (.long v17), .second, .val (.int (0 : Int32)), .val (.long v17), .second, .unset, .unset, .unset, .unset, .unset, .unset] [(.double (FP.ddiv (FP.dadd v2 (FP.dmul v5 (FP.ddiv (FP.l2d v18) (FP.l2d v16)))) (FP.dadd (FP.l2d v3) v5)))])) K
    refine Bk.of (fun _ k => XS.dstore X19.here hx rfl (hb hby at_123) rfl (l' := #[.val (.int p1), .val (.long q2), .second, .val (.long q3), .second, .val (.long q4), .second, .val (.int p5), .val (.int p6), .val (.long v1), .second, .val (.double v2), .second, .val (.long v3), .second, .val (.long v4), .second, .val (.double v5), .second, .val (.long v18), .second, .val (.long v16), .second, .val (.long v17), .second, .val (.int (0 : Int32)), .val (.double (FP.ddiv (FP.dadd v2 (FP.dmul v5 (FP.ddiv (FP.l2d v18) (FP.l2d v16)))) (FP.dadd (FP.l2d v3) v5))), .second, .unset, .unset, .unset, .unset, .unset, .unset]) rfl k) ?_
    show Bk p.tables e below (T19.setTop (mkF m 125 #[.val (.int p1), .val (.long q2), .second, .val (.long q3), .second, .val (.long q4), .second, .val (.int p5), .val (.int p6), .val (.long v1), .second, .val (.double v2), .second, .val (.long v3), .second, .val (.long v4), .second, .val (.double v5), .second, .val (.long v18), .second, .val (.long v16), .second, .val (.long v17), .second, .val (.int (0 : Int32)), .val (.double (FP.ddiv (FP.dadd v2 (FP.dmul v5 (FP.ddiv (FP.l2d v18) (FP.l2d v16)))) (FP.dadd (FP.l2d v3) v5))), .second, .unset, .unset, .unset, .unset, .unset, .unset] [])) K
    generalize hv21 : (FP.ddiv (FP.dadd v2 (FP.dmul v5 (FP.ddiv (FP.l2d v18) (FP.l2d v16)))) (FP.dadd (FP.l2d v3) v5)) = v21
    refine Bk.of (fun _ k => XS.lload X19.here hx rfl (hb hby at_125) rfl k) ?_
    show Bk p.tables e below (T19.setTop (mkF m 127 #[.val (.int p1), .val (.long q2), .second, .val (.long q3), .second, .val (.long q4), .second, .val (.int p5), .val (.int p6), .val (.long v1), .second, .val (.double v2), .second, .val (.long v3), .second, .val (.long v4), .second, .val (.double v5), .second, .val (.long v18), .second, .val (.long v16), .second, .val (.long v17), .second, .val (.int (0 : Int32)), .val (.double v21), .second, .unset, .unset, .unset, .unset, .unset, .unset] [(.long v1)])) K
    refine Bk.of (fun _ k => XS.iload X19.here hx rfl (hb hby at_127) rfl k) ?_
    show Bk p.tables e below (T19.setTop (mkF m 129 #[.val (.int p1), .val (.long q2), .second, .val (.long q3), .second, .val (.long q4), .second, .val (.int p5), .val (.int p6), .val (.long v1), .second, .val (.double v2), .second, .val (.long v3), .second, .val (.long v4), .second, .val (.double v5), .second, .val (.long v18), .second, .val (.long v16), .second, .val (.long v17), .second, .val (.int (0 : Int32)), .val (.double v21), .second, .unset, .unset, .unset, .unset, .unset, .unset] [(.int (0 : Int32)), (.long v1)])) K
    refine Bk.of (fun _ k => XS.iconst X19.here hx rfl (hb hby at_129) k) ?_
    show Bk p.tables e below (T19.setTop (mkF m 130 #[.val (.int p1), .val (.long q2), .second, .val (.long q3), .second, .val (.long q4), .second, .val (.int p5), .val (.int p6), .val (.long v1), .second, .val (.double v2), .second, .val (.long v3), .second, .val (.long v4), .second, .val (.double v5), .second, .val (.long v18), .second, .val (.long v16), .second, .val (.long v17), .second, .val (.int (0 : Int32)), .val (.double v21), .second, .unset, .unset, .unset, .unset, .unset, .unset] [(.int (1 : Int32)), (.int (0 : Int32)), (.long v1)])) K
    refine Bk.of (fun _ k => XS.iadd X19.here hx rfl (hb hby at_130) rfl k) ?_
    show Bk p.tables e below (T19.setTop (mkF m 131 #[.val (.int p1), .val (.long q2), .second, .val (.long q3), .second, .val (.long q4), .second, .val (.int p5), .val (.int p6), .val (.long v1), .second, .val (.double v2), .second, .val (.long v3), .second, .val (.long v4), .second, .val (.double v5), .second, .val (.long v18), .second, .val (.long v16), .second, .val (.long v17), .second, .val (.int (0 : Int32)), .val (.double v21), .second, .unset, .unset, .unset, .unset, .unset, .unset] [(.int (1 : Int32)), (.long v1)])) K
    refine Bk.of (fun _ k => XS.lshl X19.here hx rfl (hb hby at_131) rfl k) ?_
    show Bk p.tables e below (T19.setTop (mkF m 132 #[.val (.int p1), .val (.long q2), .second, .val (.long q3), .second, .val (.long q4), .second, .val (.int p5), .val (.int p6), .val (.long v1), .second, .val (.double v2), .second, .val (.long v3), .second, .val (.long v4), .second, .val (.double v5), .second, .val (.long v18), .second, .val (.long v16), .second, .val (.long v17), .second, .val (.int (0 : Int32)), .val (.double v21), .second, .unset, .unset, .unset, .unset, .unset, .unset] [(.long (v1 <<< ((1 : Int32) &&& 0x3f).toInt64))])) K
    refine Bk.of (fun _ k => XS.lload X19.here hx rfl (hb hby at_132) rfl k) ?_
    show Bk p.tables e below (T19.setTop (mkF m 134 #[.val (.int p1), .val (.long q2), .second, .val (.long q3), .second, .val (.long q4), .second, .val (.int p5), .val (.int p6), .val (.long v1), .second, .val (.double v2), .second, .val (.long v3), .second, .val (.long v4), .second, .val (.double v5), .second, .val (.long v18), .second, .val (.long v16), .second, .val (.long v17), .second, .val (.int (0 : Int32)), .val (.double v21), .second, .unset, .unset, .unset, .unset, .unset, .unset] [(.long v4), (.long (v1 <<< ((1 : Int32) &&& 0x3f).toInt64))])) K
    refine Bk.of (fun _ k => XS.lload X19.here hx rfl (hb hby at_134) rfl k) ?_
    show Bk p.tables e below (T19.setTop (mkF m 136 #[.val (.int p1), .val (.long q2), .second, .val (.long q3), .second, .val (.long q4), .second, .val (.int p5), .val (.int p6), .val (.long v1), .second, .val (.double v2), .second, .val (.long v3), .second, .val (.long v4), .second, .val (.double v5), .second, .val (.long v18), .second, .val (.long v16), .second, .val (.long v17), .second, .val (.int (0 : Int32)), .val (.double v21), .second, .unset, .unset, .unset, .unset, .unset, .unset] [(.long v17), (.long v4), (.long (v1 <<< ((1 : Int32) &&& 0x3f).toInt64))])) K
    refine Bk.of (fun _ k => XS.lmul X19.here hx rfl (hb hby at_136) rfl k) ?_
    show Bk p.tables e below (T19.setTop (mkF m 137 #[.val (.int p1), .val (.long q2), .second, .val (.long q3), .second, .val (.long q4), .second, .val (.int p5), .val (.int p6), .val (.long v1), .second, .val (.double v2), .second, .val (.long v3), .second, .val (.long v4), .second, .val (.double v5), .second, .val (.long v18), .second, .val (.long v16), .second, .val (.long v17), .second, .val (.int (0 : Int32)), .val (.double v21), .second, .unset, .unset, .unset, .unset, .unset, .unset] [(.long (v4 * v17)), (.long (v1 <<< ((1 : Int32) &&& 0x3f).toInt64))])) K
    refine Bk.of (fun _ k => XS.ladd X19.here hx rfl (hb hby at_137) rfl k) ?_
    show Bk p.tables e below (T19.setTop (mkF m 138 #[.val (.int p1), .val (.long q2), .second, .val (.long q3), .second, .val (.long q4), .second, .val (.int p5), .val (.int p6), .val (.long v1), .second, .val (.double v2), .second, .val (.long v3), .second, .val (.long v4), .second, .val (.double v5), .second, .val (.long v18), .second, .val (.long v16), .second, .val (.long v17), .second, .val (.int (0 : Int32)), .val (.double v21), .second, .unset, .unset, .unset, .unset, .unset, .unset] [(.long ((v1 <<< ((1 : Int32) &&& 0x3f).toInt64) + (v4 * v17)))])) K
    refine Bk.of (fun _ k => XS.lstore X19.here hx rfl (hb hby at_138) rfl (l' := #[.val (.int p1), .val (.long q2), .second, .val (.long q3), .second, .val (.long q4), .second, .val (.int p5), .val (.int p6), .val (.long v1), .second, .val (.double v2), .second, .val (.long v3), .second, .val (.long v4), .second, .val (.double v5), .second, .val (.long v18), .second, .val (.long v16), .second, .val (.long v17), .second, .val (.int (0 : Int32)), .val (.double v21), .second, .val (.long ((v1 <<< ((1 : Int32) &&& 0x3f).toInt64) + (v4 * v17))), .second, .unset, .unset, .unset, .unset]) rfl k) ?_
    show Bk p.tables e below (T19.setTop (mkF m 140 #[.val (.int p1), .val (.long q2), .second, .val (.long q3), .second, .val (.long q4), .second, .val (.int p5), .val (.int p6), .val (.long v1), .second, .val (.double v2), .second, .val (.long v3), .second, .val (.long v4), .second, .val (.double v5), .second, .val (.long v18), .second, .val (.long v16), .second, .val (.long v17), .second, .val (.int (0 : Int32)), .val (.double v21), .second, .val (.long ((v1 <<< ((1 : Int32) &&& 0x3f).toInt64) + (v4 * v17))), .second, .unset, .unset, .unset, .unset] [])) K
    generalize hv22 : ((v1 <<< ((1 : Int32) &&& 0x3f).toInt64) + (v4 * v17)) = v22
    refine Bk.of (fun _ k => X19.ldc2Long hx hown (mvT hZ (hw _ (List.mem_of_getElem? (i := 11) rfl))) (g := (mkF m 140 #[.val (.int p1), .val (.long q2), .second, .val (.long q3), .second, .val (.long q4), .second, .val (.int p5), .val (.int p6), .val (.long v1), .second, .val (.double v2), .second, .val (.long v3), .second, .val (.long v4), .second, .val (.double v5), .second, .val (.long v18), .second, .val (.long v16), .second, .val (.long v17), .second, .val (.int (0 : Int32)), .val (.double v21), .second, .val (.long v22), .second, .unset, .unset, .unset, .unset] [])) rfl (hb hby at_140) _ k) ?_
    show Bk p.tables e below (T19.setTop (mkF m 143 #[.val (.int p1), .val (.long q2), .second, .val (.long q3), .second, .val (.long q4), .second, .val (.int p5), .val (.int p6), .val (.long v1), .second, .val (.double v2), .second, .val (.long v3), .second, .val (.long v4), .second, .val (.double v5), .second, .val (.long v18), .second, .val (.long v16), .second, .val (.long v17), .second, .val (.int (0 : Int32)), .val (.double v21), .second, .val (.long v22), .second, .unset, .unset, .unset, .unset] [(.long (4 : Int64))])) K
    refine Bk.of (fun _ k => XS.lload X19.here hx rfl (hb hby at_143) rfl k) ?_
    show Bk p.tables e below (T19.setTop (mkF m 145 #[.val (.int p1), .val (.long q2), .second, .val (.long q3), .second, .val (.long q4), .second, .val (.int p5), .val (.int p6), .val (.long v1), .second, .val (.double v2), .second, .val (.long v3), .second, .val (.long v4), .second, .val (.double v5), .second, .val (.long v18), .second, .val (.long v16), .second, .val (.long v17), .second, .val (.int (0 : Int32)), .val (.double v21), .second, .val (.long v22), .second, .unset, .unset, .unset, .unset] [(.long v3), (.long (4 : Int64))])) K
    refine Bk.of (fun _ k => XS.lmul X19.here hx rfl (hb hby at_145) rfl k) ?_
    show Bk p.tables e below (T19.setTop (mkF m 146 #[.val (.int p1), .val (.long q2), .second, .val (.long q3), .second, .val (.long q4), .second, .val (.int p5), .val (.int p6), .val (.long v1), .second, .val (.double v2), .second, .val (.long v3), .second, .val (.long v4), .second, .val (.double v5), .second, .val (.long v18), .second, .val (.long v16), .second, .val (.long v17), .second, .val (.int (0 : Int32)), .val (.double v21), .second, .val (.long v22), .second, .unset, .unset, .unset, .unset] [(.long ((4 : Int64) * v3))])) K
    refine Bk.of (fun _ k => XS.lload X19.here hx rfl (hb hby at_146) rfl k) ?_
    show Bk p.tables e below (T19.setTop (mkF m 148 #[.val (.int p1), .val (.long q2), .second, .val (.long q3), .second, .val (.long q4), .second, .val (.int p5), .val (.int p6), .val (.long v1), .second, .val (.double v2), .second, .val (.long v3), .second, .val (.long v4), .second, .val (.double v5), .second, .val (.long v18), .second, .val (.long v16), .second, .val (.long v17), .second, .val (.int (0 : Int32)), .val (.double v21), .second, .val (.long v22), .second, .unset, .unset, .unset, .unset] [(.long v4), (.long ((4 : Int64) * v3))])) K
    refine Bk.of (fun _ k => XS.ladd X19.here hx rfl (hb hby at_148) rfl k) ?_
    show Bk p.tables e below (T19.setTop (mkF m 149 #[.val (.int p1), .val (.long q2), .second, .val (.long q3), .second, .val (.long q4), .second, .val (.int p5), .val (.int p6), .val (.long v1), .second, .val (.double v2), .second, .val (.long v3), .second, .val (.long v4), .second, .val (.double v5), .second, .val (.long v18), .second, .val (.long v16), .second, .val (.long v17), .second, .val (.int (0 : Int32)), .val (.double v21), .second, .val (.long v22), .second, .unset, .unset, .unset, .unset] [(.long (((4 : Int64) * v3) + v4))])) K
    refine Bk.of (fun _ k => XS.lstore X19.here hx rfl (hb hby at_149) rfl (l' := #[.val (.int p1), .val (.long q2), .second, .val (.long q3), .second, .val (.long q4), .second, .val (.int p5), .val (.int p6), .val (.long v1), .second, .val (.double v2), .second, .val (.long v3), .second, .val (.long v4), .second, .val (.double v5), .second, .val (.long v18), .second, .val (.long v16), .second, .val (.long v17), .second, .val (.int (0 : Int32)), .val (.double v21), .second, .val (.long v22), .second, .val (.long (((4 : Int64) * v3) + v4)), .second, .unset, .unset]) rfl k) ?_
    show Bk p.tables e below (T19.setTop (mkF m 151 #[.val (.int p1), .val (.long q2), .second, .val (.long q3), .second, .val (.long q4), .second, .val (.int p5), .val (.int p6), .val (.long v1), .second, .val (.double v2), .second, .val (.long v3), .second, .val (.long v4), .second, .val (.double v5), .second, .val (.long v18), .second, .val (.long v16), .second, .val (.long v17), .second, .val (.int (0 : Int32)), .val (.double v21), .second, .val (.long v22), .second, .val (.long (((4 : Int64) * v3) + v4)), .second, .unset, .unset] [])) K
    generalize hv23 : (((4 : Int64) * v3) + v4) = v23
    have en : num = v22 := hnum.symm.trans hv22
    have ed : den = v23 := hden.symm.trans hv23
    rw [en, ed] at n157 n163 hcmp
    refine Bk.of (fun _ k => XS.lload X19.here hx rfl (hb hby at_151) rfl k) ?_
    show Bk p.tables e below (T19.setTop (mkF m 153 #[.val (.int p1), .val (.long q2), .second, .val (.long q3), .second, .val (.long q4), .second, .val (.int p5), .val (.int p6), .val (.long v1), .second, .val (.double v2), .second, .val (.long v3), .second, .val (.long v4), .second, .val (.double v5), .second, .val (.long v18), .second, .val (.long v16), .second, .val (.long v17), .second, .val (.int (0 : Int32)), .val (.double v21), .second, .val (.long v22), .second, .val (.long v23), .second, .unset, .unset] [(.long v22)])) K
    refine Bk.of (fun _ k => XS.l2dS X19.here hx rfl (hb hby at_153) rfl rfl k) ?_
    show Bk p.tables e below (T19.setTop (mkF m 154 #[.val (.int p1), .val (.long q2), .second, .val (.long q3), .second, .val (.long q4), .second, .val (.int p5), .val (.int p6), .val (.long v1), .second, .val (.double v2), .second, .val (.long v3), .second, .val (.long v4), .second, .val (.double v5), .second, .val (.long v18), .second, .val (.long v16), .second, .val (.long v17), .second, .val (.int (0 : Int32)), .val (.double v21), .second, .val (.long v22), .second, .val (.long v23), .second, .unset, .unset] [(.double (FP.l2d v22))])) K
    refine Bk.of (fun _ k => XS.lload X19.here hx rfl (hb hby at_154) rfl k) ?_
    show Bk p.tables e below (T19.setTop (mkF m 156 #[.val (.int p1), .val (.long q2), .second, .val (.long q3), .second, .val (.long q4), .second, .val (.int p5), .val (.int p6), .val (.long v1), .second, .val (.double v2), .second, .val (.long v3), .second, .val (.long v4), .second, .val (.double v5), .second, .val (.long v18), .second, .val (.long v16), .second, .val (.long v17), .second, .val (.int (0 : Int32)), .val (.double v21), .second, .val (.long v22), .second, .val (.long v23), .second, .unset, .unset] [(.long v23), (.double (FP.l2d v22))])) K
    refine Bk.of (fun _ k => XS.l2dS X19.here hx rfl (hb hby at_156) rfl rfl k) ?_
    show Bk p.tables e below (T19.setTop (mkF m 157 #[.val (.int p1), .val (.long q2), .second, .val (.long q3), .second, .val (.long q4), .second, .val (.int p5), .val (.int p6), .val (.long v1), .second, .val (.double v2), .second, .val (.long v3), .second, .val (.long v4), .second, .val (.double v5), .second, .val (.long v18), .second, .val (.long v16), .second, .val (.long v17), .second, .val (.int (0 : Int32)), .val (.double v21), .second, .val (.long v22), .second, .val (.long v23), .second, .unset, .unset] [(.double (FP.l2d v23)), (.double (FP.l2d v22))])) K
    refine Bk.of (fun _ k => XS.ddivS X19.here hx rfl (hb hby at_157) rfl n157 rfl k) ?_
    show Bk p.tables e below (T19.setTop (mkF m 158 #[.val (.int p1), .val (.long q2), .second, .val (.long q3), .second, .val (.long q4), .second, .val (.int p5), .val (.int p6), .val (.long v1), .second, .val (.double v2), .second, .val (.long v3), .second, .val (.long v4), .second, .val (.double v5), .second, .val (.long v18), .second, .val (.long v16), .second, .val (.long v17), .second, .val (.int (0 : Int32)), .val (.double v21), .second, .val (.long v22), .second, .val (.long v23), .second, .unset, .unset] [(.double (FP.ddiv (FP.l2d v22) (FP.l2d v23)))])) K
    refine Bk.of (fun _ k => XS.lconst X19.here hx rfl (hb hby at_158) k) ?_
    show Bk p.tables e below (T19.setTop (mkF m 159 #[.val (.int p1), .val (.long q2), .second, .val (.long q3), .second, .val (.long q4), .second, .val (.int p5), .val (.int p6), .val (.long v1), .second, .val (.double v2), .second, .val (.long v3), .second, .val (.long v4), .second, .val (.double v5), .second, .val (.long v18), .second, .val (.long v16), .second, .val (.long v17), .second, .val (.int (0 : Int32)), .val (.double v21), .second, .val (.long v22), .second, .val (.long v23), .second, .unset, .unset] [(.long (1 : Int64)), (.double (FP.ddiv (FP.l2d v22) (FP.l2d v23)))])) K
    refine Bk.of (fun _ k => XS.iload X19.here hx rfl (hb hby at_159) rfl k) ?_
    show Bk p.tables e below (T19.setTop (mkF m 161 #[.val (.int p1), .val (.long q2), .second, .val (.long q3), .second, .val (.long q4), .second, .val (.int p5), .val (.int p6), .val (.long v1), .second, .val (.double v2), .second, .val (.long v3), .second, .val (.long v4), .second, .val (.double v5), .second, .val (.long v18), .second, .val (.long v16), .second, .val (.long v17), .second, .val (.int (0 : Int32)), .val (.double v21), .second, .val (.long v22), .second, .val (.long v23), .second, .unset, .unset] [(.int (0 : Int32)), (.long (1 : Int64)), (.double (FP.ddiv (FP.l2d v22) (FP.l2d v23)))])) K
    refine Bk.of (fun _ k => XS.lshl X19.here hx rfl (hb hby at_161) rfl k) ?_
    show Bk p.tables e below (T19.setTop (mkF m 162 #[.val (.int p1), .val (.long q2), .second, .val (.long q3), .second, .val (.long q4), .second, .val (.int p5), .val (.int p6), .val (.long v1), .second, .val (.double v2), .second, .val (.long v3), .second, .val (.long v4), .second, .val (.double v5), .second, .val (.long v18), .second, .val (.long v16), .second, .val (.long v17), .second, .val (.int (0 : Int32)), .val (.double v21), .second, .val (.long v22), .second, .val (.long v23), .second, .unset, .unset] [(.long ((1 : Int64) <<< ((0 : Int32) &&& 0x3f).toInt64)), (.double (FP.ddiv (FP.l2d v22) (FP.l2d v23)))])) K
    rw [htwo]
    refine Bk.of (fun _ k => XS.l2dS X19.here hx rfl (hb hby at_162) rfl rfl k) ?_
    show Bk p.tables e below (T19.setTop (mkF m 163 #[.val (.int p1), .val (.long q2), .second, .val (.long q3), .second, .val (.long q4), .second, .val (.int p5), .val (.int p6), .val (.long v1), .second, .val (.double v2), .second, .val (.long v3), .second, .val (.long v4), .second, .val (.double v5), .second, .val (.long v18), .second, .val (.long v16), .second, .val (.long v17), .second, .val (.int (0 : Int32)), .val (.double v21), .second, .val (.long v22), .second, .val (.long v23), .second, .unset, .unset] [(.double (FP.l2d two)), (.double (FP.ddiv (FP.l2d v22) (FP.l2d v23)))])) K
    refine Bk.of (fun _ k => XS.ddivS X19.here hx rfl (hb hby at_163) rfl n163 rfl k) ?_
    show Bk p.tables e below (T19.setTop (mkF m 164 #[.val (.int p1), .val (.long q2), .second, .val (.long q3), .second, .val (.long q4), .second, .val (.int p5), .val (.int p6), .val (.long v1), .second, .val (.double v2), .second, .val (.long v3), .second, .val (.long v4), .second, .val (.double v5), .second, .val (.long v18), .second, .val (.long v16), .second, .val (.long v17), .second, .val (.int (0 : Int32)), .val (.double v21), .second, .val (.long v22), .second, .val (.long v23), .second, .unset, .unset] [(.double (FP.ddiv (FP.ddiv (FP.l2d v22) (FP.l2d v23)) (FP.l2d two)))])) K
    refine Bk.of (fun _ k => XS.dstore X19.here hx rfl (hb hby at_164) rfl (l' := #[.val (.int p1), .val (.long q2), .second, .val (.long q3), .second, .val (.long q4), .second, .val (.int p5), .val (.int p6), .val (.long v1), .second, .val (.double v2), .second, .val (.long v3), .second, .val (.long v4), .second, .val (.double v5), .second, .val (.long v18), .second, .val (.long v16), .second, .val (.long v17), .second, .val (.int (0 : Int32)), .val (.double v21), .second, .val (.long v22), .second, .val (.long v23), .second, .val (.double (FP.ddiv (FP.ddiv (FP.l2d v22) (FP.l2d v23)) (FP.l2d two))), .second]) rfl k) ?_
    show Bk p.tables e below (T19.setTop (mkF m 166 #[.val (.int p1), .val (.long q2), .second, .val (.long q3), .second, .val (.long q4), .second, .val (.int p5), .val (.int p6), .val (.long v1), .second, .val (.double v2), .second, .val (.long v3), .second, .val (.long v4), .second, .val (.double v5), .second, .val (.long v18), .second, .val (.long v16), .second, .val (.long v17), .second, .val (.int (0 : Int32)), .val (.double v21), .second, .val (.long v22), .second, .val (.long v23), .second, .val (.double (FP.ddiv (FP.ddiv (FP.l2d v22) (FP.l2d v23)) (FP.l2d two))), .second] [])) K
    generalize hv24 : (FP.ddiv (FP.ddiv (FP.l2d v22) (FP.l2d v23)) (FP.l2d two)) = v24
    refine Bk.of (fun _ k => XS.dload X19.here hx rfl (hb hby at_166) rfl k) ?_
    show Bk p.tables e below (T19.setTop (mkF m 168 #[.val (.int p1), .val (.long q2), .second, .val (.long q3), .second, .val (.long q4), .second, .val (.int p5), .val (.int p6), .val (.long v1), .second, .val (.double v2), .second, .val (.long v3), .second, .val (.long v4), .second, .val (.double v5), .second, .val (.long v18), .second, .val (.long v16), .second, .val (.long v17), .second, .val (.int (0 : Int32)), .val (.double v21), .second, .val (.long v22), .second, .val (.long v23), .second, .val (.double v24), .second] [(.double v21)])) K
    refine Bk.of (fun _ k => XS.dload X19.here hx rfl (hb hby at_168) rfl k) ?_
    show Bk p.tables e below (T19.setTop (mkF m 170 #[.val (.int p1), .val (.long q2), .second, .val (.long q3), .second, .val (.long q4), .second, .val (.int p5), .val (.int p6), .val (.long v1), .second, .val (.double v2), .second, .val (.long v3), .second, .val (.long v4), .second, .val (.double v5), .second, .val (.long v18), .second, .val (.long v16), .second, .val (.long v17), .second, .val (.int (0 : Int32)), .val (.double v21), .second, .val (.long v22), .second, .val (.long v23), .second, .val (.double v24), .second] [(.double v24), (.double v21)])) K
    refine Bk.of (fun _ k => XS.dcmpS X19.here hx rfl (hb hby at_170) rfl rfl k) ?_
    show Bk p.tables e below (T19.setTop (mkF m 171 #[.val (.int p1), .val (.long q2), .second, .val (.long q3), .second, .val (.long q4), .second, .val (.int p5), .val (.int p6), .val (.long v1), .second, .val (.double v2), .second, .val (.long v3), .second, .val (.long v4), .second, .val (.double v5), .second, .val (.long v18), .second, .val (.long v16), .second, .val (.long v17), .second, .val (.int (0 : Int32)), .val (.double v21), .second, .val (.long v22), .second, .val (.long v23), .second, .val (.double v24), .second] [(.int (cmpValue (FP.dcmp v21 v24) .l))])) K
    refine Bk.of (fun _ k => XS.ifNo X19.here hx rfl (hb hby at_171) rfl ((if0 _ _).trans (teq (show (cmpValue (FP.dcmp v21 v24) .l) = (0 : Int32) by rw [← hv21, ← hv24, hcmp]; rfl)).2) k) ?_
    show Bk p.tables e below (T19.setTop (mkF m 174 #[.val (.int p1), .val (.long q2), .second, .val (.long q3), .second, .val (.long q4), .second, .val (.int p5), .val (.int p6), .val (.long v1), .second, .val (.double v2), .second, .val (.long v3), .second, .val (.long v4), .second, .val (.double v5), .second, .val (.long v18), .second, .val (.long v16), .second, .val (.long v17), .second, .val (.int (0 : Int32)), .val (.double v21), .second, .val (.long v22), .second, .val (.long v23), .second, .val (.double v24), .second] [])) K
    refine Bk.of (fun _ k => XS.iconst X19.here hx rfl (hb hby at_174) k) ?_
    show Bk p.tables e below (T19.setTop (mkF m 175 #[.val (.int p1), .val (.long q2), .second, .val (.long q3), .second, .val (.long q4), .second, .val (.int p5), .val (.int p6), .val (.long v1), .second, .val (.double v2), .second, .val (.long v3), .second, .val (.long v4), .second, .val (.double v5), .second, .val (.long v18), .second, .val (.long v16), .second, .val (.long v17), .second, .val (.int (0 : Int32)), .val (.double v21), .second, .val (.long v22), .second, .val (.long v23), .second, .val (.double v24), .second] [(.int (1 : Int32))])) K
    refine Bk.of (fun _ k => XS.goto X19.here hx rfl (pc0 := 175) (pc' := 179) rfl (hb hby at_175) (by decide) (by decide) k) ?_
    show Bk p.tables e below (T19.setTop (mkF m 179 #[.val (.int p1), .val (.long q2), .second, .val (.long q3), .second, .val (.long q4), .second, .val (.int p5), .val (.int p6), .val (.long v1), .second, .val (.double v2), .second, .val (.long v3), .second, .val (.long v4), .second, .val (.double v5), .second, .val (.long v18), .second, .val (.long v16), .second, .val (.long v17), .second, .val (.int (0 : Int32)), .val (.double v21), .second, .val (.long v22), .second, .val (.long v23), .second, .val (.double v24), .second] [(.int (1 : Int32))])) K
    refine hK (some (.int (1 : Int32))) X19 (fun q => by cases q) (fun fs hr => retN X19 hx (t := .boolean) hret (by simp) (hb hby at_179) hr) ?_ (by decide) (by decide)
    rw [show T19.heap = h0 from hh19]
    exact ⟨rfl, N20⟩
set_option maxRecDepth 65536 in
set_option maxHeartbeats 40000000 in
theorem comes_1 {Post : Tables → Env → Array Value → State → Outcome → State → Prop} (hpost : ∀ tb e args s v u, (limb_1_1.after args s (.returned v) u = true ∧ limb_1_2.after args s (.returned v) u = true ∧ True) → FrameEnd s (.returned v) u (Jvm.fieldLocs frame_1_writes args s ++ Jvm.arrayLocs frame_1_arrays args s ++ Jvm.staticLocs frame_1_statics s) 0 0 → Post tb e args s (.returned v) u) :
    ArmFor flags0 classFile x code maxLocals ret World_1 tables_1 room_1 Calls_1 rest_1 Pre_1 Post := by
  intro l hfl _ _ p e ha hc hk s m args below hf hA hF happ hP
  obtain ⟨hcalls, hrest, hpre⟩ := hP
  obtain ⟨-, -, -, hnamed, -, -, -, hat⟩ := (Spec.applies_iff hf).mp happ
  obtain ⟨hg, hn⟩ := and_e (Cond.before_iff.mp (show (Jvm.Cond.and given_1 narrow_1).before args s = true from hpre))
  obtain ⟨g1, g2⟩ := and_e hg
  obtain ⟨g3, g4⟩ := and_e g2
  obtain ⟨g5, g6⟩ := and_e g4
  obtain ⟨g7, g8⟩ := and_e g6
  obtain ⟨g9, g10⟩ := and_e g8
  obtain ⟨g11, g12⟩ := and_e g10
  obtain ⟨w0, w1, w2, w3, w4, w5, rfl⟩ : ∃ w0 w1 w2 w3 w4 w5 : Value, args = #[w0, w1, w2, w3, w4, w5] := by
    have hs : args.size = 6 := by simpa [Cond.value, given_1] using g1
    obtain ⟨L⟩ := args
    match L, hs with
    | [w0, w1, w2, w3, w4, w5], _ => exact ⟨w0, w1, w2, w3, w4, w5, rfl⟩
  have hw := fun d (hd : d ∈ tables_1) => atoms_spec (ws := Jvm.Cond.code x code maxLocals ret :: tables_1) hat d (List.mem_cons_of_mem _ hd)
  have hfit : Fit s := fun {y c} hc i hi => by
    obtain ⟨ha, rfl⟩ := Array.getElem?_eq_some_iff.mp hc
    have q := List.all_eq_true.mp ((Array.all_eq_true_iff_forall_mem.mp hF) _ (Array.getElem_mem ha)) i (List.mem_range.mpr hi)
    simpa [Array.getElem?_eq_getElem hi] using q
  obtain ⟨i0, ei0⟩ := is_v g3
  obtain rfl : w0 = (.int i0) := Option.some.inj ei0
  obtain ⟨i1, ei1⟩ := isL_v g5
  obtain rfl : w1 = (.long i1) := Option.some.inj ei1
  obtain ⟨i2, ei2⟩ := isL_v g7
  obtain rfl : w2 = (.long i2) := Option.some.inj ei2
  obtain ⟨i3, ei3⟩ := isL_v g9
  obtain rfl : w3 = (.long i3) := Option.some.inj ei3
  obtain ⟨i4, ei4⟩ := is_v g11
  obtain rfl : w4 = (.int i4) := Option.some.inj ei4
  obtain ⟨i5, ei5⟩ := is_v g12
  obtain rfl : w5 = (.int i5) := Option.some.inj ei5
  obtain ⟨n, o, h1, h2, h3, _, L, rfl, ⟨rfl, N⟩, hq⟩ := rm0 l s _ hw tables_1 i0 i1 i2 i3 i4 i5  s.heap s.heap.size (Nat.le_refl _)  p e ha hc hk s m _ below hf ((Spec.applies_iff_loose hf).mp happ).1 ⟨rfl, State.Warmed39.refl s, rfl⟩ trivial
  refine ⟨n, _, h1, h2, h3, hpost _ _ _ _ _ _ ⟨Cond.after_iff.mpr rfl, Cond.after_iff.mpr (eq_i res_at (Term.int_eval (1)) rfl), trivial⟩ ⟨hq.1, hq.2.1, (hq.2.2.sift fun y hy => Or.inr (N y hy)).mono (by decide) (by decide)⟩⟩
theorem main_1_1 : Claimed_1_1 := comes_1 fun _ _ _ _ _ _ h hF => ⟨h.1, hF⟩
theorem main_1_2 : Claimed_1_2 := comes_1 fun _ _ _ _ _ _ h hF => ⟨h.2.1, hF⟩
end Jvm.Pilot.@@N@@
namespace Jvm.Pilot.@@N@@
open Jvm Jvm.ClassFile Sem Op Lib Jvm.Free Jvm.Stand Jvm.Pilot.@@N@@.Jvm.D
/-! MADE BY PROGRAM (witnessworld.py) out of the Statement's table words and the real class files: 10 classes; the members and pool entries that the words name. The judged class is class 1, her method 1. -/
namespace start1
open Jvm.ClassFile
def u (s : String) : CpInfo := .utf8 (stringToUtf16 s)
/-- a pool by its gaps: so many unusable entries, then the entry; so many at the end -/
def gap : Nat → List CpInfo → List CpInfo
  | 0, r => r
  | n + 1, r => .unusable :: gap n r
def poolList (es : List (Nat × CpInfo)) (last : Nat) : List CpInfo := es.foldr (fun e r => gap e.1 (e.2 :: r)) (gap last [])
def pool (es : List (Nat × CpInfo)) (last : Nat) : Array CpInfo := ⟨poolList es last⟩
def fileOf (pool : Array CpInfo) (this : Nat) (attrs : Array Attribute := #[]) (ms : Array MethodInfo := #[]) (fl : Nat := 33) (sup : Nat := 0) (ifs : Array Nat := #[]) (fds : Array FieldInfo := #[]) : ClassFile where
  minorVersion := 0
  majorVersion := 65
  constantPool := pool
  accessFlags := fl
  thisClass := this
  superClass := sup
  interfaces := ifs
  fields := fds
  methods := ms
  attributes := attrs
def plain (name : String) (sup : Option ClassId) : Class where
  name := name
  kind := .ordinary
  loader := none
  accessFlags := 33
  super := sup
  interfaces := #[]
  cf := none
  fields := #[]
  methods := #[]
  instanceTypes := #[]
  staticTypes := #[]
  resolved := #[]
  callSites := []
  init := .initialized
  statics := none
  mirror := none

def pool0 : Array CpInfo := pool [(5, u "<init>"), (0, u "()V"), (1, .class_ 10), (1, u "java/lang/Object")] 113

def k0m0 : Method := { name := "<init>", desc := "()V", sig := { parameters := [], returnType := none }, accessFlags := 1, code := none }
/-- java/lang/Object -/
def k0 : Class := { plain "java/lang/Object" none with
  accessFlags := 33
  interfaces := #[]
  cf := some (fileOf pool0 8 #[] #[{ accessFlags := 1, nameIndex := 5, descriptorIndex := 6, attributes := #[] }] 33 0 #[] #[])
  fields := #[]
  methods := #[k0m0]
  instanceTypes := #[]
  staticTypes := #[]
  resolved := Array.replicate 124 none
  statics := none }

def pool1 : Array CpInfo := pool [(2, .class_ 4), (1, u "java/lang/Object"), (0, u "<init>"), (0, u "()V"), (0, .long 16777215), (1, .double 4611686018427387904), (1, .long 281474976710655), (1, .integer 1048575), (0, .double 4616189618054758400), (1, .long 15), (1, .long 1099511627775), (1, .long 7), (1, .methodref 23 24), (0, .class_ 25), (0, .nameAndType 26 27), (0, u "com/example/helenus/helenus/Dirichlet"), (0, u "probability"), (0, u "(DDJJJ)D"), (0, .long 4), (1, .class_ 31), (0, u "com/example/helenus/helenus/DirichletProbabilityPinLaw"), (2, u "law"), (0, u "(IJJJII)Z")] 3

def k1m0 : Method := { name := "<init>", desc := "()V", sig := { parameters := [], returnType := none }, accessFlags := 2, code := none }
def k1c1 : Code := { maxStack := 10, maxLocals := 34, code := code, exceptionTable := #[], attributes := #[] }
def k1m1 : Method := { name := "law", desc := "(IJJJII)Z", sig := { parameters := [.int, .long, .long, .long, .int, .int], returnType := some .boolean }, accessFlags := 9, code := some k1c1 }
/-- com/example/helenus/helenus/DirichletProbabilityPinLaw -/
def k1 : Class := { plain "com/example/helenus/helenus/DirichletProbabilityPinLaw" (some 0) with
  accessFlags := 49
  interfaces := #[]
  cf := some (fileOf pool1 30 #[] #[{ accessFlags := 2, nameIndex := 5, descriptorIndex := 6, attributes := #[] }, { accessFlags := 9, nameIndex := 34, descriptorIndex := 35, attributes := #[] }] 49 2 #[] #[])
  fields := #[]
  methods := #[k1m0, k1m1]
  instanceTypes := #[]
  staticTypes := #[]
  resolved := Array.replicate 39 none
  statics := none }

def pool2 : Array CpInfo := pool [(2, .class_ 4), (1, u "com/example/helenus/helenus/DocumentLanguageModel"), (8, .class_ 14), (0, u "java/lang/Object")] 7

/-- com/example/helenus/helenus/DocumentLanguageModel -/
def k2 : Class := { plain "com/example/helenus/helenus/DocumentLanguageModel" (some 0) with
  accessFlags := 1537
  interfaces := #[]
  cf := some (fileOf pool2 2 #[] #[] 1537 13 #[] #[])
  fields := #[]
  methods := #[]
  instanceTypes := #[]
  staticTypes := #[]
  resolved := Array.replicate 22 none
  statics := none }

def pool3 : Array CpInfo := pool [(2, .class_ 4), (1, u "java/lang/Object"), (3, u "mu"), (7, .class_ 18), (1, u "com/example/helenus/helenus/Dirichlet"), (0, u "D"), (2, u "probability"), (0, u "(DDJJJ)D"), (0, .class_ 25), (0, u "com/example/helenus/helenus/DocumentLanguageModel")] 9

def k3c0 : Code := { maxStack := 6, maxLocals := 12, code := prog_8_method_4_code, exceptionTable := #[], attributes := #[] }
def k3m0 : Method := { name := "probability", desc := "(DDJJJ)D", sig := { parameters := [.double, .double, .long, .long, .long], returnType := some .double }, accessFlags := 8, code := some k3c0 }
/-- com/example/helenus/helenus/Dirichlet -/
def k3 : Class := { plain "com/example/helenus/helenus/Dirichlet" (some 0) with
  accessFlags := 33
  interfaces := #[2]
  cf := some (fileOf pool3 16 #[] #[{ accessFlags := 8, nameIndex := 22, descriptorIndex := 23, attributes := #[] }] 33 2 #[24] #[{ accessFlags := 18, nameIndex := 8, descriptorIndex := 19, attributes := #[] }])
  fields := #[{ name := "mu", type := .double, accessFlags := 18, slot := 0, constantValue := 0 }]
  methods := #[k3m0]
  instanceTypes := #[.double]
  staticTypes := #[]
  resolved := Array.replicate 35 none
  statics := none }

def pool4 : Array CpInfo := pool [(1, u "java/lang/Cloneable"), (0, .class_ 1), (0, u "java/lang/Object"), (0, .class_ 3)] 3

/-- java/lang/Cloneable -/
def k4 : Class := { plain "java/lang/Cloneable" (some 0) with
  accessFlags := 1537
  interfaces := #[]
  cf := some (fileOf pool4 2 #[] #[] 1537 4 #[] #[])
  fields := #[]
  methods := #[]
  instanceTypes := #[]
  staticTypes := #[]
  resolved := Array.replicate 8 none
  statics := none }

def pool5 : Array CpInfo := pool [(1, u "java/io/Serializable"), (0, .class_ 1), (0, u "java/lang/Object"), (0, .class_ 3)] 3

/-- java/io/Serializable -/
def k5 : Class := { plain "java/io/Serializable" (some 0) with
  accessFlags := 1537
  interfaces := #[]
  cf := some (fileOf pool5 2 #[] #[] 1537 4 #[] #[])
  fields := #[]
  methods := #[]
  instanceTypes := #[]
  staticTypes := #[]
  resolved := Array.replicate 8 none
  statics := none }

/-- the primitive byte -/
def k6 : Class := { plain "byte" none with kind := .primitive 'B', accessFlags := 0x411 }
/-- [B -/
def k7 : Class := { plain "[B" (some 0) with kind := .array 6 .byte, interfaces := #[4, 5], accessFlags := 1041 }

/-- the primitive int -/
def k8 : Class := { plain "int" none with kind := .primitive 'I', accessFlags := 0x411 }
/-- [I -/
def k9 : Class := { plain "[I" (some 0) with kind := .array 8 .int, interfaces := #[4, 5], accessFlags := 1041 }

def heap : Heap := #[]
def classes : Array Class := #[k0, k1, k2, k3, k4, k5, k6, k7, k8, k9]
def interned : List (Array UInt16 × Addr) := []
def slotsUsed : Nat := 0
def theMethod : MethodId := ⟨1, 1⟩
def args0 : Array Value := #[.int 5, .long 7, .long 3, .long 2, .int 9, .int 0]
def aboutOver (below : List Frame) : State where
  vm := { classes := classes, interned := interned.toArray }
  heap := heap
  slotsUsed := slotsUsed
  threads := #[{ frames := .invoking theMethod args0 :: below }]
def below0 : List Frame := [.native { method := ⟨0, 0⟩, args := #[] }]
def about1 : State := aboutOver below0
def p0 : Program := .bare "" "" ""
def e0 : Env := launch0.env 0 0 0
theorem w_frames : about1.frames = Frame.invoking theMethod args0 :: below0 := rfl
set_option maxRecDepth 65536 in
theorem w_args : argsFit about1.vm theMethod args0 = true := by decide +kernel
set_option maxRecDepth 65536 in
theorem w_heap : heapFits about1 = true := by decide +kernel
set_option maxRecDepth 65536 in
theorem w_runnable : about1.curStatus? = some .runnable := by decide +kernel
set_option maxRecDepth 65536 in
theorem w_alone : about1.alone = true := by decide +kernel
set_option maxRecDepth 65536 in
theorem w_named : about1.methodNamed? x = some theMethod := by decide +kernel
set_option maxRecDepth 65536 in
theorem w_hears : about1.hears theMethod below0 = true := by decide +kernel
set_option maxRecDepth 65536 in
theorem w_ripe : about1.ripe theMethod args0 below0 = true := by decide +kernel
theorem w_running : about1.status = .running := rfl
set_option maxRecDepth 65536 in
theorem w_room : about1.hasRoom e0.platform room_1 = true :=
  launch0.hasRoom_least _ room_1 (by decide +kernel) (by decide +kernel) (by decide +kernel) (by decide +kernel) (by decide +kernel) (by decide +kernel)
theorem allAtoms_all (ts : List Jvm.Cond) (a : Array Jvm.Value) (st : Jvm.State) : (allAtoms ts).before a st = ts.all (fun c => c.before a st) := by
  induction ts with
  | nil => rfl
  | cons c t ih =>
    show (Jvm.Cond.and c (allAtoms t)).before a st = _
    rw [Jvm.Cond.before_and, ih, List.all_cons]
def words1 : List Jvm.Cond := Jvm.Cond.code x code maxLocals ret :: tables_1
/-- a 'code' word, met by the world's own term for the bytes: nothing is compared byte by byte -/
theorem code_word {y : MethodName} {bytes : ByteArray} {mx : Nat} {rt : Option FieldType} {a : Array Value} {s : State} {m : MethodId} {meth : Method} {c : Code} (h1 : s.methodNamed? y = some m) (h2 : s.vm.method? m = some meth) (h3 : meth.code = some c) (h4 : c.code = bytes)
    (h5 : (c.maxLocals == mx && c.exceptionTable.isEmpty && decide (c.maxStack ≤ mostOperands) && decide (meth.sig.returnType = rt) && !meth.locks && decide (parseMethodDescriptor y.desc = some meth.sig)) = true) : (Jvm.Cond.code y bytes mx rt).before a s = true := by
  simp only [Bool.and_eq_true, beq_iff_eq, Bool.not_eq_true', decide_eq_true_eq] at h5
  obtain ⟨⟨⟨⟨⟨g1, g2⟩, g3⟩, g4⟩, g5⟩, g6⟩ := h5
  simp [Cond.before, Cond.holds, Cond.value, h1, h2, h3, h4, g1, g2, g3, g4, g5, g6]
def isCode : Jvm.Cond → Bool
  | .code _ _ _ _ => true
  | _ => false
theorem all_split {L : List Jvm.Cond} {P : Jvm.Cond → Bool} (h1 : L.all (fun c => isCode c || P c) = true) (h2 : ∀ c ∈ L.filter isCode, P c = true) : L.all P = true := by
  refine List.all_eq_true.mpr fun c hc => ?_
  have h := List.all_eq_true.mp h1 c hc
  rcases Bool.eq_false_or_eq_true (isCode c) with hi | hi
  · exact h2 c (List.mem_filter.mpr ⟨hc, hi⟩)
  · simpa [hi] using h
set_option maxRecDepth 65536 in
theorem w_c0 : (Jvm.Cond.code x code maxLocals ret).before args0 about1 = true := code_word (m := ⟨1, 1⟩) (meth := k1m1) (c := k1c1) (by decide +kernel) rfl rfl rfl (by decide +kernel)
set_option maxRecDepth 65536 in
theorem w_c1 : (Jvm.Cond.code ({ cls := "com/example/helenus/helenus/Dirichlet", name := "probability", desc := "(DDJJJ)D" } : Jvm.MethodName) prog_8_method_4_code (12 : Nat) (Option.some Jvm.ClassFile.FieldType.double)).before args0 about1 = true := code_word (m := ⟨3, 0⟩) (meth := k3m0) (c := k3c0) (by decide +kernel) rfl rfl rfl (by decide +kernel)
def codes1 : List Jvm.Cond := [Jvm.Cond.code x code maxLocals ret, Jvm.Cond.code ({ cls := "com/example/helenus/helenus/Dirichlet", name := "probability", desc := "(DDJJJ)D" } : Jvm.MethodName) prog_8_method_4_code (12 : Nat) (Option.some Jvm.ClassFile.FieldType.double)]
set_option maxRecDepth 65536 in
theorem codes_eq : words1.filter isCode = codes1 := rfl
theorem w_codes : ∀ c ∈ words1.filter isCode, c.before args0 about1 = true := by
  rw [codes_eq]
  intro c hc
  simp only [codes1, List.mem_cons, List.not_mem_nil, or_false] at hc
  rcases hc with rfl | rfl
  · exact w_c0
  · exact w_c1
set_option maxRecDepth 65536 in
theorem w_t1 : words1.all (fun c => isCode c || c.before args0 about1) = true := by decide +kernel
theorem w_tables : (allAtoms (Jvm.Cond.code x code maxLocals ret :: tables_1)).before args0 about1 = true := by
  rw [allAtoms_all]
  show words1.all (fun c => c.before args0 about1) = true
  refine all_split ?_ w_codes
  rw [w_t1]
set_option maxRecDepth 65536 in
theorem w_case : (Jvm.Cond.and given_1 narrow_1).before args0 about1 = true := by decide +kernel
theorem w_applies : (headSpec (Jvm.Cond.code x code maxLocals ret :: tables_1) room_1).applies x e0.platform about1 = true :=
  (Spec.applies_iff w_frames).mpr ⟨w_running, w_runnable, w_alone, w_named, w_hears, w_ripe, w_room, w_tables⟩
theorem atStart : AtStart classFile x code maxLocals ret World_1 tables_1 room_1 Calls_1 rest_1 Pre_1 launch0 p0 e0 about1 theMethod args0 below0 :=
  ⟨lists_1, trivial, launch0.admits_env _ _ _, launch0.least_env, fairChoices_fair.cas, fairChoices_fair.clock, w_frames, w_args, w_heap, w_applies, trivial, trivial, w_case⟩
end start1
theorem witness_1 : WitnessClaimed_1 := ⟨start1.p0, start1.e0, start1.about1, start1.theMethod, start1.args0, start1.below0, start1.atStart⟩
end Jvm.Pilot.@@N@@
