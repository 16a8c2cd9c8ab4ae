import JvmDerived
import JvmDerived.Pilot.@@N@@Statement
import JvmDerived.Pilot.@@N@@Code
set_option linter.unusedVariables false
set_option linter.unusedSimpArgs false
namespace Jvm.OwnKit
open Sem ClassFile Op Lib Jvm.Stand Jvm.Free Jvm.LawKit Jvm.RoadKit
/-! ## the walk, backwards: from S the run comes to an end that K speaks of -/
def Wlk (tb : Tables) (e : Env) (below : List Frame) (S : State) (K : State → Outcome → Prop) : Prop := ∃ s₂ o, Steps tb e below S s₂ ∧ K s₂ o
section Wlks
variable {tb : Tables} {e : Env} {below : List Frame} {S S' : State} {K : State → Outcome → Prop}
theorem Wlk.of (f : ∀ t, Steps tb e below S' t → Steps tb e below S t) (h : Wlk tb e below S' K) : Wlk tb e below S K := by
  obtain ⟨t, o, h1, h2⟩ := h; exact ⟨t, o, f t h1, h2⟩
end Wlks
/-! ## a body's contract -/
def Ctr (l : Launch) (Z : State) (h0 : Heap) (y : MethodName) (bytes : ByteArray) (maxL : Nat) (ret : Option FieldType) (ws : List Jvm.Cond) (rm : Room) (as' : Array Value) (Q : Option Value → Heap → List Loc → Prop) : Prop :=
  MetFree l y (head1 (Jvm.Cond.code y bytes maxL ret :: ws) rm) (fun a U => a = as' ∧ Z.Warmed39 U.vm ∧ U.heap = h0) (fun _ _ _ _ _ => True) (fun _ U o U' => ∃ v L, o = .returned v ∧ Q v U'.heap L ∧ FrameEnd U o U' L rm.cells rm.slots)
/-- what the end of a body's walk must show -/
def Fin (p : Program) (l : Launch) (e : Env) (rm : Room) (s : State) (m : MethodId) (as' : Array Value) (below : List Frame) (meth : Method) (c : Code) (ret : Option FieldType) (Q : Option Value → Heap → List Loc → Prop) (K : State → Outcome → Prop) : Prop :=
  ∀ {T : State} {locs : List Loc} {cells slots : Nat} {F : JFrame} (v : Option Value), Stand p l e rm s m as' below meth c T locs cells slots → (ret = none → v = none) →
    (∀ fs, (∀ (f : JFrame) (acts : List Action), f.method = m → f.locked = none → f.entered = [] → (doReturn e (T.setTop f) acts v).1 = T.setFrames fs) → Steps p.tables e below (T.setTop F) (T.setFrames fs)) →
    Q v T.heap locs → cells ≤ rm.cells → slots ≤ rm.slots → Wlk p.tables e below (T.setTop F) K
theorem Ctr.make {l : Launch} {Z : State} {h0 : Heap} {y : MethodName} {bytes : ByteArray} {maxL : Nat} {ret : Option FieldType} {ws : List Jvm.Cond} {rm : Room} {as' : Array Value} {Q : Option Value → Heap → List Loc → Prop} (hpn : plainFor y = true)
    (H : ∀ (p : Program) (e : Env) (s : State) (m : MethodId) (below : List Frame) (meth : Method) (c : Code) (s₁ : State) (K : State → Outcome → Prop), meth.sig.returnType = ret → c.maxLocals = maxL → p.tables.exec = Jvm.exec → c.code = bytes → s.vm.findClass y.cls = some m.cls → meth.name = y.name → Z.Warmed39 s.vm →
      Stand p l e rm s m as' below meth c s₁ [] 0 0 → s₁.heap = h0 → Fin p l e rm s m as' below meth c ret Q K → Wlk p.tables e below (s₁.setTop (entryFrame m as' maxL)) K) : Ctr l Z h0 y bytes maxL ret ws rm as' Q := by
  refine MetFree.of_bodySF hpn hisR ?_
  intro p e s m args below meth c s₁ Bd hml hP hK
  obtain ⟨rfl, hZ, hh⟩ := hP
  refine H p e s m below meth c s₁ (fun s₂ o => s₂.status = .running ∧ Ended s₂ below o ∧ ∃ v L, o = .returned v ∧ Q v s₂.heap L ∧ FrameEnd s o s₂ L rm.cells rm.slots) Bd.returns hml Bd.exec Bd.bytes (findClass_of_methodNamed Bd.named) (name_of_methodNamed Bd.named Bd.method).1 hZ (Stand.of_body Bd) (by rw [← hh, Bd.state]; rfl) ?_
  intro T locs cells slots F v X hv hst hq hc hs
  obtain ⟨fs, hr, hrun, hended, hW, hsame⟩ := X.leave (v := v) (fun h => hv (Bd.returns ▸ h)) Bd.notSynchronized
  exact ⟨_, _, hst fs hr, hrun, hended, v, locs, rfl, hq, ⟨_, rfl⟩, hW, hsame.mono hc hs⟩
section Calls
variable {p : Program} {l : Launch} {e : Env} {R : Room} {s : State} {m : MethodId} {args : Array Value} {below : List Frame} {meth : Method} {c : Code} {T : State} {locs : List Loc} {cells slots : Nat} {Z : State} {a0 : Array Value} {h : Heap}
variable {y z : MethodName} {bytes : ByteArray} {maxL : Nat} {ret : Option FieldType} {rm : Room} {as' : Array Value} {Q : Option Value → Heap → List Loc → Prop}
theorem Ctr.static (M : Ctr l Z h y bytes maxL ret [] rm as' Q) (X : Stand p l e R s m args below meth c T locs cells slots) (hx : p.tables.exec = Jvm.exec) (hZ : Z.Warmed39 s.vm) (eT : T.heap = h) {own : String} {index : Nat} (hown : s.vm.findClass own = some m.cls)
    (wl : (Jvm.Cond.methodLink own index y).before a0 Z = true) (wt : (Jvm.Cond.static y).before a0 Z = true) (wi : (Jvm.Cond.initialized y.cls).before a0 Z = true) (wc : (Jvm.Cond.code y bytes maxL ret).before a0 Z = true) (hy : y.cls ≠ "java/lang/invoke/MethodHandle" ∧ y.cls ≠ "java/lang/invoke/VarHandle")
    {ps : List FieldType} {rt : Option FieldType} (hpd : parseMethodDescriptor y.desc = some ⟨ps, rt⟩) {g : JFrame} (hg : g.method = m) (hsize : g.locals.size = c.maxLocals) {argsL rest : List Value} (ha : argsL.toArray = as') (hlen : argsL.length = ps.length) (hstack : g.stack = argsL.reverse ++ rest)
    {W : Nat} (hW : 2 * g.monitorRoom + (rest.map fun v => v.category).sum ≤ W) (hf : rm.frames + 1 ≤ R.frames) (hl : W + (maxL + 11) + rm.locals ≤ R.locals) (hd : decode c.code g.pc = .ok (.invokestatic index, 3)) (hc : cells + rm.cells ≤ R.cells) (hs : slots + rm.slots ≤ R.slots) :
    ∃ (v : Option Value) (T' : State) (L : List Loc), Stand p l e R s m args below meth c T' (locs ++ L) (cells + rm.cells) (slots + rm.slots) ∧ Q v T'.heap L ∧ ∀ target, Steps p.tables e below (T'.setTop { g with pc := g.pc + 3, stack := v.toList ++ rest }) target → Steps p.tables e below (T.setTop g) target := by
  obtain ⟨v, _, ⟨T', L, k, n⟩, -, X', ⟨Lc, hQ, l1, y1, z1⟩, st⟩ := Jvm.LawKit.callS X hx hown (mvT hZ wl) (mvT hZ wt) (mvT hZ wi) (mvT hZ wc) hy (backOf (W := W) M hZ wc wi hf hl) hg hsize (argsL := argsL) (rest := rest) (lenOf hpd hlen) hstack hW hd (fun _ _ => ⟨ha, eT, hc, hs⟩)
  dsimp only [Pt.U, Pt.locs, Pt.cells, Pt.slots] at X' l1 y1 z1 st hQ
  subst l1 y1 z1
  exact ⟨v, T', Lc, X', hQ, st⟩
theorem Ctr.special (M : Ctr l Z h y bytes maxL none [] rm as' Q) (X : Stand p l e R s m args below meth c T locs cells slots) (hx : p.tables.exec = Jvm.exec) (hZ : Z.Warmed39 s.vm) (eT : T.heap = h) {own : String} {index : Nat} (hown : s.vm.findClass own = some m.cls) (hy1 : y.name = "<init>")
    (wl : (Jvm.Cond.methodLink own index y).before a0 Z = true) (wt : (Jvm.Cond.instanceMethod y).before a0 Z = true) (wi : (Jvm.Cond.initialized y.cls).before a0 Z = true) (wc : (Jvm.Cond.code y bytes maxL none).before a0 Z = true) (hy : y.cls ≠ "java/lang/invoke/MethodHandle" ∧ y.cls ≠ "java/lang/invoke/VarHandle")
    {ps : List FieldType} {rt : Option FieldType} (hpd : parseMethodDescriptor y.desc = some ⟨ps, rt⟩) {g : JFrame} (hg : g.method = m) (hsize : g.locals.size = c.maxLocals) {a : Addr} {argsL rest : List Value} (ha : (.ref a :: argsL).toArray = as') (hlen : argsL.length = ps.length) (hstack : g.stack = argsL.reverse ++ .ref a :: rest)
    {W : Nat} (hW : 2 * g.monitorRoom + (rest.map fun v => v.category).sum ≤ W) (hf : rm.frames + 1 ≤ R.frames) (hl : W + (maxL + 11) + rm.locals ≤ R.locals) (hd : decode c.code g.pc = .ok (.invokespecial index, 3)) (hc : cells + rm.cells ≤ R.cells) (hs : slots + rm.slots ≤ R.slots) :
    ∃ (v : Option Value) (T' : State) (L : List Loc), Stand p l e R s m args below meth c T' (locs ++ L) (cells + rm.cells) (slots + rm.slots) ∧ Q v T'.heap L ∧ ∀ target, Steps p.tables e below (T'.setTop { g with pc := g.pc + 3, stack := v.toList ++ rest }) target → Steps p.tables e below (T.setTop g) target := by
  obtain ⟨v, _, ⟨T', L, k, n⟩, -, X', ⟨Lc, hQ, l1, y1, z1⟩, st⟩ := X.specialBack hx hy1 hown (mvT hZ wl) (mvT hZ wt) (mvT hZ wc) hy (backOf (W := W) M hZ wc wi hf hl) hg hsize (Steps.refl _) (a := a) (argsL := argsL) (rest := rest) (lenOf hpd hlen) hstack hW hd (fun _ _ => ⟨ha, eT, hc, hs⟩)
  dsimp only [Pt.U, Pt.locs, Pt.cells, Pt.slots] at X' l1 y1 z1 st hQ
  subst l1 y1 z1
  exact ⟨v, T', Lc, X', hQ, fun target k => st.trans k⟩
theorem Ctr.virtual (M : Ctr l Z h z bytes maxL ret [] rm as' Q) (X : Stand p l e R s m args below meth c T locs cells slots) (hx : p.tables.exec = Jvm.exec) (hZ : Z.Warmed39 s.vm) (eT : T.heap = h) {own C : String} {index : Nat} (hown : s.vm.findClass own = some m.cls)
    (wl : (Jvm.Cond.methodLink own index y).before a0 Z = true) (wd : (Jvm.Cond.declares y).before a0 Z = true) (hnf : NotFace s y) (wsel : (Jvm.Cond.selects C y z).before a0 Z = true) (wt : (Jvm.Cond.instanceMethod z).before a0 Z = true) (wi : (Jvm.Cond.initialized z.cls).before a0 Z = true) (wc : (Jvm.Cond.code z bytes maxL ret).before a0 Z = true) (hy : y.cls ≠ "java/lang/invoke/MethodHandle" ∧ y.cls ≠ "java/lang/invoke/VarHandle")
    {a : Addr} (E : Exa Z h a C) {ps : List FieldType} {rt : Option FieldType} (hpd : parseMethodDescriptor y.desc = some ⟨ps, rt⟩) {g : JFrame} (hg : g.method = m) (hsize : g.locals.size = c.maxLocals) {argsL rest : List Value} (ha : (.ref a :: argsL).toArray = as') (hlen : argsL.length = ps.length) (hstack : g.stack = argsL.reverse ++ .ref a :: rest)
    {W : Nat} (hW : 2 * g.monitorRoom + (rest.map fun v => v.category).sum ≤ W) (hf : rm.frames + 1 ≤ R.frames) (hl : W + (maxL + 11) + rm.locals ≤ R.locals) (hd : decode c.code g.pc = .ok (.invokevirtual index, 3)) (hc : cells + rm.cells ≤ R.cells) (hs : slots + rm.slots ≤ R.slots) :
    ∃ (v : Option Value) (T' : State) (L : List Loc), Stand p l e R s m args below meth c T' (locs ++ L) (cells + rm.cells) (slots + rm.slots) ∧ Q v T'.heap L ∧ ∀ target, Steps p.tables e below (T'.setTop { g with pc := g.pc + 3, stack := v.toList ++ rest }) target → Steps p.tables e below (T.setTop g) target := by
  obtain ⟨cq, kq, qa, qb, qc⟩ := isOf hZ eT E
  obtain ⟨v, _, ⟨T', L, k, n⟩, -, X', ⟨Lc, hQ, l1, y1, z1⟩, st⟩ := X.virtualBack hx hown (mvT hZ wl) (mvT hZ wd) hnf (mvT hZ wsel) (mvT hZ wt) hy (backOf (W := W) M hZ wc wi hf hl) qa qc hg hsize (Steps.refl _) (argsL := argsL) (rest := rest) (lenOf hpd hlen) hstack hW hd (fun _ _ => ⟨ha, eT, hc, hs⟩)
  dsimp only [Pt.U, Pt.locs, Pt.cells, Pt.slots] at X' l1 y1 z1 st hQ
  subst l1 y1 z1
  exact ⟨v, T', Lc, X', hQ, fun target k => st.trans k⟩
theorem Ctr.priv (M : Ctr l Z h y bytes maxL ret [] rm as' Q) (X : Stand p l e R s m args below meth c T locs cells slots) (hx : p.tables.exec = Jvm.exec) (hZ : Z.Warmed39 s.vm) (eT : T.heap = h) {own : String} {index n : Nat} (hown : s.vm.findClass own = some m.cls)
    (wl : (Jvm.Cond.methodLink own index y).before a0 Z = true) (wt : (Jvm.Cond.instanceMethod y).before a0 Z = true) (wp : (Jvm.Cond.privateMethod y).before a0 Z = true) (win : (Jvm.Cond.instantiable y.cls n).before a0 Z = true) (wi : (Jvm.Cond.initialized y.cls).before a0 Z = true) (wc : (Jvm.Cond.code y bytes maxL ret).before a0 Z = true) (hy : y.cls ≠ "java/lang/invoke/MethodHandle" ∧ y.cls ≠ "java/lang/invoke/VarHandle")
    {C : String} {a : Addr} (E : Exa Z h a C) {ps : List FieldType} {rt : Option FieldType} (hpd : parseMethodDescriptor y.desc = some ⟨ps, rt⟩) {g : JFrame} (hg : g.method = m) (hsize : g.locals.size = c.maxLocals) {argsL rest : List Value} (ha : (.ref a :: argsL).toArray = as') (hlen : argsL.length = ps.length) (hstack : g.stack = argsL.reverse ++ .ref a :: rest)
    {W : Nat} (hW : 2 * g.monitorRoom + (rest.map fun v => v.category).sum ≤ W) (hf : rm.frames + 1 ≤ R.frames) (hl : W + (maxL + 11) + rm.locals ≤ R.locals) (hd : decode c.code g.pc = .ok (.invokevirtual index, 3)) (hc : cells + rm.cells ≤ R.cells) (hs : slots + rm.slots ≤ R.slots) :
    ∃ (v : Option Value) (T' : State) (L : List Loc), Stand p l e R s m args below meth c T' (locs ++ L) (cells + rm.cells) (slots + rm.slots) ∧ Q v T'.heap L ∧ ∀ target, Steps p.tables e below (T'.setTop { g with pc := g.pc + 3, stack := v.toList ++ rest }) target → Steps p.tables e below (T.setTop g) target := by
  obtain ⟨cq, q, q'⟩ := E.cell
  obtain ⟨ck, k, i1, i2, i3, i4, -⟩ := Cond.instantiable_spec (mvT (args := args) hZ win)
  have hni : k.isInterface = false := by cases hk : k.isInterface <;> simp [hk] at i4 ⊢
  have hpr := Cond.privateMethod_at (mvP (args := args) hZ wp)
  obtain ⟨v, _, ⟨T', L, k, n⟩, -, X', ⟨Lc, hQ, l1, y1, z1⟩, st⟩ := X.privateBack hx hown (mvT hZ wl) (mvT hZ wt) (selects_self_of_private i1 i2 hni hpr (mvT hZ wt) hy) hpr (mvT hZ wc) hy (backOf (W := W) M hZ wc wi hf hl) hg hsize (Steps.refl _) (a := a) (by rw [eT]; exact q) q' (argsL := argsL) (rest := rest) (lenOf hpd hlen) hstack hW hd (fun _ _ => ⟨ha, eT, hc, hs⟩)
  dsimp only [Pt.U, Pt.locs, Pt.cells, Pt.slots] at X' l1 y1 z1 st hQ
  subst l1 y1 z1
  exact ⟨v, T', Lc, X', hQ, fun target k => st.trans k⟩
end Calls
/-! ## an array by the list of what it holds -/
def Arl (Z : State) (h : Heap) (a : Addr) (ty : FieldType) (vs : List Value) : Prop := ∃ c : Cell, Arr Z h a c ty ∧ c.slots.toList = vs ∧ vs.length < 2 ^ 31
section Arls
variable {p : Program} {l : Launch} {e : Env} {R : Room} {s : State} {m : MethodId} {args : Array Value} {below : List Frame} {meth : Method} {c : Code} {T : State} {locs : List Loc} {cells slots : Nat} {Z : State} {a0 : Array Value} {h h' h0 : Heap}
variable {a b : Addr} {ty : FieldType} {vs : List Value} {v : Value} {sl : Nat} {ws : List Addr}
theorem Arl.lt (F : Arl Z h a ty vs) : a < h.size := by obtain ⟨c, A, -⟩ := F; exact A.lt
theorem Arl.ext (F : Arl Z h a ty vs) (E : Ext h h') : Arl Z h' a ty vs := by obtain ⟨c, A, r⟩ := F; exact ⟨c, A.ext E, r⟩
theorem Arl.other (F : Arl Z h b ty vs) (W : Wr h h' a sl v) (q : b ≠ a) : Arl Z h' b ty vs := by obtain ⟨c, A, r⟩ := F; exact ⟨c, A.other W q, r⟩
theorem Arl.keep (F : Arl Z h a ty vs) (K : Keep h h' ws) (q : a ∉ ws) : Arl Z h' a ty vs := by obtain ⟨c, A, r⟩ := F; exact ⟨c, ⟨K.2.1 a c A.1 q, A.2⟩, r⟩
theorem Arl.wr (F : Arl Z h a ty vs) (W : Wr h h' a sl v) : Arl Z h' a ty (vs.set sl v) := by
  obtain ⟨c, A, e, q⟩ := F
  exact ⟨c.setSlot sl v, A.same W, by rw [← e]; simp [Cell.setSlot], by simpa using q⟩
theorem Arl.inb {c : Cell} {j : Int32} {i : Nat} (e : c.slots.toList = vs) (hj : j.toNatClampNeg = i) (h0 : ¬ j < 0) (hi : i < vs.length) : ¬ (j < 0 ∨ c.slots.size ≤ j.toNatClampNeg) := by
  subst hj e
  rintro (q | q)
  · exact h0 q
  · simp at hi; omega
theorem Arl.at {c : Cell} {j : Int32} {i : Nat} (e : c.slots.toList = vs) (hj : j.toNatClampNeg = i) (hv : vs[i]? = some v) : c.slots[j.toNatClampNeg]? = some v := by
  subst hj e; simpa using hv
theorem some_lt {i : Nat} (hv : vs[i]? = some v) : i < vs.length := (List.getElem?_eq_some_iff.mp hv).1
theorem newL (X : Stand p l e R s m args below meth c T locs cells slots) (hx : p.tables.exec = Jvm.exec) (hZ : Z.Warmed39 s.vm) {aty : ArrayType} (w : (Jvm.Cond.arrayClass (newarray.typeOf aty)).before a0 Z = true) (eT : T.heap = h) {g : JFrame} (hg : g.method = m) (hd : decode c.code g.pc = .ok (.newarray aty, 2)) {n : Int32} {rest : List Value} (hs : g.stack = .int n :: rest)
    (hn : ¬ n < 0) {cap : Nat} (hcap : n.toNatClampNeg = cap) (hb : cap * 8 ≤ 536870912) (hc : cells + 1 ≤ R.cells) (hl : slots + cap ≤ R.slots) :
    ∃ T' h', Stand p l e R s m args below meth c T' locs (cells + 1) (slots + cap) ∧ T'.heap = h' ∧ Ext h h' ∧ Arl Z h' h.size (newarray.typeOf aty) (List.replicate cap (defaultValue (newarray.typeOf aty))) ∧
      ∀ target, Steps p.tables e below (T'.setTop { g with pc := g.pc + 2, stack := .ref h.size :: rest }) target → Steps p.tables e below (T.setTop g) target := by
  obtain ⟨T', h', cA, X', e', E, A, st⟩ := newP X hx hZ w eT hg hd hs hn (cap := cap) (Nat.le_of_eq hcap) hb hc hl
  refine ⟨T', h', X', e', E, ⟨_, A, by simp [newA, hcap], ?_⟩, st⟩
  have := (back32 hn).2
  rw [List.length_replicate]; omega
theorem lenL (X : Stand p l e R s m args below meth c T locs cells slots) (hx : p.tables.exec = Jvm.exec) (hZ : Z.Warmed39 s.vm) (eT : T.heap = h) (F : Arl Z h a ty vs) {n : Int32} (hn : vs.length.toInt32 = n) {g : JFrame} (hg : g.method = m) {rest : List Value} (hs : g.stack = .ref a :: rest) (hd : decode c.code g.pc = .ok (.arraylength, 1)) (target : State)
    (k : Steps p.tables e below (T.setTop { g with pc := g.pc + 1, stack := .int n :: rest }) target) : Steps p.tables e below (T.setTop g) target := by
  obtain ⟨cl, A, e1, q⟩ := F
  have q2 : cl.slots.size.toInt32 = n := by rw [← hn, ← e1]; simp
  exact X.arraylength hx (by rw [eT]; exact A.1) (State.isArrayOf_alike hZ.alike A.2.1) hg hs hd target (by rw [q2]; exact k)
theorem ldD (X : Stand p l e R s m args below meth c T locs cells slots) (hx : p.tables.exec = Jvm.exec) (hZ : Z.Warmed39 s.vm) (eT : T.heap = h) (F : Arl Z h a .double vs) {j : Int32} {i : Nat} (hj : j.toNatClampNeg = i) (h0 : ¬ j < 0) (hv : vs[i]? = some v) {g : JFrame} (hg : g.method = m) {rest : List Value} (hs : g.stack = .int j :: .ref a :: rest) (hd : decode c.code g.pc = .ok (.daload, 1)) (target : State)
    (k : Steps p.tables e below (T.setTop { g with pc := g.pc + 1, stack := v :: rest }) target) : Steps p.tables e below (T.setTop g) target := by
  obtain ⟨cl, A, e1, q⟩ := F
  exact X.daload hx (by rw [eT]; exact A.1) (State.isArrayOf_alike hZ.alike A.2.1) A.2.2 (Arl.inb e1 hj h0 (some_lt hv)) (Arl.at e1 hj hv) hg hs hd target k
theorem ldI (X : Stand p l e R s m args below meth c T locs cells slots) (hx : p.tables.exec = Jvm.exec) (hZ : Z.Warmed39 s.vm) (eT : T.heap = h) (F : Arl Z h a .int vs) {j : Int32} {i : Nat} (hj : j.toNatClampNeg = i) (h0 : ¬ j < 0) (hv : vs[i]? = some v) {g : JFrame} (hg : g.method = m) {rest : List Value} (hs : g.stack = .int j :: .ref a :: rest) (hd : decode c.code g.pc = .ok (.iaload, 1)) (target : State)
    (k : Steps p.tables e below (T.setTop { g with pc := g.pc + 1, stack := v :: rest }) target) : Steps p.tables e below (T.setTop g) target := by
  obtain ⟨cl, A, e1, q⟩ := F
  exact X.iaload hx (by rw [eT]; exact A.1) (State.isArrayOf_alike hZ.alike A.2.1) A.2.2 (Arl.inb e1 hj h0 (some_lt hv)) (Arl.at e1 hj hv) hg hs hd target k
theorem ldJ (X : Stand p l e R s m args below meth c T locs cells slots) (hx : p.tables.exec = Jvm.exec) (hZ : Z.Warmed39 s.vm) (eT : T.heap = h) (F : Arl Z h a .long vs) {j : Int32} {i : Nat} (hj : j.toNatClampNeg = i) (h0 : ¬ j < 0) (hv : vs[i]? = some v) {g : JFrame} (hg : g.method = m) {rest : List Value} (hs : g.stack = .int j :: .ref a :: rest) (hd : decode c.code g.pc = .ok (.laload, 1)) (target : State)
    (k : Steps p.tables e below (T.setTop { g with pc := g.pc + 1, stack := v :: rest }) target) : Steps p.tables e below (T.setTop g) target := by
  obtain ⟨cl, A, e1, q⟩ := F
  exact X.laload hx (by rw [eT]; exact A.1) (State.isArrayOf_alike hZ.alike A.2.1) A.2.2 (Arl.inb e1 hj h0 (some_lt hv)) (Arl.at e1 hj hv) hg hs hd target k
theorem ldZ (X : Stand p l e R s m args below meth c T locs cells slots) (hx : p.tables.exec = Jvm.exec) (hZ : Z.Warmed39 s.vm) (eT : T.heap = h) (F : Arl Z h a .boolean vs) {j : Int32} {i : Nat} (hj : j.toNatClampNeg = i) (h0 : ¬ j < 0) (hv : vs[i]? = some v) {g : JFrame} (hg : g.method = m) {rest : List Value} (hs : g.stack = .int j :: .ref a :: rest) (hd : decode c.code g.pc = .ok (.baload, 1)) (target : State)
    (k : Steps p.tables e below (T.setTop { g with pc := g.pc + 1, stack := v :: rest }) target) : Steps p.tables e below (T.setTop g) target := by
  obtain ⟨cl, A, e1, q⟩ := F
  exact X.baloadBooleans hx (by rw [eT]; exact A.1) (State.isArrayOf_alike hZ.alike A.2.1) A.2.2 (Arl.inb e1 hj h0 (some_lt hv)) (Arl.at e1 hj hv) hg hs hd target k
theorem ldR (X : Stand p l e R s m args below meth c T locs cells slots) (hx : p.tables.exec = Jvm.exec) (hZ : Z.Warmed39 s.vm) (eT : T.heap = h) (F : Arl Z h a ty vs) (hty : ty.isReference = true) {j : Int32} {i : Nat} (hj : j.toNatClampNeg = i) (h0 : ¬ j < 0) (hv : vs[i]? = some v) {g : JFrame} (hg : g.method = m) {rest : List Value} (hs : g.stack = .int j :: .ref a :: rest) (hd : decode c.code g.pc = .ok (.aaload, 1)) (target : State)
    (k : Steps p.tables e below (T.setTop { g with pc := g.pc + 1, stack := v :: rest }) target) : Steps p.tables e below (T.setTop g) target := by
  obtain ⟨cl, A, e1, q⟩ := F
  exact X.aaload hx (by rw [eT]; exact A.1) (State.isArrayOf_alike hZ.alike A.2.1) hty A.2.2 (Arl.inb e1 hj h0 (some_lt hv)) (Arl.at e1 hj hv) hg hs hd target k
theorem stDl (X : Stand p l e R s m args below meth c T locs cells slots) (hx : p.tables.exec = Jvm.exec) (hZ : Z.Warmed39 s.vm) (eT : T.heap = h) (F : Arl Z h a .double vs) {j : Int32} {i : Nat} {x : UInt64} (hj : j.toNatClampNeg = i) (h0 : ¬ j < 0) (hi : i < vs.length) {g : JFrame} (hg : g.method = m) {rest : List Value} (hs : g.stack = .double x :: .int j :: .ref a :: rest) (hd : decode c.code g.pc = .ok (.dastore, 1)) :
    ∃ T' h', Stand p l e R s m args below meth c T' (locs ++ [⟨a, i⟩]) cells slots ∧ T'.heap = h' ∧ Wr h h' a i (.double x) ∧ Arl Z h' a .double (vs.set i (.double x)) ∧ ∀ target, Steps p.tables e below (T'.setTop { g with pc := g.pc + 1, stack := rest }) target → Steps p.tables e below (T.setTop g) target := by
  have F0 := F
  obtain ⟨cl, A, e1, q⟩ := F
  obtain ⟨T', h', X', e', W, st⟩ := stD X hx hZ eT A (Arl.inb e1 hj h0 hi) hg hs hd
  subst hj
  exact ⟨T', h', X', e', W, F0.wr W, st⟩
theorem stIl (X : Stand p l e R s m args below meth c T locs cells slots) (hx : p.tables.exec = Jvm.exec) (hZ : Z.Warmed39 s.vm) (eT : T.heap = h) (F : Arl Z h a .int vs) {j : Int32} {i : Nat} {x : Int32} (hj : j.toNatClampNeg = i) (h0 : ¬ j < 0) (hi : i < vs.length) {g : JFrame} (hg : g.method = m) {rest : List Value} (hs : g.stack = .int x :: .int j :: .ref a :: rest) (hd : decode c.code g.pc = .ok (.iastore, 1)) :
    ∃ T' h', Stand p l e R s m args below meth c T' (locs ++ [⟨a, i⟩]) cells slots ∧ T'.heap = h' ∧ Wr h h' a i (.int x) ∧ Arl Z h' a .int (vs.set i (.int x)) ∧ ∀ target, Steps p.tables e below (T'.setTop { g with pc := g.pc + 1, stack := rest }) target → Steps p.tables e below (T.setTop g) target := by
  have F0 := F
  obtain ⟨cl, A, e1, q⟩ := F
  obtain ⟨T', h', X', e', W, st⟩ := stI X hx hZ eT A (Arl.inb e1 hj h0 hi) hg hs hd
  subst hj
  exact ⟨T', h', X', e', W, F0.wr W, st⟩
theorem stJl (X : Stand p l e R s m args below meth c T locs cells slots) (hx : p.tables.exec = Jvm.exec) (hZ : Z.Warmed39 s.vm) (eT : T.heap = h) (F : Arl Z h a .long vs) {j : Int32} {i : Nat} {x : Int64} (hj : j.toNatClampNeg = i) (h0 : ¬ j < 0) (hi : i < vs.length) {g : JFrame} (hg : g.method = m) {rest : List Value} (hs : g.stack = .long x :: .int j :: .ref a :: rest) (hd : decode c.code g.pc = .ok (.lastore, 1)) :
    ∃ T' h', Stand p l e R s m args below meth c T' (locs ++ [⟨a, i⟩]) cells slots ∧ T'.heap = h' ∧ Wr h h' a i (.long x) ∧ Arl Z h' a .long (vs.set i (.long x)) ∧ ∀ target, Steps p.tables e below (T'.setTop { g with pc := g.pc + 1, stack := rest }) target → Steps p.tables e below (T.setTop g) target := by
  have F0 := F
  obtain ⟨cl, A, e1, q⟩ := F
  obtain ⟨T', h', X', e', W, st⟩ := stJ X hx hZ eT A (Arl.inb e1 hj h0 hi) hg hs hd
  subst hj
  exact ⟨T', h', X', e', W, F0.wr W, st⟩
end Arls
end Jvm.OwnKit
namespace Jvm.OwnKit
open Jvm.FP Jvm.FP.Core
/-! ## dyadic doubles: a is the number i / 2^k -/
def shf (k : Int) : Datum → Datum
  | .nan => .nan
  | .inf s => .inf s
  | .fin s c q => .fin s c (q + k)
def Dy (i : Int) (k : Int) (a : UInt64) : Prop := Whole i (shf k (val64 a))
theorem shf_zero (d : Datum) : shf 0 d = d := by cases d <;> simp [shf]
theorem shf_shf (j k : Int) (d : Datum) : shf j (shf k d) = shf (k + j) d := by cases d <;> simp [shf]; omega
theorem shf_neg (k : Int) (x : Datum) : shf k (negate x) = negate (shf k x) := by cases x <;> rfl
theorem inU_shf (c : Nat) (q e k : Int) : inUnits c (q + k) (e + k) = inUnits c q e := by
  unfold inUnits; rw [show q + k - (e + k) = q - e by omega]
theorem shf_sum (k : Int) (x y : Datum) : shf k (exactSum x y) = exactSum (shf k x) (shf k y) := by
  cases x <;> cases y
  case fin.fin s c q t d r =>
    have hm : min (q + k) (r + k) = min q r + k := by omega
    simp only [shf, exactSum, hm, sumUnits, inU_shf]
  case inf.inf s t => by_cases h : s = t <;> simp [shf, exactSum, h]
  all_goals rfl
theorem shf_prod (k j : Int) (x y : Datum) : shf (k + j) (exactProduct x y) = exactProduct (shf k x) (shf j y) := by
  cases x <;> cases y
  case fin.fin s c q t d r => simp only [shf, exactProduct]; congr 1; omega
  case inf.fin s t d r => by_cases h : d = 0 <;> simp [shf, exactProduct, h]
  case fin.inf s c q t => by_cases h : c = 0 <;> simp [shf, exactProduct, h]
  all_goals rfl
theorem shf_order (k : Int) (x y : Datum) : order (shf k x) (shf k y) = order x y := by
  cases x <;> cases y
  case fin.fin s c q t d r =>
    have hm : min (q + k) (r + k) = min q r + k := by omega
    simp only [shf, order, hm, inU_shf]
  all_goals rfl
/-- a number of at most 53 digits at a middling exponent is rounded to itself -/
theorem whole_exact {s : Bool} {n : Nat} {k : Int} (hn : n < 2 ^ 53) (h1 : -900 ≤ k) (h2 : k ≤ 1000) : Whole (signed s n) (shf k (round b64 (.fin s n (-k)))) := by
  have q1 : b64.qmin = -1074 := by decide
  have q2 : b64.qmax = 971 := by decide
  obtain ⟨c', q', e1, e2⟩ := round_exact good_b64 s (c := n) (q := -k) (by exact hn) (by omega) (by omega)
  have hf := round_fits good_b64 (.fin s n (-k))
  rw [e1] at hf
  have g1 := hf.2.1
  rw [e1]
  show signed s (c' * 2 ^ (q' + k).toNat) = signed s n * ((2 ^ (-(q' + k)).toNat : Nat) : Int)
  rw [← signed_mul]
  congr 1
  unfold inUnits at e2
  rw [q1] at e2 g1
  refine Nat.eq_of_mul_eq_mul_right (Nat.two_pow_pos ((-k - -1074).toNat)) ?_
  refine Nat.eq_of_mul_eq_mul_right (Nat.two_pow_pos ((q' - -1074).toNat)) ?_
  have hx : (q' + k).toNat + (-k - -1074).toNat = (-(q' + k)).toNat + (q' - -1074).toNat := by omega
  calc c' * 2 ^ (q' + k).toNat * 2 ^ (-k - -1074).toNat * 2 ^ (q' - -1074).toNat
      = (c' * 2 ^ (q' - -1074).toNat) * 2 ^ ((q' + k).toNat + (-k - -1074).toNat) := by rw [Nat.pow_add]; ac_rfl
    _ = (n * 2 ^ (-k - -1074).toNat) * 2 ^ ((-(q' + k)).toNat + (q' - -1074).toNat) := by rw [e2, hx]
    _ = n * 2 ^ (-(q' + k)).toNat * 2 ^ (-k - -1074).toNat * 2 ^ (q' - -1074).toNat := by rw [Nat.pow_add]; ac_rfl
theorem signed_abs {s : Bool} {i : Int} (h : i ≠ 0 → s = decide (i < 0)) : signed s i.natAbs = i := by
  by_cases hi : i = 0
  · subst hi; exact signed_zero s
  · rw [h hi]; unfold signed; by_cases q : i < 0 <;> simp [q] <;> omega
theorem dy_round {i k : Int} {d : Datum} (hi : i.natAbs < 2 ^ 53) (h1 : -900 ≤ k) (h2 : k ≤ 1000) (h : Whole i (shf k d)) : Whole i (shf k (round b64 d)) := by
  cases d with
  | nan => exact h.elim
  | inf => exact h.elim
  | fin s c q =>
    have hw : Whole i (.fin s c (q + k)) := h
    have ha := whole_natAbs hw
    have e : round b64 (.fin s c q) = round b64 (.fin s i.natAbs (-k)) := by
      refine roundRatio_congr (by decide) (by decide) ?_
      rw [show (q - -k).toNat = (q + k).toNat by omega, show (-k - q).toNat = (-(q + k)).toNat by omega]
      simpa using ha
    rw [e]
    have := whole_exact (s := s) (k := k) hi h1 h2
    rw [signed_abs (fun hn => whole_sign hw hn)] at this
    exact this
section Dys
variable {i j k k' : Int} {a b : UInt64}
theorem Dy.fin (h : Dy i k a) : ∃ s c q, val64 a = .fin s c q := by
  unfold Dy at h
  cases hv : val64 a with
  | nan => rw [hv] at h; exact h.elim
  | inf s => rw [hv] at h; exact h.elim
  | fin s c q => exact ⟨s, c, q, rfl⟩
theorem Dy.nn (h : Dy i k a) : Jvm.Free.Fl.NoNaN64 a := by
  obtain ⟨s, c, q, e⟩ := h.fin
  refine Jvm.Free.Fl.val64_no.mpr ?_
  rw [e]; nofun
theorem Dy.l2d {a : Int64} (h : a.toInt.natAbs < 2 ^ 53) : Dy a.toInt 0 (FP.l2d a) := by
  unfold Dy; rw [shf_zero]; exact l2d_int (Nat.le_of_lt h)
theorem Dy.i2d (a : Int32) : Dy a.toInt 0 (FP.i2d a) := by
  unfold Dy; rw [shf_zero]; exact i2d_int a
theorem Dy.add (ha : Dy i k a) (hb : Dy j k b) (h : (i + j).natAbs < 2 ^ 53) (h1 : -900 ≤ k) (h2 : k ≤ 1000) : Dy (i + j) k (FP.dadd a b) := by
  show Whole (i + j) (shf k (val64 (Core.dadd a b)))
  rw [val64_dadd]
  refine dy_round h h1 h2 ?_
  rw [shf_sum]; exact whole_sum ha hb
theorem Dy.sub (ha : Dy i k a) (hb : Dy j k b) (h : (i - j).natAbs < 2 ^ 53) (h1 : -900 ≤ k) (h2 : k ≤ 1000) : Dy (i - j) k (FP.dsub a b) := by
  show Whole (i - j) (shf k (val64 (Core.dsub a b)))
  rw [val64_dsub]
  refine dy_round h h1 h2 ?_
  rw [shf_sum, shf_neg]; exact whole_sum ha (whole_negate hb)
theorem Dy.mul (ha : Dy i k a) (hb : Dy j k' b) (h : (i * j).natAbs < 2 ^ 53) (h1 : -900 ≤ k + k') (h2 : k + k' ≤ 1000) : Dy (i * j) (k + k') (FP.dmul a b) := by
  show Whole (i * j) (shf (k + k') (val64 (Core.dmul a b)))
  rw [val64_dmul]
  refine dy_round h h1 h2 ?_
  rw [shf_prod]; exact whole_product ha hb
theorem Dy.cmp (ha : Dy i k a) (hb : Dy j k b) : FP.dcmp a b = some (compare i j) := by
  show order (val64 a) (val64 b) = _
  rw [← shf_order k]; exact order_whole ha hb
theorem Dy.up (ha : Dy i k a) (n : Nat) : Dy (i * ((2 ^ n : Nat) : Int)) (k + n) a := by
  obtain ⟨s, c, q, e⟩ := ha.fin
  unfold Dy at ha ⊢
  rw [e] at ha ⊢
  have h : signed s (c * 2 ^ (q + k).toNat) = i * ((2 ^ (-(q + k)).toNat : Nat) : Int) := ha
  show signed s (c * 2 ^ (q + (k + n)).toNat) = i * ((2 ^ n : Nat) : Int) * ((2 ^ (-(q + (k + n))).toNat : Nat) : Int)
  have p : ((2 ^ (-(q + k)).toNat : Nat) : Int) ≠ 0 := by have := Nat.two_pow_pos (-(q + k)).toNat; omega
  refine Int.eq_of_mul_eq_mul_right p ?_
  have hx : (q + (k + n)).toNat + (-(q + k)).toNat = (q + k).toNat + (n + (-(q + (k + n))).toNat) := by omega
  calc signed s (c * 2 ^ (q + (k + n)).toNat) * ((2 ^ (-(q + k)).toNat : Nat) : Int)
      = signed s (c * 2 ^ ((q + (k + n)).toNat + (-(q + k)).toNat)) := by rw [← signed_mul, Nat.pow_add, Nat.mul_assoc]
    _ = signed s (c * 2 ^ (q + k).toNat) * ((2 ^ (n + (-(q + (k + n))).toNat) : Nat) : Int) := by rw [hx, Nat.pow_add, ← Nat.mul_assoc, signed_mul]
    _ = i * ((2 ^ n : Nat) : Int) * ((2 ^ (-(q + (k + n))).toNat : Nat) : Int) * ((2 ^ (-(q + k)).toNat : Nat) : Int) := by rw [h, Nat.pow_add, Int.natCast_mul]; ac_rfl
/-- the quotient of two dyadic numbers, rounded -/
theorem Dy.quot (ha : Dy i k a) (hb : Dy j k' b) (hj : j ≠ 0) : ∃ s, (i ≠ 0 → s = (decide (i < 0) != decide (j < 0))) ∧ val64 (FP.ddiv a b) = roundRatio b64 s i.natAbs j.natAbs (k' - k) := by
  obtain ⟨s, c, q, e⟩ := ha.fin
  obtain ⟨t, d, r, e'⟩ := hb.fin
  unfold Dy at ha hb
  rw [e] at ha; rw [e'] at hb
  have wa : Whole i (.fin s c (q + k)) := ha
  have wb : Whole j (.fin t d (r + k')) := hb
  have hd : d ≠ 0 := fun h0 => hj ((whole_zero wb).mp h0)
  refine ⟨s != t, fun hi => by rw [whole_sign wa hi, whole_sign wb hj], ?_⟩
  show val64 (Core.ddiv a b) = _
  rw [val64_ddiv, e, e']
  simp only [quotient, if_neg hd]
  refine roundRatio_congr (by omega) (by omega) ?_
  have na := whole_natAbs wa
  have nb := whole_natAbs wb
  have p : 0 < 2 ^ (r + k').toNat * 2 ^ (-(q + k)).toNat := Nat.mul_pos (Nat.two_pow_pos _) (Nat.two_pow_pos _)
  refine Nat.eq_of_mul_eq_mul_right (Nat.mul_pos (Nat.two_pow_pos (q + k).toNat) (Nat.two_pow_pos (-(r + k')).toNat)) ?_
  have hx : (q - r - (k' - k)).toNat + (-(q + k)).toNat + (r + k').toNat = (k' - k - (q - r)).toNat + ((q + k).toNat + (-(r + k')).toNat) := by omega
  calc c * j.natAbs * 2 ^ (q - r - (k' - k)).toNat * (2 ^ (q + k).toNat * 2 ^ (-(r + k')).toNat)
      = (c * 2 ^ (q + k).toNat) * (j.natAbs * 2 ^ (-(r + k')).toNat) * 2 ^ (q - r - (k' - k)).toNat := by ac_rfl
    _ = (i.natAbs * 2 ^ (-(q + k)).toNat) * (d * 2 ^ (r + k').toNat) * 2 ^ (q - r - (k' - k)).toNat := by rw [na, nb]
    _ = i.natAbs * d * 2 ^ ((q - r - (k' - k)).toNat + (-(q + k)).toNat + (r + k').toNat) := by rw [Nat.pow_add, Nat.pow_add]; ac_rfl
    _ = i.natAbs * d * 2 ^ (k' - k - (q - r)).toNat * (2 ^ (q + k).toNat * 2 ^ (-(r + k')).toNat) := by rw [hx, Nat.pow_add, Nat.pow_add]; ac_rfl
theorem Dy.div (ha : Dy (i * j) k a) (hb : Dy j k' b) (hj : j ≠ 0) (h : i.natAbs < 2 ^ 53) (h1 : -900 ≤ k - k') (h2 : k - k' ≤ 1000) : Dy i (k - k') (FP.ddiv a b) := by
  obtain ⟨s, hs, e⟩ := ha.quot hb hj
  unfold Dy
  rw [e]
  have e2 : roundRatio b64 s (i * j).natAbs j.natAbs (k' - k) = round b64 (.fin s i.natAbs (-(k - k'))) := by
    refine roundRatio_congr (by omega) (by decide) ?_
    rw [show k' - k - -(k - k') = 0 by omega, show -(k - k') - (k' - k) = 0 by omega, Int.natAbs_mul]
    simp
  rw [e2]
  have := whole_exact (s := s) (n := i.natAbs) (k := k - k') h h1 h2
  rw [signed_abs (fun hn => ?_)] at this
  · exact this
  · rw [hs (Int.mul_ne_zero hn hj)]
    rcases Int.lt_or_gt_of_ne hn with p | p <;> rcases Int.lt_or_gt_of_ne hj with q | q
    · have := Int.mul_pos_of_neg_of_neg p q
      simp [p, q, show ¬ i * j < 0 by omega]
    · have := Int.mul_neg_of_neg_of_pos p q
      simp [p, this, show ¬ j < 0 by omega]
    · have := Int.mul_neg_of_pos_of_neg p q
      simp [q, this, show ¬ i < 0 by omega]
    · have := Int.mul_pos p q
      simp [show ¬ i * j < 0 by omega, show ¬ j < 0 by omega, show ¬ i < 0 by omega]
end Dys
end Jvm.OwnKit
namespace Jvm.OwnKit
open Jvm.FP Jvm.FP.Core
section More
variable {i j k k' : Int} {a b : UInt64}
theorem Dy.cast (ha : Dy i k a) (h1 : i = j) (h2 : k = k') : Dy j k' a := by subst h1 h2; exact ha
theorem Dy.divp (ha : Dy i k a) (n : Nat) (hb : Dy ((2 ^ n : Nat) : Int) 0 b) (h : i.natAbs < 2 ^ 53) (h1 : -900 ≤ k + n) (h2 : k + n ≤ 1000) : Dy i (k + n) (FP.ddiv a b) := by
  have p := Nat.two_pow_pos n
  have := Dy.div (k := k + n) (k' := 0) (ha.up n) hb (by omega) h (by omega) (by omega)
  exact this.cast rfl (by omega)
theorem Dy.lit {a : UInt64} {s : Bool} {c : Nat} {q : Int} (e : val64 a = .fin s c q) (h : signed s (c * 2 ^ (q + k).toNat) = i * ((2 ^ (-(q + k)).toNat : Nat) : Int)) : Dy i k a := by
  unfold Dy; rw [e]; exact h
/-- a quotient of middling numbers and its 2^n-th part -/
theorem round_part {s : Bool} {A B n : Nat} (hA : 0 < A) (hB : 0 < B) (lA : A < 2 ^ 100) (lB : B < 2 ^ 100) (hn : n ≤ 100) : ∃ c q, roundRatio b64 s A B 0 = .fin s c q ∧ roundRatio b64 s A B (-(n : Int)) = .fin s c (q - n) := by
  have q1 : b64.qmin = -1074 := by decide
  have q2 : b64.qmax = 971 := by decide
  have hp : (b64.p : Int) - 1 = 52 := by decide
  have a1 : A.log2 < 100 := (Nat.log2_lt (by omega)).mpr lA
  have b1 : B.log2 < 100 := (Nat.log2_lt (by omega)).mpr lB
  have hl : -101 ≤ leading A B ∧ leading A B ≤ 100 := by
    unfold leading; dsimp only; split <;> omega
  have e1 : quantum b64 A B 0 = leading A B - 52 := by unfold quantum; rw [q1, hp]; omega
  have e2 : quantum b64 A B (-(n : Int)) = leading A B - 52 - n := by unfold quantum; rw [q1, hp]; omega
  have z : ¬ A = 0 := by omega
  unfold roundRatio
  rw [if_neg z, if_neg z, e1, e2]
  generalize leading A B = L at hl
  have u1 : unitsNum A (-(n : Int)) (L - 52 - n) = unitsNum A 0 (L - 52) := by unfold unitsNum; congr 2; omega
  have u2 : unitsDen B (-(n : Int)) (L - 52 - n) = unitsDen B 0 (L - 52) := by unfold unitsDen; congr 2; omega
  unfold roundAt
  rw [u1, u2]
  generalize nearest _ _ = c
  unfold settle bound
  by_cases hc : c < 2 ^ b64.p
  · rw [if_pos hc, if_pos hc, if_pos (by omega), if_pos (by omega)]
    exact ⟨_, _, rfl, rfl⟩
  · rw [if_neg hc, if_neg hc, if_pos (by omega), if_pos (by omega)]
    exact ⟨_, _, rfl, by congr 1; omega⟩
/-- (x / y) / 2^n where x / y is rounded once: the same as the rounding of x / (y * 2^n) -/
theorem div_part {x y w : UInt64} {A B : Int} {n : Nat} {got : UInt64} (hx : Dy A 0 x) (hy : Dy B 0 y) (hw : Dy ((2 ^ n : Nat) : Int) 0 w) (hA : 0 < A) (hB : 0 < B) (lA : A < 2 ^ 100) (lB : B < 2 ^ 100) (hn : n ≤ 100)
    {s0 : Bool} (hs : s0 = false) (hg : val64 got = roundRatio b64 s0 A.natAbs B.natAbs (-(n : Int))) : got = FP.ddiv (FP.ddiv x y) w ∧ val64 (FP.ddiv x y) ≠ .nan ∧ val64 got ≠ .nan := by
  subst hs
  obtain ⟨s, h1, h2⟩ := hx.quot hy (by omega)
  have hs : s = false := by rw [h1 (by omega)]; simp [show ¬ A < 0 by omega, show ¬ B < 0 by omega]
  subst hs
  obtain ⟨c, q, e1, e2⟩ := round_part (s := false) (A := A.natAbs) (B := B.natAbs) (n := n) (by omega) (by omega) (by omega) (by omega) hn
  have hf : Core.fits b64 (.fin false c (q - n)) := by rw [← e2]; exact roundRatio_fits good_b64 _ _ (by omega) _
  rw [show (0 : Int) - 0 = 0 by omega, e1] at h2
  rw [e2] at hg
  obtain ⟨t, d, r, ew⟩ := hw.fin
  have ww : Whole ((2 ^ n : Nat) : Int) (.fin t d (r + 0)) := by unfold Dy at hw; rw [ew] at hw; exact hw
  have p := Nat.two_pow_pos n
  have pz : ((2 ^ n : Nat) : Int) ≠ 0 := Int.natCast_ne_zero.mpr (Nat.ne_of_gt p)
  have ht : t = false := by rw [whole_sign ww pz]; exact decide_eq_false (Int.not_lt.mpr (Int.natCast_nonneg (2 ^ n)))
  subst ht
  have hd : d ≠ 0 := fun h0 => pz ((whole_zero ww).mp h0)
  have nw := whole_natAbs ww
  have hq : val64 (FP.ddiv (FP.ddiv x y) w) = .fin false c (q - n) := by
    show val64 (Core.ddiv _ _) = _
    rw [val64_ddiv, h2, ew]
    simp only [quotient, if_neg hd]
    refine roundRatio_exact good_b64 (by omega) hf ?_
    rw [show q - r - (q - n) = n - r by omega, show q - n - (q - r) = r - n by omega]
    rw [Int.natAbs_natCast, Int.add_zero] at nw
    refine Nat.eq_of_mul_eq_mul_right (Nat.two_pow_pos r.toNat) ?_
    have hx : (n - r : Int).toNat + r.toNat = (r - n : Int).toNat + (n + (-r).toNat) := by omega
    calc c * 2 ^ (n - r : Int).toNat * 2 ^ r.toNat = c * 2 ^ ((n - r : Int).toNat + r.toNat) := by rw [Nat.pow_add, Nat.mul_assoc]
      _ = c * 2 ^ (r - n : Int).toNat * (2 ^ n * 2 ^ (-r).toNat) := by rw [hx, Nat.pow_add, Nat.pow_add, Nat.mul_assoc]
      _ = c * d * 2 ^ (r - n : Int).toNat * 2 ^ r.toNat := by rw [← nw]; ac_rfl
  refine ⟨val64_inj (by rw [hg]; nofun) (by rw [hg, hq]), by rw [h2]; nofun, by rw [hg]; nofun⟩
end More
end Jvm.OwnKit
namespace Jvm.OwnKit
open Jvm.FP Jvm.FP.Core
section Pow
variable {i j k k' : Int} {a b : UInt64}
theorem whole_up {d : Datum} {n : Nat} : Whole i (shf k d) ↔ Whole (i * ((2 ^ n : Nat) : Int)) (shf (k + n) d) := by
  cases d with
  | nan => exact Iff.rfl
  | inf => exact Iff.rfl
  | fin s c q =>
    show signed s (c * 2 ^ (q + k).toNat) = i * ((2 ^ (-(q + k)).toNat : Nat) : Int) ↔ signed s (c * 2 ^ (q + (k + n)).toNat) = i * ((2 ^ n : Nat) : Int) * ((2 ^ (-(q + (k + n))).toNat : Nat) : Int)
    have p : ((2 ^ (-(q + k)).toNat : Nat) : Int) ≠ 0 := by have := Nat.two_pow_pos (-(q + k)).toNat; omega
    have p2 : ((2 ^ (n + (-(q + (k + n))).toNat) : Nat) : Int) ≠ 0 := by have := Nat.two_pow_pos (n + (-(q + (k + n))).toNat); omega
    have hx : (q + (k + n)).toNat + (-(q + k)).toNat = (q + k).toNat + (n + (-(q + (k + n))).toNat) := by omega
    have e1 : signed s (c * 2 ^ (q + (k + n)).toNat) * ((2 ^ (-(q + k)).toNat : Nat) : Int) = signed s (c * 2 ^ (q + k).toNat) * ((2 ^ (n + (-(q + (k + n))).toNat) : Nat) : Int) := by
      rw [← signed_mul, ← signed_mul, Nat.mul_assoc, ← Nat.pow_add, Nat.mul_assoc, ← Nat.pow_add, hx]
    have e2 : i * ((2 ^ n : Nat) : Int) * ((2 ^ (-(q + (k + n))).toNat : Nat) : Int) * ((2 ^ (-(q + k)).toNat : Nat) : Int) = i * ((2 ^ (-(q + k)).toNat : Nat) : Int) * ((2 ^ (n + (-(q + (k + n))).toNat) : Nat) : Int) := by
      rw [Nat.pow_add, Int.natCast_mul]; ac_rfl
    constructor
    · intro h
      refine Int.eq_of_mul_eq_mul_right p ?_
      rw [e1, e2, h]
    · intro h
      refine Int.eq_of_mul_eq_mul_right p2 ?_
      rw [← e1, ← e2, h]
theorem Dy.down {n : Nat} (ha : Dy (i * ((2 ^ n : Nat) : Int)) (k + n) a) : Dy i k a := whole_up.mpr ha
/-- times a power of two -/
theorem Dy.mulp (ha : Dy i k a) (n : Nat) (hb : Dy ((2 ^ n : Nat) : Int) 0 b) (h : i.natAbs < 2 ^ 53) (h1 : -900 ≤ k - n) (h2 : k - n ≤ 1000) : Dy i (k - n) (FP.dmul a b) := by
  show Whole i (shf (k - n) (val64 (Core.dmul a b)))
  rw [val64_dmul]
  refine dy_round h h1 h2 ?_
  rw [whole_up (n := n), show k - n + n = k + 0 by omega, shf_prod]
  exact whole_product ha hb
end Pow
end Jvm.OwnKit
namespace Jvm.OwnKit
open Jvm.FP Jvm.FP.Core
/-! ## whole numbers beyond 2^53: what rounding makes of them -/
theorem whole_keep {i : Int} {s : Bool} {n : Nat} {e : Int} (h : Whole i (.fin s n e)) (hn : n < 2 ^ 53) (h1 : -1074 ≤ e) (h2 : e ≤ 971) : Whole i (round b64 (.fin s n e)) := by
  have q1 : b64.qmin = -1074 := by decide
  have q2 : b64.qmax = 971 := by decide
  obtain ⟨c', q', e1, e2⟩ := round_exact good_b64 s (c := n) (q := e) (by exact hn) (by omega) (by omega)
  have hf := round_fits good_b64 (.fin s n e)
  rw [e1] at hf ⊢
  have g1 := hf.2.1
  have h' : signed s (n * 2 ^ e.toNat) = i * ((2 ^ (-e).toNat : Nat) : Int) := h
  show signed s (c' * 2 ^ q'.toNat) = i * ((2 ^ (-q').toNat : Nat) : Int)
  unfold inUnits at e2
  rw [q1] at e2 g1
  have p : ((2 ^ ((-e).toNat + (e - -1074).toNat + (q' - -1074).toNat) : Nat) : Int) ≠ 0 := by have := Nat.two_pow_pos ((-e).toNat + (e - -1074).toNat + (q' - -1074).toNat); omega
  refine Int.eq_of_mul_eq_mul_right p ?_
  have x1 : q'.toNat + ((-e).toNat + (e - -1074).toNat + (q' - -1074).toNat) = (q' - -1074).toNat + (e.toNat + (-q').toNat + (q' - -1074).toNat) := by omega
  have x2 : (e - -1074).toNat + (e.toNat + (-q').toNat + (q' - -1074).toNat) = e.toNat + ((-q').toNat + (e - -1074).toNat + (q' - -1074).toNat) := by omega
  calc signed s (c' * 2 ^ q'.toNat) * ((2 ^ ((-e).toNat + (e - -1074).toNat + (q' - -1074).toNat) : Nat) : Int)
      = signed s (c' * 2 ^ (q'.toNat + ((-e).toNat + (e - -1074).toNat + (q' - -1074).toNat))) := by rw [← signed_mul, Nat.mul_assoc, ← Nat.pow_add]
    _ = signed s ((c' * 2 ^ (q' - -1074).toNat) * 2 ^ (e.toNat + (-q').toNat + (q' - -1074).toNat)) := by rw [x1, Nat.pow_add, Nat.mul_assoc]
    _ = signed s ((n * 2 ^ e.toNat) * 2 ^ ((-q').toNat + (e - -1074).toNat + (q' - -1074).toNat)) := by rw [e2, Nat.mul_assoc, ← Nat.pow_add, x2, Nat.pow_add, ← Nat.mul_assoc]
    _ = i * ((2 ^ (-q').toNat : Nat) : Int) * ((2 ^ ((-e).toNat + (e - -1074).toNat + (q' - -1074).toNat) : Nat) : Int) := by
        rw [signed_mul, h']; simp only [Nat.pow_add, Int.natCast_mul]; ac_rfl
/-- M is as near to N as any number of 53 digits -/
def Nigh (N M : Int) : Prop := 0 ≤ M ∧ ∀ c' q' : Nat, c' < 2 ^ 53 → (N - M).natAbs ≤ (N - ((c' * 2 ^ q' : Nat) : Int)).natAbs
theorem rndI (N : Int) (h0 : 0 ≤ N) (h1 : N < 2 ^ 63) : ∃ M : Int, (∀ d, Whole N d → Whole M (round b64 d)) ∧ Nigh N M := by
  by_cases hs : N ≤ 2 ^ 53
  · refine ⟨N, fun d hd => whole_round good_b64 wide_b64 (by show N.natAbs ≤ 2 ^ 53; omega) hd, h0, fun c' q' _ => by simp⟩
  · have q1 : b64.qmin = -1074 := by decide
    have q2 : b64.qmax = 971 := by decide
    have hp : (b64.p : Int) - 1 = 52 := by decide
    obtain ⟨A, hA⟩ : ∃ A : Nat, N = A := ⟨N.toNat, by omega⟩
    subst hA
    have hA0 : A ≠ 0 := by omega
    have l1 : 2 ^ A.log2 ≤ A := Nat.log2_self_le hA0
    have l2 : A.log2 < 63 := (Nat.log2_lt hA0).mpr (by omega)
    have l3 : 53 ≤ A.log2 := by
      refine Nat.le_of_not_lt fun q => ?_
      have := (Nat.log2_lt hA0).mp q
      omega
    have hl : leading A 1 = A.log2 := by
      have z : Nat.log2 1 = 0 := by decide
      unfold leading; dsimp only; rw [z]
      rw [if_pos]
      · omega
      · rw [show ((A.log2 : Int) - ((0 : Nat) : Int)).toNat = A.log2 by omega, show (-((A.log2 : Int) - ((0 : Nat) : Int))).toNat = 0 by omega]; simpa using l1
    have hq : quantum b64 A 1 0 = (A.log2 : Int) - 52 := by unfold quantum; rw [q1, hp, hl]; omega
    obtain ⟨c, q, hr, hq0⟩ : ∃ (c : Nat) (q : Nat), roundRatio b64 false A 1 0 = .fin false c q ∧ 0 ≤ q := by
      unfold roundRatio
      rw [if_neg hA0, hq]
      unfold roundAt settle bound
      generalize nearest _ _ = c
      by_cases hc : c < 2 ^ b64.p
      · rw [if_pos hc, if_pos (by omega)]
        exact ⟨c, A.log2 - 52, by congr 1; omega, by omega⟩
      · rw [if_neg hc, if_pos (by omega)]
        exact ⟨b64.tails, A.log2 - 51, by congr 1; omega, by omega⟩
    refine ⟨((c * 2 ^ q : Nat) : Int), fun d hd => ?_, by omega, fun c' q' hc' => ?_⟩
    · cases d with
      | nan => exact hd.elim
      | inf => exact hd.elim
      | fin s m r =>
        have hsgn : s = false := by rw [whole_sign hd (by omega)]; simp
        subst hsgn
        rw [round_whole hd, Int.natAbs_natCast, hr]
        show signed false (c * 2 ^ (q : Int).toNat) = ((c * 2 ^ q : Nat) : Int) * ((2 ^ (-(q : Int)).toNat : Nat) : Int)
        rw [show (-(q : Int)).toNat = 0 by omega, show ((q : Int)).toNat = q by omega]
        simp [signed]
    · have hn := roundRatio_nearest good_b64 (B := 1) (by decide) hr (c' := c') (q' := (q' : Int)) (e0 := -1074) (by exact hc') (by omega) (by omega) (by decide)
      unfold distance inUnits at hn
      rw [show ((0 : Int) - -1074).toNat = 1074 by decide, show ((q : Int) - -1074).toNat = q + 1074 by omega, show ((q' : Int) - -1074).toNat = q' + 1074 by omega, Nat.pow_add, Nat.pow_add, ← Nat.mul_assoc, ← Nat.mul_assoc] at hn
      have hP : 0 < 2 ^ 1074 := Nat.two_pow_pos _
      generalize 2 ^ 1074 = P at hn hP
      have z : ∀ k : Nat, ((A * P : Nat) : Int) - ((k * P : Nat) : Int) * ((1 : Nat) : Int) = ((A : Int) - (k : Int)) * (P : Int) := fun k => by
        rw [Int.natCast_mul, Int.natCast_mul, Int.sub_mul]; simp
      rw [z, z, Int.natAbs_mul, Int.natAbs_mul, Int.natAbs_natCast] at hn
      exact Nat.le_of_mul_le_mul_right hn hP
section Big
variable {i j M N : Int} {x y : UInt64}
theorem dint_fin (h : DInt i x) : ∃ s c q, val64 x = .fin s c q := by
  unfold DInt at h
  cases hv : val64 x with
  | nan => rw [hv] at h; exact h.elim
  | inf s => rw [hv] at h; exact h.elim
  | fin s c q => exact ⟨s, c, q, rfl⟩
theorem dint_nn (h : DInt i x) : Jvm.Free.Fl.NoNaN64 x := by
  obtain ⟨s, c, q, e⟩ := dint_fin h
  refine Jvm.Free.Fl.val64_no.mpr ?_
  rw [e]; nofun
/-- a double that is a whole number is c * 2^q with 53 digits -/
theorem dint_rep (h : DInt M x) (h0 : 0 ≤ M) : ∃ c' q' : Nat, c' < 2 ^ 53 ∧ M = ((c' * 2 ^ q' : Nat) : Int) := by
  obtain ⟨s, c, q, e⟩ := dint_fin h
  have hf := val64_fits x
  rw [e] at hf
  have hc : c < 2 ^ 53 := hf.1
  have hw : Whole M (.fin s c q) := by unfold DInt at h; rw [e] at h; exact h
  have ha := whole_natAbs hw
  by_cases hq : 0 ≤ q
  · refine ⟨c, q.toNat, hc, ?_⟩
    rw [show (-q).toNat = 0 by omega, Nat.pow_zero, Nat.mul_one] at ha
    omega
  · refine ⟨M.toNat, 0, ?_, by omega⟩
    rw [show q.toNat = 0 by omega, Nat.pow_zero, Nat.mul_one] at ha
    have := Nat.two_pow_pos (-q).toNat
    have : M.natAbs ≤ c := by rw [ha]; exact Nat.le_mul_of_pos_right _ this
    omega
theorem sterb (hx : DInt i x) (hy : DInt j y) (h1 : (i - j).natAbs ≤ i.natAbs) (h2 : (i - j).natAbs ≤ j.natAbs) : DInt (i - j) (FP.dsub x y) := by
  obtain ⟨s, c, q, e⟩ := dint_fin hx
  obtain ⟨t, d, r, e'⟩ := dint_fin hy
  have f1 := val64_fits x
  have f2 := val64_fits y
  unfold DInt at hx hy
  rw [e] at hx f1; rw [e'] at hy f2
  have q1 : b64.qmin = -1074 := by decide
  have q2 : b64.qmax = 971 := by decide
  have a1 := f1.2.1; have a2 := f1.2.2.1; have b1 := f2.2.1; have b2 := f2.2.2.1
  rw [q1] at a1 b1; rw [q2] at a2 b2
  show Whole (i - j) (val64 (Core.dsub x y))
  rw [val64_dsub, e, e']
  have hw : Whole (i - j) (exactSum (.fin s c q) (negate (.fin t d r))) := whole_sum hx (whole_negate hy)
  have hs : exactSum (.fin s c q) (negate (.fin t d r)) = .fin (sumSign s (!t) (sumUnits s c q (!t) d r (min q r))) (sumUnits s c q (!t) d r (min q r)).natAbs (min q r) := rfl
  rw [hs] at hw ⊢
  generalize sumSign _ _ _ = u at hw
  generalize (sumUnits _ _ _ _ _ _ _).natAbs = n at hw
  refine whole_keep hw ?_ (by omega) (by omega)
  have hn := whole_natAbs hw
  rcases Int.le_total q r with l | l
  · rw [show min q r = q by omega] at hn
    have hc := whole_natAbs hx
    have : n * 2 ^ q.toNat ≤ c * 2 ^ q.toNat := by rw [hn, hc]; exact Nat.mul_le_mul_right _ h1
    have := Nat.le_of_mul_le_mul_right this (Nat.two_pow_pos _)
    exact Nat.lt_of_le_of_lt this f1.1
  · rw [show min q r = r by omega] at hn
    have hc := whole_natAbs hy
    have : n * 2 ^ r.toNat ≤ d * 2 ^ r.toNat := by rw [hn, hc]; exact Nat.mul_le_mul_right _ h2
    have := Nat.le_of_mul_le_mul_right this (Nat.two_pow_pos _)
    exact Nat.lt_of_le_of_lt this f2.1
theorem Nigh.at {c' q' : Nat} (h : Nigh N M) (hc : c' < 2 ^ 53) (e : j = ((c' * 2 ^ q' : Nat) : Int)) : (N - M).natAbs ≤ (N - j).natAbs := by rw [e]; exact h.2 c' q' hc
theorem Nigh.err (h : Nigh N M) (h0 : 0 ≤ N) (h1 : N < 2 ^ 63) : (N - M).natAbs < 2 ^ 10 := by
  have := h.2 (N.toNat / 2 ^ 10) 10 (by omega)
  omega
theorem Nigh.rep (h : Nigh N M) (hx : DInt j x) (hj : 0 ≤ j) : (N - M).natAbs ≤ (N - j).natAbs := by
  obtain ⟨c', q', hc, e⟩ := dint_rep hx hj
  exact h.at hc e
theorem Nigh.rep2 (h : Nigh N M) (hx : DInt j x) (hj : 0 ≤ j) : (N - M).natAbs ≤ (N - 2 * j).natAbs := by
  obtain ⟨c', q', hc, e⟩ := dint_rep hx hj
  refine h.at (q' := q' + 1) hc ?_
  rw [e, Nat.pow_succ]; simp only [Int.natCast_mul]; rw [Int.mul_comm, Int.mul_assoc]; rfl
theorem sum_near (hx : DInt i x) (hy : DInt j y) (h0 : 0 ≤ i + j) (h1 : i + j < 2 ^ 63) : ∃ M, DInt M (FP.dadd x y) ∧ Nigh (i + j) M := by
  obtain ⟨M, hM, hN⟩ := rndI (i + j) h0 h1
  refine ⟨M, ?_, hN⟩
  show Whole M (val64 (Core.dadd x y))
  rw [val64_dadd]; exact hM _ (whole_sum hx hy)
theorem sub_near (hx : DInt i x) (hy : DInt j y) (h0 : 0 ≤ i - j) (h1 : i - j < 2 ^ 63) : ∃ M, DInt M (FP.dsub x y) ∧ Nigh (i - j) M := by
  obtain ⟨M, hM, hN⟩ := rndI (i - j) h0 h1
  refine ⟨M, ?_, hN⟩
  show Whole M (val64 (Core.dsub x y))
  rw [val64_dsub]; exact hM _ (whole_sum hx (whole_negate hy))
theorem sub_small (hx : DInt i x) (hy : DInt j y) (h : (i - j).natAbs ≤ 2 ^ 53) : DInt (i - j) (FP.dsub x y) := dsub_int hx hy h
theorem add_small (hx : DInt i x) (hy : DInt j y) (h : (i + j).natAbs ≤ 2 ^ 53) : DInt (i + j) (FP.dadd x y) := dadd_int hx hy h
theorem dint_cast {k : Int} (h : DInt i x) (e : i = k) : DInt k x := e ▸ h
/-- Knuth's sum of two doubles that are whole numbers: the error comes out whole -/
theorem two_sum (hx : DInt i x) (hy : DInt j y) (hi : 0 ≤ i) (hj : 0 ≤ j) (h1 : i + j < 2 ^ 63 - 2 ^ 12) : ∃ S, DInt S (FP.dadd x y) ∧ Nigh (i + j) S ∧ Jvm.Free.Fl.NoNaN64 (FP.dsub (FP.dadd x y) x) ∧ Jvm.Free.Fl.NoNaN64 (FP.dsub (FP.dadd x y) (FP.dsub (FP.dadd x y) x)) ∧
    Jvm.Free.Fl.NoNaN64 (FP.dsub x (FP.dsub (FP.dadd x y) (FP.dsub (FP.dadd x y) x))) ∧ Jvm.Free.Fl.NoNaN64 (FP.dsub y (FP.dsub (FP.dadd x y) x)) ∧ DInt (i + j - S) (FP.dadd (FP.dsub x (FP.dsub (FP.dadd x y) (FP.dsub (FP.dadd x y) x))) (FP.dsub y (FP.dsub (FP.dadd x y) x))) := by
  obtain ⟨S, hS, nS⟩ := sum_near hx hy (by omega) (by omega)
  have S0 := nS.1
  have eS := nS.err (by omega) (by omega)
  have r1 := nS.rep hx hi
  have r2 := nS.rep2 hx hi
  rcases Int.le_total j i with l | l
  · have hbb : DInt (S - i) (FP.dsub (FP.dadd x y) x) := sterb hS hx (by omega) (by omega)
    obtain ⟨M, hM, nM⟩ := sub_near hS hbb (by omega) (by omega)
    have r3 := nM.rep hx hi
    have hx1 : DInt i (FP.dsub (FP.dadd x y) (FP.dsub (FP.dadd x y) x)) := dint_cast hM (by omega)
    have hx2 := sub_small hx hx1 (by omega)
    have hx3 := sub_small hy hbb (by omega)
    exact ⟨S, hS, nS, dint_nn hbb, dint_nn hx1, dint_nn hx2, dint_nn hx3, dint_cast (add_small hx2 hx3 (by omega)) (by omega)⟩
  · obtain ⟨B, hB, nB⟩ := sub_near hS hx (by omega) (by omega)
    have B0 := nB.1
    have eB := nB.err (by omega) (by omega)
    have r3 := nB.rep hS S0
    have r4 : S ≤ 2 * B := by
      obtain ⟨c, q, hc, e⟩ := dint_rep hS S0
      by_cases hq : q = 0
      · have r5 := nB.at (c' := (S - i).toNat) (q' := 0) (j := S - i) (by subst hq; omega) (by omega)
        omega
      · obtain ⟨k, rfl⟩ : ∃ k, q = k + 1 := ⟨q - 1, by omega⟩
        have r5 := nB.2 c k hc
        rw [Nat.pow_succ, ← Nat.mul_assoc] at e
        omega
    have hx1 : DInt (S - B) (FP.dsub (FP.dadd x y) (FP.dsub (FP.dadd x y) x)) := sterb hS hB (by omega) (by omega)
    have hx2 := sub_small hx hx1 (by omega)
    have hx3 := sub_small hy hB (by omega)
    exact ⟨S, hS, nS, dint_nn hB, dint_nn hx1, dint_nn hx2, dint_nn hx3, dint_cast (add_small hx2 hx3 (by omega)) (by omega)⟩
end Big
end Jvm.OwnKit
namespace Jvm.OwnKit
theorem and64 (x m : Int64) (hm : 0 ≤ m.toInt) : 0 ≤ (x &&& m).toInt ∧ (x &&& m).toInt ≤ m.toInt := by
  have h : (x &&& m).toBitVec.toNat ≤ m.toBitVec.toNat := by rw [Int64.toBitVec_and, BitVec.toNat_and]; exact Nat.and_le_right
  have e : ∀ y : Int64, y.toInt = y.toBitVec.toInt := fun _ => rfl
  rw [e] at hm ⊢
  rw [e m]
  rw [BitVec.toInt_eq_toNat_cond] at hm ⊢
  rw [BitVec.toInt_eq_toNat_cond]
  have l1 := m.toBitVec.isLt
  have l2 := (x &&& m).toBitVec.isLt
  split at hm <;> split <;> omega
theorem and32 (x m : Int32) (hm : 0 ≤ m.toInt) : 0 ≤ (x &&& m).toInt ∧ (x &&& m).toInt ≤ m.toInt := by
  have h : (x &&& m).toBitVec.toNat ≤ m.toBitVec.toNat := by rw [Int32.toBitVec_and, BitVec.toNat_and]; exact Nat.and_le_right
  have e : ∀ y : Int32, y.toInt = y.toBitVec.toInt := fun _ => rfl
  rw [e] at hm ⊢
  rw [e m]
  rw [BitVec.toInt_eq_toNat_cond] at hm ⊢
  rw [BitVec.toInt_eq_toNat_cond]
  have l1 := m.toBitVec.isLt
  have l2 := (x &&& m).toBitVec.isLt
  split at hm <;> split <;> omega
end Jvm.OwnKit
namespace Jvm.Pilot.@@N@@
open Jvm Jvm.ClassFile Sem Op Lib Jvm.Free Jvm.Stand Jvm.LawKit Jvm.RoadKit Jvm.OwnKit Bundle Jvm.Pilot.@@N@@.Jvm.D

open Jvm.FP.Core in
theorem own_l2d_near {a : Int64} (h0 : 0 ≤ a.toInt) : ∃ M, DInt M (FP.l2d a) ∧ Nigh a.toInt M := by
  obtain ⟨M, hM, hN⟩ := rndI a.toInt h0 (by have := Int64.toInt_lt a; omega)
  refine ⟨M, ?_, hN⟩
  show Whole M (val64 (FP.Core.l2d a))
  rw [val64_l2d]; exact hM _ (whole_ofInt _)
open Jvm.FP.Core in
theorem own_d2l {M : Int} {x : UInt64} (h : DInt M x) (h0 : 0 ≤ M) (h1 : M < 2 ^ 63) : (FP.d2l x).toInt = M := by
  have e : (Int64.ofInt M).toInt = M := Int64.toInt_ofInt_of_le (by omega) (by omega)
  have : FP.Core.d2l x = Int64.ofInt M := d2l_int (by rw [e]; exact h)
  show (FP.Core.d2l x).toInt = M
  rw [this, e]
open Jvm.FP.Core in
theorem own_low {a : Int64} {x y : UInt64} {M : Int} (h : 0 ≤ a.toInt ∧ a.toInt < 2 ^ 62 + 2 ^ 20) (hx : DInt M x) (hN : Nigh a.toInt M) (e : FP.l2d (a - FP.d2l x) = y) : DInt (a.toInt - M) y := by
  have er := hN.err h.1 (by omega)
  have e1 := own_d2l hx hN.1 (by omega)
  have e2 : (a - FP.d2l x).toInt = a.toInt - M := by rw [FP.Core.int64_sub (by rw [e1]; omega) (by rw [e1]; omega), e1]
  rw [← e, ← e2]
  exact l2d_int (by rw [e2]; omega)
theorem own_ushr {x : Int64} {k : UInt64} (h : 0 ≤ x.toInt) : 0 ≤ (x.toUInt64 >>> k).toInt64.toInt ∧ (x.toUInt64 >>> k).toInt64.toInt ≤ x.toInt := by
  have e : ∀ y : Int64, y.toInt = y.toBitVec.toInt := fun _ => rfl
  have hb : (x.toUInt64 >>> k).toInt64.toBitVec.toNat ≤ x.toBitVec.toNat := by
    show (x.toUInt64 >>> k).toBitVec.toNat ≤ _
    rw [UInt64.toBitVec_shiftRight]
    show (x.toBitVec >>> (k.toBitVec % 64)).toNat ≤ _
    rw [BitVec.ushiftRight_eq', BitVec.toNat_ushiftRight]
    exact Nat.shiftRight_le _ _
  have l1 := x.toBitVec.isLt
  rw [e] at h ⊢
  rw [e x]
  rw [BitVec.toInt_eq_toNat_cond] at h ⊢
  rw [BitVec.toInt_eq_toNat_cond]
  split at h <;> split <;> omega
theorem own_mask {x b : Int64} {k : UInt64} (e : ((x &&& (2305843009213693951 : Int64)).toUInt64 >>> k).toInt64 = b) : 0 ≤ b.toInt ∧ b.toInt < 2 ^ 61 := by
  have q := and64 x (2305843009213693951 : Int64) (by decide)
  have r := own_ushr (k := k) q.1
  rw [e] at r
  rw [show (2305843009213693951 : Int64).toInt = 2305843009213693951 from rfl] at q
  omega
open Jvm.FP.Core in
theorem own_law {P Q S : Int64} {xh xl yh yl eh el : UInt64} (hP : 0 ≤ P.toInt ∧ P.toInt < 2 ^ 61) (hQ : 0 ≤ Q.toInt ∧ Q.toInt < 2 ^ 61) (e1 : FP.l2d P = xh) (e2 : FP.l2d (P - FP.d2l xh) = xl) (e3 : FP.l2d Q = yh) (e4 : FP.l2d (Q - FP.d2l yh) = yl)
    (eS : P + Q = S) (e5 : FP.l2d S = eh) (e6 : FP.l2d (S - FP.d2l eh) = el) :
    Fl.NoNaN64 (FP.dadd xh yh) ∧ Fl.NoNaN64 (FP.dsub (FP.dadd xh yh) xh) ∧ Fl.NoNaN64 (FP.dsub (FP.dadd xh yh) (FP.dsub (FP.dadd xh yh) xh)) ∧ Fl.NoNaN64 (FP.dsub xh (FP.dsub (FP.dadd xh yh) (FP.dsub (FP.dadd xh yh) xh))) ∧ Fl.NoNaN64 (FP.dsub yh (FP.dsub (FP.dadd xh yh) xh)) ∧ Fl.NoNaN64 (FP.dadd (FP.dsub xh (FP.dsub (FP.dadd xh yh) (FP.dsub (FP.dadd xh yh) xh))) (FP.dsub yh (FP.dsub (FP.dadd xh yh) xh))) ∧ Fl.NoNaN64 (FP.dadd xl yl) ∧ Fl.NoNaN64 (FP.dadd (FP.dadd (FP.dsub xh (FP.dsub (FP.dadd xh yh) (FP.dsub (FP.dadd xh yh) xh))) (FP.dsub yh (FP.dsub (FP.dadd xh yh) xh))) (FP.dadd xl yl)) ∧ Fl.NoNaN64 (FP.dadd (FP.dadd xh yh) (FP.dadd (FP.dadd (FP.dsub xh (FP.dsub (FP.dadd xh yh) (FP.dsub (FP.dadd xh yh) xh))) (FP.dsub yh (FP.dsub (FP.dadd xh yh) xh))) (FP.dadd xl yl))) ∧ Fl.NoNaN64 (FP.dsub (FP.dadd (FP.dadd xh yh) (FP.dadd (FP.dadd (FP.dsub xh (FP.dsub (FP.dadd xh yh) (FP.dsub (FP.dadd xh yh) xh))) (FP.dsub yh (FP.dsub (FP.dadd xh yh) xh))) (FP.dadd xl yl))) (FP.dadd xh yh)) ∧ Fl.NoNaN64 (FP.dsub (FP.dadd (FP.dadd (FP.dsub xh (FP.dsub (FP.dadd xh yh) (FP.dsub (FP.dadd xh yh) xh))) (FP.dsub yh (FP.dsub (FP.dadd xh yh) xh))) (FP.dadd xl yl)) (FP.dsub (FP.dadd (FP.dadd xh yh) (FP.dadd (FP.dadd (FP.dsub xh (FP.dsub (FP.dadd xh yh) (FP.dsub (FP.dadd xh yh) xh))) (FP.dsub yh (FP.dsub (FP.dadd xh yh) xh))) (FP.dadd xl yl))) (FP.dadd xh yh))) ∧ FP.dcmp (FP.dadd (FP.dadd xh yh) (FP.dadd (FP.dadd (FP.dsub xh (FP.dsub (FP.dadd xh yh) (FP.dsub (FP.dadd xh yh) xh))) (FP.dsub yh (FP.dsub (FP.dadd xh yh) xh))) (FP.dadd xl yl))) eh = some .eq ∧ FP.dcmp (FP.dsub (FP.dadd (FP.dadd (FP.dsub xh (FP.dsub (FP.dadd xh yh) (FP.dsub (FP.dadd xh yh) xh))) (FP.dsub yh (FP.dsub (FP.dadd xh yh) xh))) (FP.dadd xl yl)) (FP.dsub (FP.dadd (FP.dadd xh yh) (FP.dadd (FP.dadd (FP.dsub xh (FP.dsub (FP.dadd xh yh) (FP.dsub (FP.dadd xh yh) xh))) (FP.dsub yh (FP.dsub (FP.dadd xh yh) xh))) (FP.dadd xl yl))) (FP.dadd xh yh))) el = some .eq := by
  have hS : S.toInt = P.toInt + Q.toInt := by rw [← eS]; exact FP.Core.int64_add (by omega) (by omega)
  obtain ⟨A, hA, nA⟩ := own_l2d_near hP.1
  obtain ⟨B, hB, nB⟩ := own_l2d_near hQ.1
  obtain ⟨H, hH, nH⟩ := rndI S.toInt (by omega) (by omega)
  have A0 := nA.1
  have B0 := nB.1
  have eA := nA.err hP.1 (by omega)
  have eB := nB.err hQ.1 (by omega)
  have eH := nH.err (by omega) (by omega)
  rw [e1] at hA
  rw [e3] at hB
  have hxl := own_low ⟨hP.1, by omega⟩ hA nA e2
  have hyl := own_low ⟨hQ.1, by omega⟩ hB nB e4
  have heh : DInt H eh := by
    rw [← e5]
    show Whole H (val64 (FP.Core.l2d S))
    rw [val64_l2d]; exact hH _ (whole_ofInt _)
  have hel := own_low ⟨by omega, by omega⟩ heh nH e6
  obtain ⟨T, hT, nT, n9, n17, n18, n23, herr⟩ := two_sum hA hB A0 B0 (by omega)
  have eT := nT.err (by omega) (by omega)
  have hx4 := add_small hxl hyl (by omega)
  have hee := add_small herr hx4 (by omega)
  have hhi : DInt H (FP.dadd (FP.dadd xh yh) (FP.dadd (FP.dadd (FP.dsub xh (FP.dsub (FP.dadd xh yh) (FP.dsub (FP.dadd xh yh) xh))) (FP.dsub yh (FP.dsub (FP.dadd xh yh) xh))) (FP.dadd xl yl))) := by
    show Whole H (val64 (FP.Core.dadd _ _))
    rw [val64_dadd]
    refine hH _ ?_
    have := whole_sum hT hee
    rw [show T + (A + B - T + (P.toInt - A + (Q.toInt - B))) = S.toInt by omega] at this
    exact this
  have htt := sub_small hhi hT (by omega)
  have hlo := sub_small hee htt (by omega)
  refine ⟨dint_nn hT, n9, n17, n18, n23, dint_nn herr, dint_nn hx4, dint_nn hee, dint_nn hhi, dint_nn htt, dint_nn hlo, ?_, ?_⟩
  · have := dcmp_int hhi heh
    rw [compare_self_int] at this; exact this
  · have := dcmp_int hlo hel
    rw [show A + B - T + (P.toInt - A + (Q.toInt - B)) - (H - T) = S.toInt - H by omega, compare_self_int] at this; exact this
theorem d1_0 : decode prog_2_method_1_code 0 = .ok (.aload_n 0, 1) := by decide +kernel
theorem d1_1 : decode prog_2_method_1_code 1 = .ok (.invokespecial 1, 3) := by decide +kernel
theorem d1_4 : decode prog_2_method_1_code 4 = .ok (.return_, 1) := by decide +kernel
theorem pn_3 : plainName "com/example/vanishing_messages/vanishingmessages/analysis/DoubleWord" = true := by first | (simp [plainName, overriddenIn]; done) | decide +kernel
theorem ef_rm1 (m : MethodId) (a : Addr) : entryFrame m #[(.ref a)] 1 = mkF m 0 #[.val (.ref a)] [] := by first | (simp [entryFrame, mkF, argsToLocals, Value.category]; done) | rfl
def Q_rm1 (Z : State) (a : Addr) (h0 : Heap) (n0 : Nat) (v : Option Value) (h : Heap) (L : List Loc) : Prop := v = none ∧ Fr n0 L ∧ h = h0
set_option maxRecDepth 65536 in
set_option maxHeartbeats 40000000 in
theorem rm1 (l : Launch) (Z : State) (a0 : Array Value) (hw : ∀ d ∈ tables_1, d.before a0 Z = true) (a : Addr) (h0 : Heap) (n0 : Nat) (Z0 : n0 ≤ h0.size) :
    Ctr l Z h0 (⟨"com/example/vanishing_messages/vanishingmessages/analysis/DoubleWord", "<init>", "()V"⟩ : MethodName) prog_2_method_1_code 1 none [] ({ frames := 1, cells := 0, slots := 0, locals := 12 } : Room) #[(.ref a)] (Q_rm1 Z a h0 n0) := by
  refine Ctr.make (plainFor_of_name pn_3) fun p e s m below meth c s₁ K hret hml hx hby hown hnm hZ X0 e0 hK => ?_
  have hown : s.vm.findClass "com/example/vanishing_messages/vanishingmessages/analysis/DoubleWord" = some m.cls := hown
  have N0 := Fr.nil n0
  have K0 : Keep h0 h0 [] := Keep.refl _ _
  refine Wlk.of (fun _ k => castTop (ef_rm1 m a) k) ?_
  show Wlk p.tables e below (s₁.setTop (mkF m 0 #[.val (.ref a)] [])) K
  refine Wlk.of (fun _ k => XS.aloadN X0.here hx rfl (hb hby d1_0) rfl rfl k) ?_
  show Wlk p.tables e below (s₁.setTop (mkF m 1 #[.val (.ref a)] [(.ref a)])) K
  obtain ⟨T1, X1, e1, st1⟩ := initO X0 hx hZ hown (hw _ (List.mem_of_getElem? (i := 7) rfl)) (hw _ (List.mem_of_getElem? (i := 8) rfl)) (hw _ (List.mem_of_getElem? (i := 9) rfl)) e0 (g := (mkF m 1 #[.val (.ref a)] [(.ref a)])) rfl (by rw [hml]; rfl) rfl (hb hby d1_1) (by decide) (W := 0) (by show 2 * 0 + _ ≤ _; exact Nat.le_of_eq rfl) (by decide)
  refine Wlk.of (fun _ k => st1 _ k) ?_
  show Wlk p.tables e below (T1.setTop (mkF m 4 #[.val (.ref a)] [])) K
  refine hK none X1 (fun q => rfl) (fun fs hr => X1.returnOut hx hret (hb hby d1_4) hr) ?_ (by decide) (by decide)
  rw [show T1.heap = h0 from e1]
  exact ⟨rfl, N0, rfl⟩
theorem d4_0 : decode prog_2_method_7_code 0 = .ok (.aload_n 0, 1) := by decide +kernel
theorem d4_1 : decode prog_2_method_7_code 1 = .ok (.dload_n 1, 1) := by decide +kernel
theorem d4_2 : decode prog_2_method_7_code 2 = .ok (.dload_n 3, 1) := by decide +kernel
theorem d4_3 : decode prog_2_method_7_code 3 = .ok (.dadd, 1) := by decide +kernel
theorem d4_4 : decode prog_2_method_7_code 4 = .ok (.putfield 7, 3) := by decide +kernel
theorem d4_7 : decode prog_2_method_7_code 7 = .ok (.aload_n 0, 1) := by decide +kernel
theorem d4_8 : decode prog_2_method_7_code 8 = .ok (.dload_n 3, 1) := by decide +kernel
theorem d4_9 : decode prog_2_method_7_code 9 = .ok (.aload_n 0, 1) := by decide +kernel
theorem d4_10 : decode prog_2_method_7_code 10 = .ok (.getfield 7, 3) := by decide +kernel
theorem d4_13 : decode prog_2_method_7_code 13 = .ok (.dload_n 1, 1) := by decide +kernel
theorem d4_14 : decode prog_2_method_7_code 14 = .ok (.dsub, 1) := by decide +kernel
theorem d4_15 : decode prog_2_method_7_code 15 = .ok (.dsub, 1) := by decide +kernel
theorem d4_16 : decode prog_2_method_7_code 16 = .ok (.putfield 13, 3) := by decide +kernel
theorem d4_19 : decode prog_2_method_7_code 19 = .ok (.return_, 1) := by decide +kernel
theorem ef_rm4 (m : MethodId) (a : Addr) (u : UInt64) (w : UInt64) : entryFrame m #[(.ref a), (.double u), (.double w)] 5 = mkF m 0 #[.val (.ref a), .val (.double u), .second, .val (.double w), .second] [] := by first | (simp [entryFrame, mkF, argsToLocals, Value.category]; done) | rfl
def Q_rm4 (Z : State) (a : Addr) (u : UInt64) (w : UInt64) (o1 : Value) (o2 : Value) (h0 : Heap) (n0 : Nat) (v : Option Value) (h : Heap) (L : List Loc) : Prop := v = none ∧ Fr n0 L ∧ Keep h0 h [a] ∧ Fld Z h a "com/example/vanishing_messages/vanishingmessages/analysis/DoubleWord" "high" "D" (.double (FP.dadd u w)) ∧ Fld Z h a "com/example/vanishing_messages/vanishingmessages/analysis/DoubleWord" "low" "D" (.double (FP.dsub w (FP.dsub (FP.dadd u w) u)))
set_option maxRecDepth 65536 in
set_option maxHeartbeats 40000000 in
theorem rm4 (l : Launch) (Z : State) (a0 : Array Value) (hw : ∀ d ∈ tables_1, d.before a0 Z = true) (a : Addr) (u : UInt64) (w : UInt64) (o1 : Value) (o2 : Value) (h0 : Heap) (n0 : Nat) (Z0 : n0 ≤ h0.size) (E_a : Exa Z h0 a "com/example/vanishing_messages/vanishingmessages/analysis/DoubleWord") (F_a_high : Fld Z h0 a "com/example/vanishing_messages/vanishingmessages/analysis/DoubleWord" "high" "D" o1) (F_a_low : Fld Z h0 a "com/example/vanishing_messages/vanishingmessages/analysis/DoubleWord" "low" "D" o2) (g_a : n0 ≤ a) (n3 : Fl.NoNaN64 (FP.dadd u w)) (n14 : Fl.NoNaN64 (FP.dsub (FP.dadd u w) u)) (n15 : Fl.NoNaN64 (FP.dsub w (FP.dsub (FP.dadd u w) u))) :
    Ctr l Z h0 (⟨"com/example/vanishing_messages/vanishingmessages/analysis/DoubleWord", "setSum", "(DD)V"⟩ : MethodName) prog_2_method_7_code 5 none [] ({ frames := 0, cells := 0, slots := 0, locals := 0 } : Room) #[(.ref a), (.double u), (.double w)] (Q_rm4 Z a u w o1 o2 h0 n0) := by
  refine Ctr.make (plainFor_of_name pn_3) fun p e s m below meth c s₁ K hret hml hx hby hown hnm hZ X0 e0 hK => ?_
  have hown : s.vm.findClass "com/example/vanishing_messages/vanishingmessages/analysis/DoubleWord" = some m.cls := hown
  have N0 := Fr.nil n0
  have K0 : Keep h0 h0 [a] := Keep.refl _ _
  refine Wlk.of (fun _ k => castTop (ef_rm4 m a u w) k) ?_
  show Wlk p.tables e below (s₁.setTop (mkF m 0 #[.val (.ref a), .val (.double u), .second, .val (.double w), .second] [])) K
  refine Wlk.of (fun _ k => XS.aloadN X0.here hx rfl (hb hby d4_0) rfl rfl k) ?_
  show Wlk p.tables e below (s₁.setTop (mkF m 1 #[.val (.ref a), .val (.double u), .second, .val (.double w), .second] [(.ref a)])) K
  refine Wlk.of (fun _ k => XS.dloadN X0.here hx rfl (hb hby d4_1) rfl k) ?_
  show Wlk p.tables e below (s₁.setTop (mkF m 2 #[.val (.ref a), .val (.double u), .second, .val (.double w), .second] [(.double u), (.ref a)])) K
  refine Wlk.of (fun _ k => XS.dloadN X0.here hx rfl (hb hby d4_2) rfl k) ?_
  show Wlk p.tables e below (s₁.setTop (mkF m 3 #[.val (.ref a), .val (.double u), .second, .val (.double w), .second] [(.double w), (.double u), (.ref a)])) K
  refine Wlk.of (fun _ k => XS.daddS X0.here hx rfl (hb hby d4_3) rfl n3 rfl k) ?_
  show Wlk p.tables e below (s₁.setTop (mkF m 4 #[.val (.ref a), .val (.double u), .second, .val (.double w), .second] [(.double (FP.dadd u w)), (.ref a)])) K
  obtain ⟨T1, h1, X1, e1, W1, st1⟩ := putF X0 hx hZ hown (host := "") (Or.inl (hw _ (List.mem_of_getElem? (i := 19) rfl))) Via.refl e0 F_a_high E_a (Or.inl (hw _ (List.mem_of_getElem? (i := 20) rfl))) (hw _ (List.mem_of_getElem? (i := 2) rfl)) (ty := .double) (by decide) rfl rfl (g := (mkF m 4 #[.val (.ref a), .val (.double u), .second, .val (.double w), .second] [(.double (FP.dadd u w)), (.ref a)])) rfl rfl (hb hby d4_4)
  have Fw1 := F_a_high.same W1
  refine Wlk.of (fun _ k => st1 _ k) ?_
  have K2 : Keep h0 h1 [a] := K0.wr W1 (Or.inl (List.mem_of_getElem? (i := 0) rfl))
  have N3 := Fr.snoc X1 N0 g_a
  show Wlk p.tables e below (T1.setTop (mkF m 7 #[.val (.ref a), .val (.double u), .second, .val (.double w), .second] [])) K
  refine Wlk.of (fun _ k => XS.aloadN X1.here hx rfl (hb hby d4_7) rfl rfl k) ?_
  show Wlk p.tables e below (T1.setTop (mkF m 8 #[.val (.ref a), .val (.double u), .second, .val (.double w), .second] [(.ref a)])) K
  refine Wlk.of (fun _ k => XS.dloadN X1.here hx rfl (hb hby d4_8) rfl k) ?_
  show Wlk p.tables e below (T1.setTop (mkF m 9 #[.val (.ref a), .val (.double u), .second, .val (.double w), .second] [(.double w), (.ref a)])) K
  refine Wlk.of (fun _ k => XS.aloadN X1.here hx rfl (hb hby d4_9) rfl rfl k) ?_
  show Wlk p.tables e below (T1.setTop (mkF m 10 #[.val (.ref a), .val (.double u), .second, .val (.double w), .second] [(.ref a), (.double w), (.ref a)])) K
  obtain ⟨T4, X4, e4, st4⟩ := getF X1 hx hZ hown (host := "") (Or.inl (hw _ (List.mem_of_getElem? (i := 19) rfl))) Via.refl e1 Fw1 (g := (mkF m 10 #[.val (.ref a), .val (.double u), .second, .val (.double w), .second] [(.ref a), (.double w), (.ref a)])) rfl rfl (hb hby d4_10)
  refine Wlk.of (fun _ k => st4 _ k) ?_
  show Wlk p.tables e below (T4.setTop (mkF m 13 #[.val (.ref a), .val (.double u), .second, .val (.double w), .second] [(.double (FP.dadd u w)), (.double w), (.ref a)])) K
  refine Wlk.of (fun _ k => XS.dloadN X4.here hx rfl (hb hby d4_13) rfl k) ?_
  show Wlk p.tables e below (T4.setTop (mkF m 14 #[.val (.ref a), .val (.double u), .second, .val (.double w), .second] [(.double u), (.double (FP.dadd u w)), (.double w), (.ref a)])) K
  refine Wlk.of (fun _ k => XS.dsubS X4.here hx rfl (hb hby d4_14) rfl n14 rfl k) ?_
  show Wlk p.tables e below (T4.setTop (mkF m 15 #[.val (.ref a), .val (.double u), .second, .val (.double w), .second] [(.double (FP.dsub (FP.dadd u w) u)), (.double w), (.ref a)])) K
  refine Wlk.of (fun _ k => XS.dsubS X4.here hx rfl (hb hby d4_15) rfl n15 rfl k) ?_
  show Wlk p.tables e below (T4.setTop (mkF m 16 #[.val (.ref a), .val (.double u), .second, .val (.double w), .second] [(.double (FP.dsub w (FP.dsub (FP.dadd u w) u))), (.ref a)])) K
  have f5 : Fld Z h1 a "com/example/vanishing_messages/vanishingmessages/analysis/DoubleWord" "low" "D" o2 := (F_a_low.other W1 (Or.inr (slot_ne (Or.inl (hw _ (List.mem_of_getElem? (i := 22) rfl))) (Or.inl (hw _ (List.mem_of_getElem? (i := 20) rfl))) (by decide) (t := .double) (t' := .double) (by decide) (by decide))))
  have f6 : Exa Z h1 a "com/example/vanishing_messages/vanishingmessages/analysis/DoubleWord" := (E_a.wr W1)
  obtain ⟨T7, h7, X7, e7, W7, st7⟩ := putF X4 hx hZ hown (host := "") (Or.inl (hw _ (List.mem_of_getElem? (i := 21) rfl))) Via.refl e4 f5 f6 (Or.inl (hw _ (List.mem_of_getElem? (i := 22) rfl))) (hw _ (List.mem_of_getElem? (i := 2) rfl)) (ty := .double) (by decide) rfl rfl (g := (mkF m 16 #[.val (.ref a), .val (.double u), .second, .val (.double w), .second] [(.double (FP.dsub w (FP.dsub (FP.dadd u w) u))), (.ref a)])) rfl rfl (hb hby d4_16)
  have Fw7 := f5.same W7
  refine Wlk.of (fun _ k => st7 _ k) ?_
  have K8 : Keep h0 h7 [a] := K2.wr W7 (Or.inl (List.mem_of_getElem? (i := 0) rfl))
  have N9 := Fr.snoc X7 N3 g_a
  show Wlk p.tables e below (T7.setTop (mkF m 19 #[.val (.ref a), .val (.double u), .second, .val (.double w), .second] [])) K
  have f10 : Fld Z h7 a "com/example/vanishing_messages/vanishingmessages/analysis/DoubleWord" "high" "D" (.double (FP.dadd u w)) := (Fw1.other W7 (Or.inr (slot_ne (Or.inl (hw _ (List.mem_of_getElem? (i := 20) rfl))) (Or.inl (hw _ (List.mem_of_getElem? (i := 22) rfl))) (by decide) (t := .double) (t' := .double) (by decide) (by decide))))
  refine hK none X7 (fun q => rfl) (fun fs hr => X7.returnOut hx hret (hb hby d4_19) hr) ?_ (by decide) (by decide)
  rw [show T7.heap = h7 from e7]
  exact ⟨rfl, N9, K8, f10, Fw7⟩
theorem pd_18 : parseMethodDescriptor "(DD)V" = some ⟨[.double, .double], none⟩ := by decide +kernel
theorem d3_0 : decode prog_2_method_4_code 0 = .ok (.dload_n 1, 1) := by decide +kernel
theorem d3_1 : decode prog_2_method_4_code 1 = .ok (.dload 5, 2) := by decide +kernel
theorem d3_3 : decode prog_2_method_4_code 3 = .ok (.dadd, 1) := by decide +kernel
theorem d3_4 : decode prog_2_method_4_code 4 = .ok (.dstore 9, 2) := by decide +kernel
theorem d3_6 : decode prog_2_method_4_code 6 = .ok (.dload 9, 2) := by decide +kernel
theorem d3_8 : decode prog_2_method_4_code 8 = .ok (.dload_n 1, 1) := by decide +kernel
theorem d3_9 : decode prog_2_method_4_code 9 = .ok (.dsub, 1) := by decide +kernel
theorem d3_10 : decode prog_2_method_4_code 10 = .ok (.dstore 11, 2) := by decide +kernel
theorem d3_12 : decode prog_2_method_4_code 12 = .ok (.dload_n 1, 1) := by decide +kernel
theorem d3_13 : decode prog_2_method_4_code 13 = .ok (.dload 9, 2) := by decide +kernel
theorem d3_15 : decode prog_2_method_4_code 15 = .ok (.dload 11, 2) := by decide +kernel
theorem d3_17 : decode prog_2_method_4_code 17 = .ok (.dsub, 1) := by decide +kernel
theorem d3_18 : decode prog_2_method_4_code 18 = .ok (.dsub, 1) := by decide +kernel
theorem d3_19 : decode prog_2_method_4_code 19 = .ok (.dload 5, 2) := by decide +kernel
theorem d3_21 : decode prog_2_method_4_code 21 = .ok (.dload 11, 2) := by decide +kernel
theorem d3_23 : decode prog_2_method_4_code 23 = .ok (.dsub, 1) := by decide +kernel
theorem d3_24 : decode prog_2_method_4_code 24 = .ok (.dadd, 1) := by decide +kernel
theorem d3_25 : decode prog_2_method_4_code 25 = .ok (.dstore 13, 2) := by decide +kernel
theorem d3_27 : decode prog_2_method_4_code 27 = .ok (.aload_n 0, 1) := by decide +kernel
theorem d3_28 : decode prog_2_method_4_code 28 = .ok (.dload 9, 2) := by decide +kernel
theorem d3_30 : decode prog_2_method_4_code 30 = .ok (.dload 13, 2) := by decide +kernel
theorem d3_32 : decode prog_2_method_4_code 32 = .ok (.dload_n 3, 1) := by decide +kernel
theorem d3_33 : decode prog_2_method_4_code 33 = .ok (.dload 7, 2) := by decide +kernel
theorem d3_35 : decode prog_2_method_4_code 35 = .ok (.dadd, 1) := by decide +kernel
theorem d3_36 : decode prog_2_method_4_code 36 = .ok (.dadd, 1) := by decide +kernel
theorem d3_37 : decode prog_2_method_4_code 37 = .ok (.invokevirtual 16, 3) := by decide +kernel
theorem d3_40 : decode prog_2_method_4_code 40 = .ok (.return_, 1) := by decide +kernel
theorem ef_rm3 (m : MethodId) (a : Addr) (xh : UInt64) (xl : UInt64) (yh : UInt64) (yl : UInt64) : entryFrame m #[(.ref a), (.double xh), (.double xl), (.double yh), (.double yl)] 15 = mkF m 0 #[.val (.ref a), .val (.double xh), .second, .val (.double xl), .second, .val (.double yh), .second, .val (.double yl), .second, .unset, .unset, .unset, .unset, .unset, .unset] [] := by first | (simp [entryFrame, mkF, argsToLocals, Value.category]; done) | rfl
def Q_rm3 (Z : State) (a : Addr) (xh : UInt64) (xl : UInt64) (yh : UInt64) (yl : UInt64) (o1 : Value) (o2 : Value) (h0 : Heap) (n0 : Nat) (v : Option Value) (h : Heap) (L : List Loc) : Prop := v = none ∧ Fr n0 L ∧ Keep h0 h [a] ∧ Fld Z h a "com/example/vanishing_messages/vanishingmessages/analysis/DoubleWord" "high" "D" (.double (FP.dadd (FP.dadd xh yh) (FP.dadd (FP.dadd (FP.dsub xh (FP.dsub (FP.dadd xh yh) (FP.dsub (FP.dadd xh yh) xh))) (FP.dsub yh (FP.dsub (FP.dadd xh yh) xh))) (FP.dadd xl yl)))) ∧ Fld Z h a "com/example/vanishing_messages/vanishingmessages/analysis/DoubleWord" "low" "D" (.double (FP.dsub (FP.dadd (FP.dadd (FP.dsub xh (FP.dsub (FP.dadd xh yh) (FP.dsub (FP.dadd xh yh) xh))) (FP.dsub yh (FP.dsub (FP.dadd xh yh) xh))) (FP.dadd xl yl)) (FP.dsub (FP.dadd (FP.dadd xh yh) (FP.dadd (FP.dadd (FP.dsub xh (FP.dsub (FP.dadd xh yh) (FP.dsub (FP.dadd xh yh) xh))) (FP.dsub yh (FP.dsub (FP.dadd xh yh) xh))) (FP.dadd xl yl))) (FP.dadd xh yh))))
set_option maxRecDepth 65536 in
set_option maxHeartbeats 40000000 in
theorem rm3 (l : Launch) (Z : State) (a0 : Array Value) (hw : ∀ d ∈ tables_1, d.before a0 Z = true) (a : Addr) (xh : UInt64) (xl : UInt64) (yh : UInt64) (yl : UInt64) (o1 : Value) (o2 : Value) (h0 : Heap) (n0 : Nat) (Z0 : n0 ≤ h0.size) (E_a : Exa Z h0 a "com/example/vanishing_messages/vanishingmessages/analysis/DoubleWord") (F_a_high : Fld Z h0 a "com/example/vanishing_messages/vanishingmessages/analysis/DoubleWord" "high" "D" o1) (F_a_low : Fld Z h0 a "com/example/vanishing_messages/vanishingmessages/analysis/DoubleWord" "low" "D" o2) (g_a : n0 ≤ a) (n3 : Fl.NoNaN64 (FP.dadd xh yh)) (n9 : Fl.NoNaN64 (FP.dsub (FP.dadd xh yh) xh)) (n17 : Fl.NoNaN64 (FP.dsub (FP.dadd xh yh) (FP.dsub (FP.dadd xh yh) xh))) (n18 : Fl.NoNaN64 (FP.dsub xh (FP.dsub (FP.dadd xh yh) (FP.dsub (FP.dadd xh yh) xh)))) (n23 : Fl.NoNaN64 (FP.dsub yh (FP.dsub (FP.dadd xh yh) xh))) (n24 : Fl.NoNaN64 (FP.dadd (FP.dsub xh (FP.dsub (FP.dadd xh yh) (FP.dsub (FP.dadd xh yh) xh))) (FP.dsub yh (FP.dsub (FP.dadd xh yh) xh)))) (n35 : Fl.NoNaN64 (FP.dadd xl yl)) (n36 : Fl.NoNaN64 (FP.dadd (FP.dadd (FP.dsub xh (FP.dsub (FP.dadd xh yh) (FP.dsub (FP.dadd xh yh) xh))) (FP.dsub yh (FP.dsub (FP.dadd xh yh) xh))) (FP.dadd xl yl))) (m3 : Fl.NoNaN64 (FP.dadd (FP.dadd xh yh) (FP.dadd (FP.dadd (FP.dsub xh (FP.dsub (FP.dadd xh yh) (FP.dsub (FP.dadd xh yh) xh))) (FP.dsub yh (FP.dsub (FP.dadd xh yh) xh))) (FP.dadd xl yl)))) (m14 : Fl.NoNaN64 (FP.dsub (FP.dadd (FP.dadd xh yh) (FP.dadd (FP.dadd (FP.dsub xh (FP.dsub (FP.dadd xh yh) (FP.dsub (FP.dadd xh yh) xh))) (FP.dsub yh (FP.dsub (FP.dadd xh yh) xh))) (FP.dadd xl yl))) (FP.dadd xh yh))) (m15 : Fl.NoNaN64 (FP.dsub (FP.dadd (FP.dadd (FP.dsub xh (FP.dsub (FP.dadd xh yh) (FP.dsub (FP.dadd xh yh) xh))) (FP.dsub yh (FP.dsub (FP.dadd xh yh) xh))) (FP.dadd xl yl)) (FP.dsub (FP.dadd (FP.dadd xh yh) (FP.dadd (FP.dadd (FP.dsub xh (FP.dsub (FP.dadd xh yh) (FP.dsub (FP.dadd xh yh) xh))) (FP.dsub yh (FP.dsub (FP.dadd xh yh) xh))) (FP.dadd xl yl))) (FP.dadd xh yh)))) :
    Ctr l Z h0 (⟨"com/example/vanishing_messages/vanishingmessages/analysis/DoubleWord", "add", "(DDDD)V"⟩ : MethodName) prog_2_method_4_code 15 none [] ({ frames := 1, cells := 0, slots := 0, locals := 16 } : Room) #[(.ref a), (.double xh), (.double xl), (.double yh), (.double yl)] (Q_rm3 Z a xh xl yh yl o1 o2 h0 n0) := by
  refine Ctr.make (plainFor_of_name pn_3) fun p e s m below meth c s₁ K hret hml hx hby hown hnm hZ X0 e0 hK => ?_
  have hown : s.vm.findClass "com/example/vanishing_messages/vanishingmessages/analysis/DoubleWord" = some m.cls := hown
  have N0 := Fr.nil n0
  have K0 : Keep h0 h0 [a] := Keep.refl _ _
  refine Wlk.of (fun _ k => castTop (ef_rm3 m a xh xl yh yl) k) ?_
  show Wlk p.tables e below (s₁.setTop (mkF m 0 #[.val (.ref a), .val (.double xh), .second, .val (.double xl), .second, .val (.double yh), .second, .val (.double yl), .second, .unset, .unset, .unset, .unset, .unset, .unset] [])) K
  refine Wlk.of (fun _ k => XS.dloadN X0.here hx rfl (hb hby d3_0) rfl k) ?_
  show Wlk p.tables e below (s₁.setTop (mkF m 1 #[.val (.ref a), .val (.double xh), .second, .val (.double xl), .second, .val (.double yh), .second, .val (.double yl), .second, .unset, .unset, .unset, .unset, .unset, .unset] [(.double xh)])) K
  refine Wlk.of (fun _ k => XS.dload X0.here hx rfl (hb hby d3_1) rfl k) ?_
  show Wlk p.tables e below (s₁.setTop (mkF m 3 #[.val (.ref a), .val (.double xh), .second, .val (.double xl), .second, .val (.double yh), .second, .val (.double yl), .second, .unset, .unset, .unset, .unset, .unset, .unset] [(.double yh), (.double xh)])) K
  refine Wlk.of (fun _ k => XS.daddS X0.here hx rfl (hb hby d3_3) rfl n3 rfl k) ?_
  show Wlk p.tables e below (s₁.setTop (mkF m 4 #[.val (.ref a), .val (.double xh), .second, .val (.double xl), .second, .val (.double yh), .second, .val (.double yl), .second, .unset, .unset, .unset, .unset, .unset, .unset] [(.double (FP.dadd xh yh))])) K
  refine Wlk.of (fun _ k => XS.dstore X0.here hx rfl (hb hby d3_4) rfl (l' := #[.val (.ref a), .val (.double xh), .second, .val (.double xl), .second, .val (.double yh), .second, .val (.double yl), .second, .val (.double (FP.dadd xh yh)), .second, .unset, .unset, .unset, .unset]) rfl k) ?_
  show Wlk p.tables e below (s₁.setTop (mkF m 6 #[.val (.ref a), .val (.double xh), .second, .val (.double xl), .second, .val (.double yh), .second, .val (.double yl), .second, .val (.double (FP.dadd xh yh)), .second, .unset, .unset, .unset, .unset] [])) K
  refine Wlk.of (fun _ k => XS.dload X0.here hx rfl (hb hby d3_6) rfl k) ?_
  show Wlk p.tables e below (s₁.setTop (mkF m 8 #[.val (.ref a), .val (.double xh), .second, .val (.double xl), .second, .val (.double yh), .second, .val (.double yl), .second, .val (.double (FP.dadd xh yh)), .second, .unset, .unset, .unset, .unset] [(.double (FP.dadd xh yh))])) K
  refine Wlk.of (fun _ k => XS.dloadN X0.here hx rfl (hb hby d3_8) rfl k) ?_
  show Wlk p.tables e below (s₁.setTop (mkF m 9 #[.val (.ref a), .val (.double xh), .second, .val (.double xl), .second, .val (.double yh), .second, .val (.double yl), .second, .val (.double (FP.dadd xh yh)), .second, .unset, .unset, .unset, .unset] [(.double xh), (.double (FP.dadd xh yh))])) K
  refine Wlk.of (fun _ k => XS.dsubS X0.here hx rfl (hb hby d3_9) rfl n9 rfl k) ?_
  show Wlk p.tables e below (s₁.setTop (mkF m 10 #[.val (.ref a), .val (.double xh), .second, .val (.double xl), .second, .val (.double yh), .second, .val (.double yl), .second, .val (.double (FP.dadd xh yh)), .second, .unset, .unset, .unset, .unset] [(.double (FP.dsub (FP.dadd xh yh) xh))])) K
  refine Wlk.of (fun _ k => XS.dstore X0.here hx rfl (hb hby d3_10) rfl (l' := #[.val (.ref a), .val (.double xh), .second, .val (.double xl), .second, .val (.double yh), .second, .val (.double yl), .second, .val (.double (FP.dadd xh yh)), .second, .val (.double (FP.dsub (FP.dadd xh yh) xh)), .second, .unset, .unset]) rfl k) ?_
  show Wlk p.tables e below (s₁.setTop (mkF m 12 #[.val (.ref a), .val (.double xh), .second, .val (.double xl), .second, .val (.double yh), .second, .val (.double yl), .second, .val (.double (FP.dadd xh yh)), .second, .val (.double (FP.dsub (FP.dadd xh yh) xh)), .second, .unset, .unset] [])) K
  refine Wlk.of (fun _ k => XS.dloadN X0.here hx rfl (hb hby d3_12) rfl k) ?_
  show Wlk p.tables e below (s₁.setTop (mkF m 13 #[.val (.ref a), .val (.double xh), .second, .val (.double xl), .second, .val (.double yh), .second, .val (.double yl), .second, .val (.double (FP.dadd xh yh)), .second, .val (.double (FP.dsub (FP.dadd xh yh) xh)), .second, .unset, .unset] [(.double xh)])) K
  refine Wlk.of (fun _ k => XS.dload X0.here hx rfl (hb hby d3_13) rfl k) ?_
  show Wlk p.tables e below (s₁.setTop (mkF m 15 #[.val (.ref a), .val (.double xh), .second, .val (.double xl), .second, .val (.double yh), .second, .val (.double yl), .second, .val (.double (FP.dadd xh yh)), .second, .val (.double (FP.dsub (FP.dadd xh yh) xh)), .second, .unset, .unset] [(.double (FP.dadd xh yh)), (.double xh)])) K
  refine Wlk.of (fun _ k => XS.dload X0.here hx rfl (hb hby d3_15) rfl k) ?_
  show Wlk p.tables e below (s₁.setTop (mkF m 17 #[.val (.ref a), .val (.double xh), .second, .val (.double xl), .second, .val (.double yh), .second, .val (.double yl), .second, .val (.double (FP.dadd xh yh)), .second, .val (.double (FP.dsub (FP.dadd xh yh) xh)), .second, .unset, .unset] [(.double (FP.dsub (FP.dadd xh yh) xh)), (.double (FP.dadd xh yh)), (.double xh)])) K
  refine Wlk.of (fun _ k => XS.dsubS X0.here hx rfl (hb hby d3_17) rfl n17 rfl k) ?_
  show Wlk p.tables e below (s₁.setTop (mkF m 18 #[.val (.ref a), .val (.double xh), .second, .val (.double xl), .second, .val (.double yh), .second, .val (.double yl), .second, .val (.double (FP.dadd xh yh)), .second, .val (.double (FP.dsub (FP.dadd xh yh) xh)), .second, .unset, .unset] [(.double (FP.dsub (FP.dadd xh yh) (FP.dsub (FP.dadd xh yh) xh))), (.double xh)])) K
  refine Wlk.of (fun _ k => XS.dsubS X0.here hx rfl (hb hby d3_18) rfl n18 rfl k) ?_
  show Wlk p.tables e below (s₁.setTop (mkF m 19 #[.val (.ref a), .val (.double xh), .second, .val (.double xl), .second, .val (.double yh), .second, .val (.double yl), .second, .val (.double (FP.dadd xh yh)), .second, .val (.double (FP.dsub (FP.dadd xh yh) xh)), .second, .unset, .unset] [(.double (FP.dsub xh (FP.dsub (FP.dadd xh yh) (FP.dsub (FP.dadd xh yh) xh))))])) K
  refine Wlk.of (fun _ k => XS.dload X0.here hx rfl (hb hby d3_19) rfl k) ?_
  show Wlk p.tables e below (s₁.setTop (mkF m 21 #[.val (.ref a), .val (.double xh), .second, .val (.double xl), .second, .val (.double yh), .second, .val (.double yl), .second, .val (.double (FP.dadd xh yh)), .second, .val (.double (FP.dsub (FP.dadd xh yh) xh)), .second, .unset, .unset] [(.double yh), (.double (FP.dsub xh (FP.dsub (FP.dadd xh yh) (FP.dsub (FP.dadd xh yh) xh))))])) K
  refine Wlk.of (fun _ k => XS.dload X0.here hx rfl (hb hby d3_21) rfl k) ?_
  show Wlk p.tables e below (s₁.setTop (mkF m 23 #[.val (.ref a), .val (.double xh), .second, .val (.double xl), .second, .val (.double yh), .second, .val (.double yl), .second, .val (.double (FP.dadd xh yh)), .second, .val (.double (FP.dsub (FP.dadd xh yh) xh)), .second, .unset, .unset] [(.double (FP.dsub (FP.dadd xh yh) xh)), (.double yh), (.double (FP.dsub xh (FP.dsub (FP.dadd xh yh) (FP.dsub (FP.dadd xh yh) xh))))])) K
  refine Wlk.of (fun _ k => XS.dsubS X0.here hx rfl (hb hby d3_23) rfl n23 rfl k) ?_
  show Wlk p.tables e below (s₁.setTop (mkF m 24 #[.val (.ref a), .val (.double xh), .second, .val (.double xl), .second, .val (.double yh), .second, .val (.double yl), .second, .val (.double (FP.dadd xh yh)), .second, .val (.double (FP.dsub (FP.dadd xh yh) xh)), .second, .unset, .unset] [(.double (FP.dsub yh (FP.dsub (FP.dadd xh yh) xh))), (.double (FP.dsub xh (FP.dsub (FP.dadd xh yh) (FP.dsub (FP.dadd xh yh) xh))))])) K
  refine Wlk.of (fun _ k => XS.daddS X0.here hx rfl (hb hby d3_24) rfl n24 rfl k) ?_
  show Wlk p.tables e below (s₁.setTop (mkF m 25 #[.val (.ref a), .val (.double xh), .second, .val (.double xl), .second, .val (.double yh), .second, .val (.double yl), .second, .val (.double (FP.dadd xh yh)), .second, .val (.double (FP.dsub (FP.dadd xh yh) xh)), .second, .unset, .unset] [(.double (FP.dadd (FP.dsub xh (FP.dsub (FP.dadd xh yh) (FP.dsub (FP.dadd xh yh) xh))) (FP.dsub yh (FP.dsub (FP.dadd xh yh) xh))))])) K
  refine Wlk.of (fun _ k => XS.dstore X0.here hx rfl (hb hby d3_25) rfl (l' := #[.val (.ref a), .val (.double xh), .second, .val (.double xl), .second, .val (.double yh), .second, .val (.double yl), .second, .val (.double (FP.dadd xh yh)), .second, .val (.double (FP.dsub (FP.dadd xh yh) xh)), .second, .val (.double (FP.dadd (FP.dsub xh (FP.dsub (FP.dadd xh yh) (FP.dsub (FP.dadd xh yh) xh))) (FP.dsub yh (FP.dsub (FP.dadd xh yh) xh)))), .second]) rfl k) ?_
  show Wlk p.tables e below (s₁.setTop (mkF m 27 #[.val (.ref a), .val (.double xh), .second, .val (.double xl), .second, .val (.double yh), .second, .val (.double yl), .second, .val (.double (FP.dadd xh yh)), .second, .val (.double (FP.dsub (FP.dadd xh yh) xh)), .second, .val (.double (FP.dadd (FP.dsub xh (FP.dsub (FP.dadd xh yh) (FP.dsub (FP.dadd xh yh) xh))) (FP.dsub yh (FP.dsub (FP.dadd xh yh) xh)))), .second] [])) K
  refine Wlk.of (fun _ k => XS.aloadN X0.here hx rfl (hb hby d3_27) rfl rfl k) ?_
  show Wlk p.tables e below (s₁.setTop (mkF m 28 #[.val (.ref a), .val (.double xh), .second, .val (.double xl), .second, .val (.double yh), .second, .val (.double yl), .second, .val (.double (FP.dadd xh yh)), .second, .val (.double (FP.dsub (FP.dadd xh yh) xh)), .second, .val (.double (FP.dadd (FP.dsub xh (FP.dsub (FP.dadd xh yh) (FP.dsub (FP.dadd xh yh) xh))) (FP.dsub yh (FP.dsub (FP.dadd xh yh) xh)))), .second] [(.ref a)])) K
  refine Wlk.of (fun _ k => XS.dload X0.here hx rfl (hb hby d3_28) rfl k) ?_
  show Wlk p.tables e below (s₁.setTop (mkF m 30 #[.val (.ref a), .val (.double xh), .second, .val (.double xl), .second, .val (.double yh), .second, .val (.double yl), .second, .val (.double (FP.dadd xh yh)), .second, .val (.double (FP.dsub (FP.dadd xh yh) xh)), .second, .val (.double (FP.dadd (FP.dsub xh (FP.dsub (FP.dadd xh yh) (FP.dsub (FP.dadd xh yh) xh))) (FP.dsub yh (FP.dsub (FP.dadd xh yh) xh)))), .second] [(.double (FP.dadd xh yh)), (.ref a)])) K
  refine Wlk.of (fun _ k => XS.dload X0.here hx rfl (hb hby d3_30) rfl k) ?_
  show Wlk p.tables e below (s₁.setTop (mkF m 32 #[.val (.ref a), .val (.double xh), .second, .val (.double xl), .second, .val (.double yh), .second, .val (.double yl), .second, .val (.double (FP.dadd xh yh)), .second, .val (.double (FP.dsub (FP.dadd xh yh) xh)), .second, .val (.double (FP.dadd (FP.dsub xh (FP.dsub (FP.dadd xh yh) (FP.dsub (FP.dadd xh yh) xh))) (FP.dsub yh (FP.dsub (FP.dadd xh yh) xh)))), .second] [(.double (FP.dadd (FP.dsub xh (FP.dsub (FP.dadd xh yh) (FP.dsub (FP.dadd xh yh) xh))) (FP.dsub yh (FP.dsub (FP.dadd xh yh) xh)))), (.double (FP.dadd xh yh)), (.ref a)])) K
  refine Wlk.of (fun _ k => XS.dloadN X0.here hx rfl (hb hby d3_32) rfl k) ?_
  show Wlk p.tables e below (s₁.setTop (mkF m 33 #[.val (.ref a), .val (.double xh), .second, .val (.double xl), .second, .val (.double yh), .second, .val (.double yl), .second, .val (.double (FP.dadd xh yh)), .second, .val (.double (FP.dsub (FP.dadd xh yh) xh)), .second, .val (.double (FP.dadd (FP.dsub xh (FP.dsub (FP.dadd xh yh) (FP.dsub (FP.dadd xh yh) xh))) (FP.dsub yh (FP.dsub (FP.dadd xh yh) xh)))), .second] [(.double xl), (.double (FP.dadd (FP.dsub xh (FP.dsub (FP.dadd xh yh) (FP.dsub (FP.dadd xh yh) xh))) (FP.dsub yh (FP.dsub (FP.dadd xh yh) xh)))), (.double (FP.dadd xh yh)), (.ref a)])) K
  refine Wlk.of (fun _ k => XS.dload X0.here hx rfl (hb hby d3_33) rfl k) ?_
  show Wlk p.tables e below (s₁.setTop (mkF m 35 #[.val (.ref a), .val (.double xh), .second, .val (.double xl), .second, .val (.double yh), .second, .val (.double yl), .second, .val (.double (FP.dadd xh yh)), .second, .val (.double (FP.dsub (FP.dadd xh yh) xh)), .second, .val (.double (FP.dadd (FP.dsub xh (FP.dsub (FP.dadd xh yh) (FP.dsub (FP.dadd xh yh) xh))) (FP.dsub yh (FP.dsub (FP.dadd xh yh) xh)))), .second] [(.double yl), (.double xl), (.double (FP.dadd (FP.dsub xh (FP.dsub (FP.dadd xh yh) (FP.dsub (FP.dadd xh yh) xh))) (FP.dsub yh (FP.dsub (FP.dadd xh yh) xh)))), (.double (FP.dadd xh yh)), (.ref a)])) K
  refine Wlk.of (fun _ k => XS.daddS X0.here hx rfl (hb hby d3_35) rfl n35 rfl k) ?_
  show Wlk p.tables e below (s₁.setTop (mkF m 36 #[.val (.ref a), .val (.double xh), .second, .val (.double xl), .second, .val (.double yh), .second, .val (.double yl), .second, .val (.double (FP.dadd xh yh)), .second, .val (.double (FP.dsub (FP.dadd xh yh) xh)), .second, .val (.double (FP.dadd (FP.dsub xh (FP.dsub (FP.dadd xh yh) (FP.dsub (FP.dadd xh yh) xh))) (FP.dsub yh (FP.dsub (FP.dadd xh yh) xh)))), .second] [(.double (FP.dadd xl yl)), (.double (FP.dadd (FP.dsub xh (FP.dsub (FP.dadd xh yh) (FP.dsub (FP.dadd xh yh) xh))) (FP.dsub yh (FP.dsub (FP.dadd xh yh) xh)))), (.double (FP.dadd xh yh)), (.ref a)])) K
  refine Wlk.of (fun _ k => XS.daddS X0.here hx rfl (hb hby d3_36) rfl n36 rfl k) ?_
  show Wlk p.tables e below (s₁.setTop (mkF m 37 #[.val (.ref a), .val (.double xh), .second, .val (.double xl), .second, .val (.double yh), .second, .val (.double yl), .second, .val (.double (FP.dadd xh yh)), .second, .val (.double (FP.dsub (FP.dadd xh yh) xh)), .second, .val (.double (FP.dadd (FP.dsub xh (FP.dsub (FP.dadd xh yh) (FP.dsub (FP.dadd xh yh) xh))) (FP.dsub yh (FP.dsub (FP.dadd xh yh) xh)))), .second] [(.double (FP.dadd (FP.dadd (FP.dsub xh (FP.dsub (FP.dadd xh yh) (FP.dsub (FP.dadd xh yh) xh))) (FP.dsub yh (FP.dsub (FP.dadd xh yh) xh))) (FP.dadd xl yl))), (.double (FP.dadd xh yh)), (.ref a)])) K
  obtain ⟨v1, T1, L1, X1, q1, st1⟩ := Ctr.priv (rm4 l Z a0 hw a ((FP.dadd xh yh)) ((FP.dadd (FP.dadd (FP.dsub xh (FP.dsub (FP.dadd xh yh) (FP.dsub (FP.dadd xh yh) xh))) (FP.dsub yh (FP.dsub (FP.dadd xh yh) xh))) (FP.dadd xl yl))) o1 o2 h0 n0 (Nat.le_trans Z0 K0.1) E_a F_a_high F_a_low g_a m3 m14 m15) X0 hx hZ e0 hown (hw _ (List.mem_of_getElem? (i := 15) rfl)) (hw _ (List.mem_of_getElem? (i := 16) rfl)) (hw _ (List.mem_of_getElem? (i := 17) rfl)) (hw _ (List.mem_of_getElem? (i := 2) rfl)) (hw _ (List.mem_of_getElem? (i := 3) rfl)) (hw _ (List.mem_of_getElem? (i := 18) rfl)) (by decide) E_a pd_18 (g := (mkF m 37 #[.val (.ref a), .val (.double xh), .second, .val (.double xl), .second, .val (.double yh), .second, .val (.double yl), .second, .val (.double (FP.dadd xh yh)), .second, .val (.double (FP.dsub (FP.dadd xh yh) xh)), .second, .val (.double (FP.dadd (FP.dsub xh (FP.dsub (FP.dadd xh yh) (FP.dsub (FP.dadd xh yh) xh))) (FP.dsub yh (FP.dsub (FP.dadd xh yh) xh)))), .second] [(.double (FP.dadd (FP.dadd (FP.dsub xh (FP.dsub (FP.dadd xh yh) (FP.dsub (FP.dadd xh yh) xh))) (FP.dsub yh (FP.dsub (FP.dadd xh yh) xh))) (FP.dadd xl yl))), (.double (FP.dadd xh yh)), (.ref a)])) rfl (by rw [hml]; rfl) (argsL := [(.double (FP.dadd xh yh)), (.double (FP.dadd (FP.dadd (FP.dsub xh (FP.dsub (FP.dadd xh yh) (FP.dsub (FP.dadd xh yh) xh))) (FP.dsub yh (FP.dsub (FP.dadd xh yh) xh))) (FP.dadd xl yl)))]) (rest := []) rfl rfl rfl (W := 0) (by show 2 * 0 + _ ≤ _; exact Nat.le_of_eq rfl) (by decide) (by decide) (hb hby d3_37) (by decide) (by decide)
  obtain ⟨rfl, N1q, K1q, p1_0, p1_1⟩ := q1
  have N2 := Fr.app N0 N1q
  refine Wlk.of (fun _ k => st1 _ k) ?_
  have K3 : Keep h0 T1.heap [a] := K0.trans K1q (allS (Or.inl (List.mem_of_getElem? (i := 0) rfl)) all0)
  show Wlk p.tables e below (T1.setTop (mkF m 40 #[.val (.ref a), .val (.double xh), .second, .val (.double xl), .second, .val (.double yh), .second, .val (.double yl), .second, .val (.double (FP.dadd xh yh)), .second, .val (.double (FP.dsub (FP.dadd xh yh) xh)), .second, .val (.double (FP.dadd (FP.dsub xh (FP.dsub (FP.dadd xh yh) (FP.dsub (FP.dadd xh yh) xh))) (FP.dsub yh (FP.dsub (FP.dadd xh yh) xh)))), .second] [])) K
  refine hK none X1 (fun q => rfl) (fun fs hr => X1.returnOut hx hret (hb hby d3_40) hr) ?_ (by decide) (by decide)
  skip
  exact ⟨rfl, N2, K3, p1_0, p1_1⟩
theorem d5_0 : decode prog_2_method_2_code 0 = .ok (.aload_n 0, 1) := by decide +kernel
theorem d5_1 : decode prog_2_method_2_code 1 = .ok (.getfield 7, 3) := by decide +kernel
theorem d5_4 : decode prog_2_method_2_code 4 = .ok (.dreturn, 1) := by decide +kernel
theorem ef_rm5 (m : MethodId) (a : Addr) : entryFrame m #[(.ref a)] 1 = mkF m 0 #[.val (.ref a)] [] := by first | (simp [entryFrame, mkF, argsToLocals, Value.category]; done) | rfl
def Q_rm5 (Z : State) (a : Addr) (z : UInt64) (h0 : Heap) (n0 : Nat) (v : Option Value) (h : Heap) (L : List Loc) : Prop := v = (some (.double z)) ∧ Fr n0 L ∧ h = h0
set_option maxRecDepth 65536 in
set_option maxHeartbeats 40000000 in
theorem rm5 (l : Launch) (Z : State) (a0 : Array Value) (hw : ∀ d ∈ tables_1, d.before a0 Z = true) (a : Addr) (z : UInt64) (h0 : Heap) (n0 : Nat) (Z0 : n0 ≤ h0.size) (F_a_high : Fld Z h0 a "com/example/vanishing_messages/vanishingmessages/analysis/DoubleWord" "high" "D" (.double z)) :
    Ctr l Z h0 (⟨"com/example/vanishing_messages/vanishingmessages/analysis/DoubleWord", "high", "()D"⟩ : MethodName) prog_2_method_2_code 1 (some .double) [] ({ frames := 0, cells := 0, slots := 0, locals := 0 } : Room) #[(.ref a)] (Q_rm5 Z a z h0 n0) := by
  refine Ctr.make (plainFor_of_name pn_3) fun p e s m below meth c s₁ K hret hml hx hby hown hnm hZ X0 e0 hK => ?_
  have hown : s.vm.findClass "com/example/vanishing_messages/vanishingmessages/analysis/DoubleWord" = some m.cls := hown
  have N0 := Fr.nil n0
  have K0 : Keep h0 h0 [] := Keep.refl _ _
  refine Wlk.of (fun _ k => castTop (ef_rm5 m a) k) ?_
  show Wlk p.tables e below (s₁.setTop (mkF m 0 #[.val (.ref a)] [])) K
  refine Wlk.of (fun _ k => XS.aloadN X0.here hx rfl (hb hby d5_0) rfl rfl k) ?_
  show Wlk p.tables e below (s₁.setTop (mkF m 1 #[.val (.ref a)] [(.ref a)])) K
  obtain ⟨T1, X1, e1, st1⟩ := getF X0 hx hZ hown (host := "") (Or.inl (hw _ (List.mem_of_getElem? (i := 19) rfl))) Via.refl e0 F_a_high (g := (mkF m 1 #[.val (.ref a)] [(.ref a)])) rfl rfl (hb hby d5_1)
  refine Wlk.of (fun _ k => st1 _ k) ?_
  show Wlk p.tables e below (T1.setTop (mkF m 4 #[.val (.ref a)] [(.double z)])) K
  refine hK (some (.double z)) X1 (fun q => by cases q) (fun fs hr => retOut X1 hx hret rfl (Or.inr (Or.inr (Or.inl ⟨rfl, rfl, _, rfl⟩))) (hb hby d5_4) hr) ?_ (by decide) (by decide)
  rw [show T1.heap = h0 from e1]
  exact ⟨rfl, N0, rfl⟩
theorem d6_0 : decode prog_2_method_3_code 0 = .ok (.aload_n 0, 1) := by decide +kernel
theorem d6_1 : decode prog_2_method_3_code 1 = .ok (.getfield 13, 3) := by decide +kernel
theorem d6_4 : decode prog_2_method_3_code 4 = .ok (.dreturn, 1) := by decide +kernel
theorem ef_rm6 (m : MethodId) (a : Addr) : entryFrame m #[(.ref a)] 1 = mkF m 0 #[.val (.ref a)] [] := by first | (simp [entryFrame, mkF, argsToLocals, Value.category]; done) | rfl
def Q_rm6 (Z : State) (a : Addr) (z : UInt64) (h0 : Heap) (n0 : Nat) (v : Option Value) (h : Heap) (L : List Loc) : Prop := v = (some (.double z)) ∧ Fr n0 L ∧ h = h0
set_option maxRecDepth 65536 in
set_option maxHeartbeats 40000000 in
theorem rm6 (l : Launch) (Z : State) (a0 : Array Value) (hw : ∀ d ∈ tables_1, d.before a0 Z = true) (a : Addr) (z : UInt64) (h0 : Heap) (n0 : Nat) (Z0 : n0 ≤ h0.size) (F_a_low : Fld Z h0 a "com/example/vanishing_messages/vanishingmessages/analysis/DoubleWord" "low" "D" (.double z)) :
    Ctr l Z h0 (⟨"com/example/vanishing_messages/vanishingmessages/analysis/DoubleWord", "low", "()D"⟩ : MethodName) prog_2_method_3_code 1 (some .double) [] ({ frames := 0, cells := 0, slots := 0, locals := 0 } : Room) #[(.ref a)] (Q_rm6 Z a z h0 n0) := by
  refine Ctr.make (plainFor_of_name pn_3) fun p e s m below meth c s₁ K hret hml hx hby hown hnm hZ X0 e0 hK => ?_
  have hown : s.vm.findClass "com/example/vanishing_messages/vanishingmessages/analysis/DoubleWord" = some m.cls := hown
  have N0 := Fr.nil n0
  have K0 : Keep h0 h0 [] := Keep.refl _ _
  refine Wlk.of (fun _ k => castTop (ef_rm6 m a) k) ?_
  show Wlk p.tables e below (s₁.setTop (mkF m 0 #[.val (.ref a)] [])) K
  refine Wlk.of (fun _ k => XS.aloadN X0.here hx rfl (hb hby d6_0) rfl rfl k) ?_
  show Wlk p.tables e below (s₁.setTop (mkF m 1 #[.val (.ref a)] [(.ref a)])) K
  obtain ⟨T1, X1, e1, st1⟩ := getF X0 hx hZ hown (host := "") (Or.inl (hw _ (List.mem_of_getElem? (i := 21) rfl))) Via.refl e0 F_a_low (g := (mkF m 1 #[.val (.ref a)] [(.ref a)])) rfl rfl (hb hby d6_1)
  refine Wlk.of (fun _ k => st1 _ k) ?_
  show Wlk p.tables e below (T1.setTop (mkF m 4 #[.val (.ref a)] [(.double z)])) K
  refine hK (some (.double z)) X1 (fun q => by cases q) (fun fs hr => retOut X1 hx hret rfl (Or.inr (Or.inr (Or.inl ⟨rfl, rfl, _, rfl⟩))) (hb hby d6_4) hr) ?_ (by decide) (by decide)
  rw [show T1.heap = h0 from e1]
  exact ⟨rfl, N0, rfl⟩
theorem pd_52 : parseMethodDescriptor "()V" = some ⟨[], none⟩ := by decide +kernel
theorem pd_53 : parseMethodDescriptor "(DDDD)V" = some ⟨[.double, .double, .double, .double], none⟩ := by decide +kernel
theorem pd_54 : parseMethodDescriptor "()D" = some ⟨[], some .double⟩ := by decide +kernel
theorem pn_55 : plainName "com/example/vanishing_messages/vanishingmessages/analysis/DoubleWordAddPinLaw" = true := by first | (simp [plainName, overriddenIn]; done) | decide +kernel
theorem ef_rm0 (m : MethodId) (p1 : Int64) (q2 : Int64) (i3 : Int32) (j4 : Int32) : entryFrame m #[(.long p1), (.long q2), (.int i3), (.int j4)] maxLocals = mkF m 0 #[.val (.long p1), .second, .val (.long q2), .second, .val (.int i3), .val (.int j4), .unset, .unset, .unset, .unset, .unset, .unset, .unset, .unset, .unset, .unset, .unset, .unset, .unset, .unset, .unset, .unset, .unset, .unset, .unset] [] := by first | (simp [entryFrame, mkF, argsToLocals, Value.category, maxLocals]; done) | rfl
def Q_rm0 (Z : State) (p1 : Int64) (q2 : Int64) (i3 : Int32) (j4 : Int32) (h0 : Heap) (n0 : Nat) (v : Option Value) (h : Heap) (L : List Loc) : Prop := v = (some (.int (1 : Int32))) ∧ Fr n0 L
set_option maxRecDepth 65536 in
set_option maxHeartbeats 40000000 in
theorem rm0 (l : Launch) (Z : State) (a0 : Array Value) (hw : ∀ d ∈ tables_1, d.before a0 Z = true) (ws : List Jvm.Cond) (p1 : Int64) (q2 : Int64) (i3 : Int32) (j4 : Int32) (h0 : Heap) (n0 : Nat) (Z0 : n0 ≤ h0.size) :
    Ctr l Z h0 x code maxLocals ret ws room_1 #[(.long p1), (.long q2), (.int i3), (.int j4)] (Q_rm0 Z p1 q2 i3 j4 h0 n0) := by
  refine Ctr.make (plainFor_of_name pn_55) fun p e s m below meth c s₁ K hret hml hx hby hown hnm hZ X0 e0 hK => ?_
  have hown : s.vm.findClass "com/example/vanishing_messages/vanishingmessages/analysis/DoubleWordAddPinLaw" = some m.cls := hown
  have hml : c.maxLocals = 25 := hml
  have N0 := Fr.nil n0
  have K0 : Keep h0 h0 [] := Keep.refl _ _
  refine Wlk.of (fun _ k => castTop (ef_rm0 m p1 q2 i3 j4) k) ?_
  show Wlk p.tables e below (s₁.setTop (mkF m 0 #[.val (.long p1), .second, .val (.long q2), .second, .val (.int i3), .val (.int j4), .unset, .unset, .unset, .unset, .unset, .unset, .unset, .unset, .unset, .unset, .unset, .unset, .unset, .unset, .unset, .unset, .unset, .unset, .unset] [])) K
  refine Wlk.of (fun _ k => XS.lloadN X0.here hx rfl (hb hby at_0) rfl k) ?_
  show Wlk p.tables e below (s₁.setTop (mkF m 1 #[.val (.long p1), .second, .val (.long q2), .second, .val (.int i3), .val (.int j4), .unset, .unset, .unset, .unset, .unset, .unset, .unset, .unset, .unset, .unset, .unset, .unset, .unset, .unset, .unset, .unset, .unset, .unset, .unset] [(.long p1)])) K
  refine Wlk.of (fun _ k => X0.ldc2Long hx hown (mvT hZ (hw _ (List.mem_of_getElem? (i := 0) rfl))) (g := (mkF m 1 #[.val (.long p1), .second, .val (.long q2), .second, .val (.int i3), .val (.int j4), .unset, .unset, .unset, .unset, .unset, .unset, .unset, .unset, .unset, .unset, .unset, .unset, .unset, .unset, .unset, .unset, .unset, .unset, .unset] [(.long p1)])) rfl (hb hby at_1) _ k) ?_
  show Wlk p.tables e below (s₁.setTop (mkF m 4 #[.val (.long p1), .second, .val (.long q2), .second, .val (.int i3), .val (.int j4), .unset, .unset, .unset, .unset, .unset, .unset, .unset, .unset, .unset, .unset, .unset, .unset, .unset, .unset, .unset, .unset, .unset, .unset, .unset] [(.long (2305843009213693951 : Int64)), (.long p1)])) K
  refine Wlk.of (fun _ k => XS.land X0.here hx rfl (hb hby at_4) rfl k) ?_
  show Wlk p.tables e below (s₁.setTop (mkF m 5 #[.val (.long p1), .second, .val (.long q2), .second, .val (.int i3), .val (.int j4), .unset, .unset, .unset, .unset, .unset, .unset, .unset, .unset, .unset, .unset, .unset, .unset, .unset, .unset, .unset, .unset, .unset, .unset, .unset] [(.long (p1 &&& (2305843009213693951 : Int64)))])) K
  refine Wlk.of (fun _ k => XS.iload X0.here hx rfl (hb hby at_5) rfl k) ?_
  show Wlk p.tables e below (s₁.setTop (mkF m 7 #[.val (.long p1), .second, .val (.long q2), .second, .val (.int i3), .val (.int j4), .unset, .unset, .unset, .unset, .unset, .unset, .unset, .unset, .unset, .unset, .unset, .unset, .unset, .unset, .unset, .unset, .unset, .unset, .unset] [(.int i3), (.long (p1 &&& (2305843009213693951 : Int64)))])) K
  refine Wlk.of (fun _ k => XS.bipush X0.here hx rfl (hb hby at_7) k) ?_
  show Wlk p.tables e below (s₁.setTop (mkF m 9 #[.val (.long p1), .second, .val (.long q2), .second, .val (.int i3), .val (.int j4), .unset, .unset, .unset, .unset, .unset, .unset, .unset, .unset, .unset, .unset, .unset, .unset, .unset, .unset, .unset, .unset, .unset, .unset, .unset] [(.int (63 : Int32)), (.int i3), (.long (p1 &&& (2305843009213693951 : Int64)))])) K
  refine Wlk.of (fun _ k => XS.iand X0.here hx rfl (hb hby at_9) rfl k) ?_
  show Wlk p.tables e below (s₁.setTop (mkF m 10 #[.val (.long p1), .second, .val (.long q2), .second, .val (.int i3), .val (.int j4), .unset, .unset, .unset, .unset, .unset, .unset, .unset, .unset, .unset, .unset, .unset, .unset, .unset, .unset, .unset, .unset, .unset, .unset, .unset] [(.int (i3 &&& (63 : Int32))), (.long (p1 &&& (2305843009213693951 : Int64)))])) K
  refine Wlk.of (fun _ k => XS.lushr X0.here hx rfl (hb hby at_10) rfl k) ?_
  show Wlk p.tables e below (s₁.setTop (mkF m 11 #[.val (.long p1), .second, .val (.long q2), .second, .val (.int i3), .val (.int j4), .unset, .unset, .unset, .unset, .unset, .unset, .unset, .unset, .unset, .unset, .unset, .unset, .unset, .unset, .unset, .unset, .unset, .unset, .unset] [(.long (((p1 &&& (2305843009213693951 : Int64)).toUInt64 >>> ((i3 &&& (63 : Int32)) &&& 0x3f).toInt64.toUInt64).toInt64))])) K
  refine Wlk.of (fun _ k => XS.lstore X0.here hx rfl (hb hby at_11) rfl (l' := #[.val (.long p1), .second, .val (.long q2), .second, .val (.int i3), .val (.int j4), .val (.long (((p1 &&& (2305843009213693951 : Int64)).toUInt64 >>> ((i3 &&& (63 : Int32)) &&& 0x3f).toInt64.toUInt64).toInt64)), .second, .unset, .unset, .unset, .unset, .unset, .unset, .unset, .unset, .unset, .unset, .unset, .unset, .unset, .unset, .unset, .unset, .unset]) rfl k) ?_
  show Wlk p.tables e below (s₁.setTop (mkF m 13 #[.val (.long p1), .second, .val (.long q2), .second, .val (.int i3), .val (.int j4), .val (.long (((p1 &&& (2305843009213693951 : Int64)).toUInt64 >>> ((i3 &&& (63 : Int32)) &&& 0x3f).toInt64.toUInt64).toInt64)), .second, .unset, .unset, .unset, .unset, .unset, .unset, .unset, .unset, .unset, .unset, .unset, .unset, .unset, .unset, .unset, .unset, .unset] [])) K
  generalize hv1 : (((p1 &&& (2305843009213693951 : Int64)).toUInt64 >>> ((i3 &&& (63 : Int32)) &&& 0x3f).toInt64.toUInt64).toInt64) = v1
  refine Wlk.of (fun _ k => XS.lloadN X0.here hx rfl (hb hby at_13) rfl k) ?_
  show Wlk p.tables e below (s₁.setTop (mkF m 14 #[.val (.long p1), .second, .val (.long q2), .second, .val (.int i3), .val (.int j4), .val (.long v1), .second, .unset, .unset, .unset, .unset, .unset, .unset, .unset, .unset, .unset, .unset, .unset, .unset, .unset, .unset, .unset, .unset, .unset] [(.long q2)])) K
  refine Wlk.of (fun _ k => X0.ldc2Long hx hown (mvT hZ (hw _ (List.mem_of_getElem? (i := 0) rfl))) (g := (mkF m 14 #[.val (.long p1), .second, .val (.long q2), .second, .val (.int i3), .val (.int j4), .val (.long v1), .second, .unset, .unset, .unset, .unset, .unset, .unset, .unset, .unset, .unset, .unset, .unset, .unset, .unset, .unset, .unset, .unset, .unset] [(.long q2)])) rfl (hb hby at_14) _ k) ?_
  show Wlk p.tables e below (s₁.setTop (mkF m 17 #[.val (.long p1), .second, .val (.long q2), .second, .val (.int i3), .val (.int j4), .val (.long v1), .second, .unset, .unset, .unset, .unset, .unset, .unset, .unset, .unset, .unset, .unset, .unset, .unset, .unset, .unset, .unset, .unset, .unset] [(.long (2305843009213693951 : Int64)), (.long q2)])) K
  refine Wlk.of (fun _ k => XS.land X0.here hx rfl (hb hby at_17) rfl k) ?_
  show Wlk p.tables e below (s₁.setTop (mkF m 18 #[.val (.long p1), .second, .val (.long q2), .second, .val (.int i3), .val (.int j4), .val (.long v1), .second, .unset, .unset, .unset, .unset, .unset, .unset, .unset, .unset, .unset, .unset, .unset, .unset, .unset, .unset, .unset, .unset, .unset] [(.long (q2 &&& (2305843009213693951 : Int64)))])) K
  refine Wlk.of (fun _ k => XS.iload X0.here hx rfl (hb hby at_18) rfl k) ?_
  show Wlk p.tables e below (s₁.setTop (mkF m 20 #[.val (.long p1), .second, .val (.long q2), .second, .val (.int i3), .val (.int j4), .val (.long v1), .second, .unset, .unset, .unset, .unset, .unset, .unset, .unset, .unset, .unset, .unset, .unset, .unset, .unset, .unset, .unset, .unset, .unset] [(.int j4), (.long (q2 &&& (2305843009213693951 : Int64)))])) K
  refine Wlk.of (fun _ k => XS.bipush X0.here hx rfl (hb hby at_20) k) ?_
  show Wlk p.tables e below (s₁.setTop (mkF m 22 #[.val (.long p1), .second, .val (.long q2), .second, .val (.int i3), .val (.int j4), .val (.long v1), .second, .unset, .unset, .unset, .unset, .unset, .unset, .unset, .unset, .unset, .unset, .unset, .unset, .unset, .unset, .unset, .unset, .unset] [(.int (63 : Int32)), (.int j4), (.long (q2 &&& (2305843009213693951 : Int64)))])) K
  refine Wlk.of (fun _ k => XS.iand X0.here hx rfl (hb hby at_22) rfl k) ?_
  show Wlk p.tables e below (s₁.setTop (mkF m 23 #[.val (.long p1), .second, .val (.long q2), .second, .val (.int i3), .val (.int j4), .val (.long v1), .second, .unset, .unset, .unset, .unset, .unset, .unset, .unset, .unset, .unset, .unset, .unset, .unset, .unset, .unset, .unset, .unset, .unset] [(.int (j4 &&& (63 : Int32))), (.long (q2 &&& (2305843009213693951 : Int64)))])) K
  refine Wlk.of (fun _ k => XS.lushr X0.here hx rfl (hb hby at_23) rfl k) ?_
  show Wlk p.tables e below (s₁.setTop (mkF m 24 #[.val (.long p1), .second, .val (.long q2), .second, .val (.int i3), .val (.int j4), .val (.long v1), .second, .unset, .unset, .unset, .unset, .unset, .unset, .unset, .unset, .unset, .unset, .unset, .unset, .unset, .unset, .unset, .unset, .unset] [(.long (((q2 &&& (2305843009213693951 : Int64)).toUInt64 >>> ((j4 &&& (63 : Int32)) &&& 0x3f).toInt64.toUInt64).toInt64))])) K
  refine Wlk.of (fun _ k => XS.lstore X0.here hx rfl (hb hby at_24) rfl (l' := #[.val (.long p1), .second, .val (.long q2), .second, .val (.int i3), .val (.int j4), .val (.long v1), .second, .val (.long (((q2 &&& (2305843009213693951 : Int64)).toUInt64 >>> ((j4 &&& (63 : Int32)) &&& 0x3f).toInt64.toUInt64).toInt64)), .second, .unset, .unset, .unset, .unset, .unset, .unset, .unset, .unset, .unset, .unset, .unset, .unset, .unset, .unset, .unset]) rfl k) ?_
  show Wlk p.tables e below (s₁.setTop (mkF m 26 #[.val (.long p1), .second, .val (.long q2), .second, .val (.int i3), .val (.int j4), .val (.long v1), .second, .val (.long (((q2 &&& (2305843009213693951 : Int64)).toUInt64 >>> ((j4 &&& (63 : Int32)) &&& 0x3f).toInt64.toUInt64).toInt64)), .second, .unset, .unset, .unset, .unset, .unset, .unset, .unset, .unset, .unset, .unset, .unset, .unset, .unset, .unset, .unset] [])) K
  generalize hv2 : (((q2 &&& (2305843009213693951 : Int64)).toUInt64 >>> ((j4 &&& (63 : Int32)) &&& 0x3f).toInt64.toUInt64).toInt64) = v2
  refine Wlk.of (fun _ k => XS.lload X0.here hx rfl (hb hby at_26) rfl k) ?_
  show Wlk p.tables e below (s₁.setTop (mkF m 28 #[.val (.long p1), .second, .val (.long q2), .second, .val (.int i3), .val (.int j4), .val (.long v1), .second, .val (.long v2), .second, .unset, .unset, .unset, .unset, .unset, .unset, .unset, .unset, .unset, .unset, .unset, .unset, .unset, .unset, .unset] [(.long v1)])) K
  refine Wlk.of (fun _ k => XS.l2dS X0.here hx rfl (hb hby at_28) rfl rfl k) ?_
  show Wlk p.tables e below (s₁.setTop (mkF m 29 #[.val (.long p1), .second, .val (.long q2), .second, .val (.int i3), .val (.int j4), .val (.long v1), .second, .val (.long v2), .second, .unset, .unset, .unset, .unset, .unset, .unset, .unset, .unset, .unset, .unset, .unset, .unset, .unset, .unset, .unset] [(.double (FP.l2d v1))])) K
  refine Wlk.of (fun _ k => XS.dstore X0.here hx rfl (hb hby at_29) rfl (l' := #[.val (.long p1), .second, .val (.long q2), .second, .val (.int i3), .val (.int j4), .val (.long v1), .second, .val (.long v2), .second, .val (.double (FP.l2d v1)), .second, .unset, .unset, .unset, .unset, .unset, .unset, .unset, .unset, .unset, .unset, .unset, .unset, .unset]) rfl k) ?_
  show Wlk p.tables e below (s₁.setTop (mkF m 31 #[.val (.long p1), .second, .val (.long q2), .second, .val (.int i3), .val (.int j4), .val (.long v1), .second, .val (.long v2), .second, .val (.double (FP.l2d v1)), .second, .unset, .unset, .unset, .unset, .unset, .unset, .unset, .unset, .unset, .unset, .unset, .unset, .unset] [])) K
  generalize hv3 : (FP.l2d v1) = v3
  refine Wlk.of (fun _ k => XS.lload X0.here hx rfl (hb hby at_31) rfl k) ?_
  show Wlk p.tables e below (s₁.setTop (mkF m 33 #[.val (.long p1), .second, .val (.long q2), .second, .val (.int i3), .val (.int j4), .val (.long v1), .second, .val (.long v2), .second, .val (.double v3), .second, .unset, .unset, .unset, .unset, .unset, .unset, .unset, .unset, .unset, .unset, .unset, .unset, .unset] [(.long v1)])) K
  refine Wlk.of (fun _ k => XS.dload X0.here hx rfl (hb hby at_33) rfl k) ?_
  show Wlk p.tables e below (s₁.setTop (mkF m 35 #[.val (.long p1), .second, .val (.long q2), .second, .val (.int i3), .val (.int j4), .val (.long v1), .second, .val (.long v2), .second, .val (.double v3), .second, .unset, .unset, .unset, .unset, .unset, .unset, .unset, .unset, .unset, .unset, .unset, .unset, .unset] [(.double v3), (.long v1)])) K
  refine Wlk.of (fun _ k => XS.d2lS X0.here hx rfl (hb hby at_35) rfl rfl k) ?_
  show Wlk p.tables e below (s₁.setTop (mkF m 36 #[.val (.long p1), .second, .val (.long q2), .second, .val (.int i3), .val (.int j4), .val (.long v1), .second, .val (.long v2), .second, .val (.double v3), .second, .unset, .unset, .unset, .unset, .unset, .unset, .unset, .unset, .unset, .unset, .unset, .unset, .unset] [(.long (FP.d2l v3)), (.long v1)])) K
  refine Wlk.of (fun _ k => XS.lsub X0.here hx rfl (hb hby at_36) rfl k) ?_
  show Wlk p.tables e below (s₁.setTop (mkF m 37 #[.val (.long p1), .second, .val (.long q2), .second, .val (.int i3), .val (.int j4), .val (.long v1), .second, .val (.long v2), .second, .val (.double v3), .second, .unset, .unset, .unset, .unset, .unset, .unset, .unset, .unset, .unset, .unset, .unset, .unset, .unset] [(.long (v1 - (FP.d2l v3)))])) K
  refine Wlk.of (fun _ k => XS.l2dS X0.here hx rfl (hb hby at_37) rfl rfl k) ?_
  show Wlk p.tables e below (s₁.setTop (mkF m 38 #[.val (.long p1), .second, .val (.long q2), .second, .val (.int i3), .val (.int j4), .val (.long v1), .second, .val (.long v2), .second, .val (.double v3), .second, .unset, .unset, .unset, .unset, .unset, .unset, .unset, .unset, .unset, .unset, .unset, .unset, .unset] [(.double (FP.l2d (v1 - (FP.d2l v3))))])) K
  refine Wlk.of (fun _ k => XS.dstore X0.here hx rfl (hb hby at_38) rfl (l' := #[.val (.long p1), .second, .val (.long q2), .second, .val (.int i3), .val (.int j4), .val (.long v1), .second, .val (.long v2), .second, .val (.double v3), .second, .val (.double (FP.l2d (v1 - (FP.d2l v3)))), .second, .unset, .unset, .unset, .unset, .unset, .unset, .unset, .unset, .unset, .unset, .unset]) rfl k) ?_
  show Wlk p.tables e below (s₁.setTop (mkF m 40 #[.val (.long p1), .second, .val (.long q2), .second, .val (.int i3), .val (.int j4), .val (.long v1), .second, .val (.long v2), .second, .val (.double v3), .second, .val (.double (FP.l2d (v1 - (FP.d2l v3)))), .second, .unset, .unset, .unset, .unset, .unset, .unset, .unset, .unset, .unset, .unset, .unset] [])) K
  generalize hv4 : (FP.l2d (v1 - (FP.d2l v3))) = v4
  refine Wlk.of (fun _ k => XS.lload X0.here hx rfl (hb hby at_40) rfl k) ?_
  show Wlk p.tables e below (s₁.setTop (mkF m 42 #[.val (.long p1), .second, .val (.long q2), .second, .val (.int i3), .val (.int j4), .val (.long v1), .second, .val (.long v2), .second, .val (.double v3), .second, .val (.double v4), .second, .unset, .unset, .unset, .unset, .unset, .unset, .unset, .unset, .unset, .unset, .unset] [(.long v2)])) K
  refine Wlk.of (fun _ k => XS.l2dS X0.here hx rfl (hb hby at_42) rfl rfl k) ?_
  show Wlk p.tables e below (s₁.setTop (mkF m 43 #[.val (.long p1), .second, .val (.long q2), .second, .val (.int i3), .val (.int j4), .val (.long v1), .second, .val (.long v2), .second, .val (.double v3), .second, .val (.double v4), .second, .unset, .unset, .unset, .unset, .unset, .unset, .unset, .unset, .unset, .unset, .unset] [(.double (FP.l2d v2))])) K
  refine Wlk.of (fun _ k => XS.dstore X0.here hx rfl (hb hby at_43) rfl (l' := #[.val (.long p1), .second, .val (.long q2), .second, .val (.int i3), .val (.int j4), .val (.long v1), .second, .val (.long v2), .second, .val (.double v3), .second, .val (.double v4), .second, .val (.double (FP.l2d v2)), .second, .unset, .unset, .unset, .unset, .unset, .unset, .unset, .unset, .unset]) rfl k) ?_
  show Wlk p.tables e below (s₁.setTop (mkF m 45 #[.val (.long p1), .second, .val (.long q2), .second, .val (.int i3), .val (.int j4), .val (.long v1), .second, .val (.long v2), .second, .val (.double v3), .second, .val (.double v4), .second, .val (.double (FP.l2d v2)), .second, .unset, .unset, .unset, .unset, .unset, .unset, .unset, .unset, .unset] [])) K
  generalize hv5 : (FP.l2d v2) = v5
  refine Wlk.of (fun _ k => XS.lload X0.here hx rfl (hb hby at_45) rfl k) ?_
  show Wlk p.tables e below (s₁.setTop (mkF m 47 #[.val (.long p1), .second, .val (.long q2), .second, .val (.int i3), .val (.int j4), .val (.long v1), .second, .val (.long v2), .second, .val (.double v3), .second, .val (.double v4), .second, .val (.double v5), .second, .unset, .unset, .unset, .unset, .unset, .unset, .unset, .unset, .unset] [(.long v2)])) K
  refine Wlk.of (fun _ k => XS.dload X0.here hx rfl (hb hby at_47) rfl k) ?_
  show Wlk p.tables e below (s₁.setTop (mkF m 49 #[.val (.long p1), .second, .val (.long q2), .second, .val (.int i3), .val (.int j4), .val (.long v1), .second, .val (.long v2), .second, .val (.double v3), .second, .val (.double v4), .second, .val (.double v5), .second, .unset, .unset, .unset, .unset, .unset, .unset, .unset, .unset, .unset] [(.double v5), (.long v2)])) K
  refine Wlk.of (fun _ k => XS.d2lS X0.here hx rfl (hb hby at_49) rfl rfl k) ?_
  show Wlk p.tables e below (s₁.setTop (mkF m 50 #[.val (.long p1), .second, .val (.long q2), .second, .val (.int i3), .val (.int j4), .val (.long v1), .second, .val (.long v2), .second, .val (.double v3), .second, .val (.double v4), .second, .val (.double v5), .second, .unset, .unset, .unset, .unset, .unset, .unset, .unset, .unset, .unset] [(.long (FP.d2l v5)), (.long v2)])) K
  refine Wlk.of (fun _ k => XS.lsub X0.here hx rfl (hb hby at_50) rfl k) ?_
  show Wlk p.tables e below (s₁.setTop (mkF m 51 #[.val (.long p1), .second, .val (.long q2), .second, .val (.int i3), .val (.int j4), .val (.long v1), .second, .val (.long v2), .second, .val (.double v3), .second, .val (.double v4), .second, .val (.double v5), .second, .unset, .unset, .unset, .unset, .unset, .unset, .unset, .unset, .unset] [(.long (v2 - (FP.d2l v5)))])) K
  refine Wlk.of (fun _ k => XS.l2dS X0.here hx rfl (hb hby at_51) rfl rfl k) ?_
  show Wlk p.tables e below (s₁.setTop (mkF m 52 #[.val (.long p1), .second, .val (.long q2), .second, .val (.int i3), .val (.int j4), .val (.long v1), .second, .val (.long v2), .second, .val (.double v3), .second, .val (.double v4), .second, .val (.double v5), .second, .unset, .unset, .unset, .unset, .unset, .unset, .unset, .unset, .unset] [(.double (FP.l2d (v2 - (FP.d2l v5))))])) K
  refine Wlk.of (fun _ k => XS.dstore X0.here hx rfl (hb hby at_52) rfl (l' := #[.val (.long p1), .second, .val (.long q2), .second, .val (.int i3), .val (.int j4), .val (.long v1), .second, .val (.long v2), .second, .val (.double v3), .second, .val (.double v4), .second, .val (.double v5), .second, .val (.double (FP.l2d (v2 - (FP.d2l v5)))), .second, .unset, .unset, .unset, .unset, .unset, .unset, .unset]) rfl k) ?_
  show Wlk p.tables e below (s₁.setTop (mkF m 54 #[.val (.long p1), .second, .val (.long q2), .second, .val (.int i3), .val (.int j4), .val (.long v1), .second, .val (.long v2), .second, .val (.double v3), .second, .val (.double v4), .second, .val (.double v5), .second, .val (.double (FP.l2d (v2 - (FP.d2l v5)))), .second, .unset, .unset, .unset, .unset, .unset, .unset, .unset] [])) K
  generalize hv6 : (FP.l2d (v2 - (FP.d2l v5))) = v6
  refine Wlk.of (fun _ k => XS.lload X0.here hx rfl (hb hby at_54) rfl k) ?_
  show Wlk p.tables e below (s₁.setTop (mkF m 56 #[.val (.long p1), .second, .val (.long q2), .second, .val (.int i3), .val (.int j4), .val (.long v1), .second, .val (.long v2), .second, .val (.double v3), .second, .val (.double v4), .second, .val (.double v5), .second, .val (.double v6), .second, .unset, .unset, .unset, .unset, .unset, .unset, .unset] [(.long v1)])) K
  refine Wlk.of (fun _ k => XS.lload X0.here hx rfl (hb hby at_56) rfl k) ?_
  show Wlk p.tables e below (s₁.setTop (mkF m 58 #[.val (.long p1), .second, .val (.long q2), .second, .val (.int i3), .val (.int j4), .val (.long v1), .second, .val (.long v2), .second, .val (.double v3), .second, .val (.double v4), .second, .val (.double v5), .second, .val (.double v6), .second, .unset, .unset, .unset, .unset, .unset, .unset, .unset] [(.long v2), (.long v1)])) K
  refine Wlk.of (fun _ k => XS.ladd X0.here hx rfl (hb hby at_58) rfl k) ?_
  show Wlk p.tables e below (s₁.setTop (mkF m 59 #[.val (.long p1), .second, .val (.long q2), .second, .val (.int i3), .val (.int j4), .val (.long v1), .second, .val (.long v2), .second, .val (.double v3), .second, .val (.double v4), .second, .val (.double v5), .second, .val (.double v6), .second, .unset, .unset, .unset, .unset, .unset, .unset, .unset] [(.long (v1 + v2))])) K
  refine Wlk.of (fun _ k => XS.lstore X0.here hx rfl (hb hby at_59) rfl (l' := #[.val (.long p1), .second, .val (.long q2), .second, .val (.int i3), .val (.int j4), .val (.long v1), .second, .val (.long v2), .second, .val (.double v3), .second, .val (.double v4), .second, .val (.double v5), .second, .val (.double v6), .second, .val (.long (v1 + v2)), .second, .unset, .unset, .unset, .unset, .unset]) rfl k) ?_
  show Wlk p.tables e below (s₁.setTop (mkF m 61 #[.val (.long p1), .second, .val (.long q2), .second, .val (.int i3), .val (.int j4), .val (.long v1), .second, .val (.long v2), .second, .val (.double v3), .second, .val (.double v4), .second, .val (.double v5), .second, .val (.double v6), .second, .val (.long (v1 + v2)), .second, .unset, .unset, .unset, .unset, .unset] [])) K
  generalize hv7 : (v1 + v2) = v7
  refine Wlk.of (fun _ k => XS.lload X0.here hx rfl (hb hby at_61) rfl k) ?_
  show Wlk p.tables e below (s₁.setTop (mkF m 63 #[.val (.long p1), .second, .val (.long q2), .second, .val (.int i3), .val (.int j4), .val (.long v1), .second, .val (.long v2), .second, .val (.double v3), .second, .val (.double v4), .second, .val (.double v5), .second, .val (.double v6), .second, .val (.long v7), .second, .unset, .unset, .unset, .unset, .unset] [(.long v7)])) K
  refine Wlk.of (fun _ k => XS.l2dS X0.here hx rfl (hb hby at_63) rfl rfl k) ?_
  show Wlk p.tables e below (s₁.setTop (mkF m 64 #[.val (.long p1), .second, .val (.long q2), .second, .val (.int i3), .val (.int j4), .val (.long v1), .second, .val (.long v2), .second, .val (.double v3), .second, .val (.double v4), .second, .val (.double v5), .second, .val (.double v6), .second, .val (.long v7), .second, .unset, .unset, .unset, .unset, .unset] [(.double (FP.l2d v7))])) K
  refine Wlk.of (fun _ k => XS.dstore X0.here hx rfl (hb hby at_64) rfl (l' := #[.val (.long p1), .second, .val (.long q2), .second, .val (.int i3), .val (.int j4), .val (.long v1), .second, .val (.long v2), .second, .val (.double v3), .second, .val (.double v4), .second, .val (.double v5), .second, .val (.double v6), .second, .val (.long v7), .second, .val (.double (FP.l2d v7)), .second, .unset, .unset, .unset]) rfl k) ?_
  show Wlk p.tables e below (s₁.setTop (mkF m 66 #[.val (.long p1), .second, .val (.long q2), .second, .val (.int i3), .val (.int j4), .val (.long v1), .second, .val (.long v2), .second, .val (.double v3), .second, .val (.double v4), .second, .val (.double v5), .second, .val (.double v6), .second, .val (.long v7), .second, .val (.double (FP.l2d v7)), .second, .unset, .unset, .unset] [])) K
  generalize hv8 : (FP.l2d v7) = v8
  refine Wlk.of (fun _ k => XS.lload X0.here hx rfl (hb hby at_66) rfl k) ?_
  show Wlk p.tables e below (s₁.setTop (mkF m 68 #[.val (.long p1), .second, .val (.long q2), .second, .val (.int i3), .val (.int j4), .val (.long v1), .second, .val (.long v2), .second, .val (.double v3), .second, .val (.double v4), .second, .val (.double v5), .second, .val (.double v6), .second, .val (.long v7), .second, .val (.double v8), .second, .unset, .unset, .unset] [(.long v7)])) K
  refine Wlk.of (fun _ k => XS.dload X0.here hx rfl (hb hby at_68) rfl k) ?_
  show Wlk p.tables e below (s₁.setTop (mkF m 70 #[.val (.long p1), .second, .val (.long q2), .second, .val (.int i3), .val (.int j4), .val (.long v1), .second, .val (.long v2), .second, .val (.double v3), .second, .val (.double v4), .second, .val (.double v5), .second, .val (.double v6), .second, .val (.long v7), .second, .val (.double v8), .second, .unset, .unset, .unset] [(.double v8), (.long v7)])) K
  refine Wlk.of (fun _ k => XS.d2lS X0.here hx rfl (hb hby at_70) rfl rfl k) ?_
  show Wlk p.tables e below (s₁.setTop (mkF m 71 #[.val (.long p1), .second, .val (.long q2), .second, .val (.int i3), .val (.int j4), .val (.long v1), .second, .val (.long v2), .second, .val (.double v3), .second, .val (.double v4), .second, .val (.double v5), .second, .val (.double v6), .second, .val (.long v7), .second, .val (.double v8), .second, .unset, .unset, .unset] [(.long (FP.d2l v8)), (.long v7)])) K
  refine Wlk.of (fun _ k => XS.lsub X0.here hx rfl (hb hby at_71) rfl k) ?_
  show Wlk p.tables e below (s₁.setTop (mkF m 72 #[.val (.long p1), .second, .val (.long q2), .second, .val (.int i3), .val (.int j4), .val (.long v1), .second, .val (.long v2), .second, .val (.double v3), .second, .val (.double v4), .second, .val (.double v5), .second, .val (.double v6), .second, .val (.long v7), .second, .val (.double v8), .second, .unset, .unset, .unset] [(.long (v7 - (FP.d2l v8)))])) K
  refine Wlk.of (fun _ k => XS.l2dS X0.here hx rfl (hb hby at_72) rfl rfl k) ?_
  show Wlk p.tables e below (s₁.setTop (mkF m 73 #[.val (.long p1), .second, .val (.long q2), .second, .val (.int i3), .val (.int j4), .val (.long v1), .second, .val (.long v2), .second, .val (.double v3), .second, .val (.double v4), .second, .val (.double v5), .second, .val (.double v6), .second, .val (.long v7), .second, .val (.double v8), .second, .unset, .unset, .unset] [(.double (FP.l2d (v7 - (FP.d2l v8))))])) K
  refine Wlk.of (fun _ k => XS.dstore X0.here hx rfl (hb hby at_73) rfl (l' := #[.val (.long p1), .second, .val (.long q2), .second, .val (.int i3), .val (.int j4), .val (.long v1), .second, .val (.long v2), .second, .val (.double v3), .second, .val (.double v4), .second, .val (.double v5), .second, .val (.double v6), .second, .val (.long v7), .second, .val (.double v8), .second, .val (.double (FP.l2d (v7 - (FP.d2l v8)))), .second, .unset]) rfl k) ?_
  show Wlk p.tables e below (s₁.setTop (mkF m 75 #[.val (.long p1), .second, .val (.long q2), .second, .val (.int i3), .val (.int j4), .val (.long v1), .second, .val (.long v2), .second, .val (.double v3), .second, .val (.double v4), .second, .val (.double v5), .second, .val (.double v6), .second, .val (.long v7), .second, .val (.double v8), .second, .val (.double (FP.l2d (v7 - (FP.d2l v8)))), .second, .unset] [])) K
  generalize hv9 : (FP.l2d (v7 - (FP.d2l v8))) = v9
  obtain ⟨n3, n9, n17, n18, n23, n24, n35, n36, m3, m14, m15, hc1, hc2⟩ := own_law (own_mask hv1) (own_mask hv2) hv3 hv4 hv5 hv6 hv7 hv8 hv9
  obtain ⟨T10, h10, X10, e10, E10, A10, D10, -, st10⟩ := newO X0 hx hZ hown (hw _ (List.mem_of_getElem? (i := 1) rfl)) (hw _ (List.mem_of_getElem? (i := 2) rfl)) (hw _ (List.mem_of_getElem? (i := 3) rfl)) e0 (g := (mkF m 75 #[.val (.long p1), .second, .val (.long q2), .second, .val (.int i3), .val (.int j4), .val (.long v1), .second, .val (.long v2), .second, .val (.double v3), .second, .val (.double v4), .second, .val (.double v5), .second, .val (.double v6), .second, .val (.long v7), .second, .val (.double v8), .second, .val (.double v9), .second, .unset] [])) rfl (hb hby at_75) (by decide) (by decide)
  obtain ⟨b10, g10⟩ : ∃ z, z = h0.size := ⟨_, rfl⟩
  rw [← g10] at A10 D10 st10
  have sz_b10 : h0.size ≤ b10 := Nat.le_trans K0.1 (Nat.le_of_eq g10.symm)
  have g_b10 : n0 ≤ b10 := Nat.le_trans Z0 sz_b10
  have K12 : Keep h0 h10 [] := K0.ext E10
  have F_b10_high : Fld Z h10 b10 "com/example/vanishing_messages/vanishingmessages/analysis/DoubleWord" "high" "D" (.double (0 : UInt64)) := D10 (Or.inl (hw _ (List.mem_of_getElem? (i := 20) rfl))) (ty := .double) (by decide)
  have F_b10_low : Fld Z h10 b10 "com/example/vanishing_messages/vanishingmessages/analysis/DoubleWord" "low" "D" (.double (0 : UInt64)) := D10 (Or.inl (hw _ (List.mem_of_getElem? (i := 22) rfl))) (ty := .double) (by decide)
  refine Wlk.of (fun _ k => st10 _ k) ?_
  show Wlk p.tables e below (T10.setTop (mkF m 78 #[.val (.long p1), .second, .val (.long q2), .second, .val (.int i3), .val (.int j4), .val (.long v1), .second, .val (.long v2), .second, .val (.double v3), .second, .val (.double v4), .second, .val (.double v5), .second, .val (.double v6), .second, .val (.long v7), .second, .val (.double v8), .second, .val (.double v9), .second, .unset] [(.ref b10)])) K
  refine Wlk.of (fun _ k => XS.dup X10.here hx rfl (hb hby at_78) rfl rfl k) ?_
  show Wlk p.tables e below (T10.setTop (mkF m 79 #[.val (.long p1), .second, .val (.long q2), .second, .val (.int i3), .val (.int j4), .val (.long v1), .second, .val (.long v2), .second, .val (.double v3), .second, .val (.double v4), .second, .val (.double v5), .second, .val (.double v6), .second, .val (.long v7), .second, .val (.double v8), .second, .val (.double v9), .second, .unset] [(.ref b10), (.ref b10)])) K
  obtain ⟨v13, T13, L13, X13, q13, st13⟩ := Ctr.special (rm1 l Z a0 hw b10 h10 n0 (Nat.le_trans Z0 K12.1) ) X10 hx hZ e10 hown rfl (hw _ (List.mem_of_getElem? (i := 4) rfl)) (hw _ (List.mem_of_getElem? (i := 5) rfl)) (hw _ (List.mem_of_getElem? (i := 3) rfl)) (hw _ (List.mem_of_getElem? (i := 6) rfl)) (by decide) pd_52 (g := (mkF m 79 #[.val (.long p1), .second, .val (.long q2), .second, .val (.int i3), .val (.int j4), .val (.long v1), .second, .val (.long v2), .second, .val (.double v3), .second, .val (.double v4), .second, .val (.double v5), .second, .val (.double v6), .second, .val (.long v7), .second, .val (.double v8), .second, .val (.double v9), .second, .unset] [(.ref b10), (.ref b10)])) rfl (by rw [hml]; rfl) (a := b10) (argsL := []) (rest := [(.ref b10)]) rfl rfl rfl (W := 1) (by show 2 * 0 + _ ≤ _; exact Nat.le_of_eq rfl) (by decide) (by decide) (hb hby at_79) (by decide) (by decide)
  obtain ⟨rfl, N13q, hh13⟩ := q13
  have N14 := Fr.app N0 N13q
  refine Wlk.of (fun _ k => st13 _ k) ?_
  show Wlk p.tables e below (T13.setTop (mkF m 82 #[.val (.long p1), .second, .val (.long q2), .second, .val (.int i3), .val (.int j4), .val (.long v1), .second, .val (.long v2), .second, .val (.double v3), .second, .val (.double v4), .second, .val (.double v5), .second, .val (.double v6), .second, .val (.long v7), .second, .val (.double v8), .second, .val (.double v9), .second, .unset] [(.ref b10)])) K
  refine Wlk.of (fun _ k => XS.astore X13.here hx rfl (hb hby at_82) rfl rfl (l' := #[.val (.long p1), .second, .val (.long q2), .second, .val (.int i3), .val (.int j4), .val (.long v1), .second, .val (.long v2), .second, .val (.double v3), .second, .val (.double v4), .second, .val (.double v5), .second, .val (.double v6), .second, .val (.long v7), .second, .val (.double v8), .second, .val (.double v9), .second, .val (.ref b10)]) rfl k) ?_
  show Wlk p.tables e below (T13.setTop (mkF m 84 #[.val (.long p1), .second, .val (.long q2), .second, .val (.int i3), .val (.int j4), .val (.long v1), .second, .val (.long v2), .second, .val (.double v3), .second, .val (.double v4), .second, .val (.double v5), .second, .val (.double v6), .second, .val (.long v7), .second, .val (.double v8), .second, .val (.double v9), .second, .val (.ref b10)] [])) K
  refine Wlk.of (fun _ k => XS.aload X13.here hx rfl (hb hby at_84) rfl rfl k) ?_
  show Wlk p.tables e below (T13.setTop (mkF m 86 #[.val (.long p1), .second, .val (.long q2), .second, .val (.int i3), .val (.int j4), .val (.long v1), .second, .val (.long v2), .second, .val (.double v3), .second, .val (.double v4), .second, .val (.double v5), .second, .val (.double v6), .second, .val (.long v7), .second, .val (.double v8), .second, .val (.double v9), .second, .val (.ref b10)] [(.ref b10)])) K
  refine Wlk.of (fun _ k => XS.dload X13.here hx rfl (hb hby at_86) rfl k) ?_
  show Wlk p.tables e below (T13.setTop (mkF m 88 #[.val (.long p1), .second, .val (.long q2), .second, .val (.int i3), .val (.int j4), .val (.long v1), .second, .val (.long v2), .second, .val (.double v3), .second, .val (.double v4), .second, .val (.double v5), .second, .val (.double v6), .second, .val (.long v7), .second, .val (.double v8), .second, .val (.double v9), .second, .val (.ref b10)] [(.double v3), (.ref b10)])) K
  refine Wlk.of (fun _ k => XS.dload X13.here hx rfl (hb hby at_88) rfl k) ?_
  show Wlk p.tables e below (T13.setTop (mkF m 90 #[.val (.long p1), .second, .val (.long q2), .second, .val (.int i3), .val (.int j4), .val (.long v1), .second, .val (.long v2), .second, .val (.double v3), .second, .val (.double v4), .second, .val (.double v5), .second, .val (.double v6), .second, .val (.long v7), .second, .val (.double v8), .second, .val (.double v9), .second, .val (.ref b10)] [(.double v4), (.double v3), (.ref b10)])) K
  refine Wlk.of (fun _ k => XS.dload X13.here hx rfl (hb hby at_90) rfl k) ?_
  show Wlk p.tables e below (T13.setTop (mkF m 92 #[.val (.long p1), .second, .val (.long q2), .second, .val (.int i3), .val (.int j4), .val (.long v1), .second, .val (.long v2), .second, .val (.double v3), .second, .val (.double v4), .second, .val (.double v5), .second, .val (.double v6), .second, .val (.long v7), .second, .val (.double v8), .second, .val (.double v9), .second, .val (.ref b10)] [(.double v5), (.double v4), (.double v3), (.ref b10)])) K
  refine Wlk.of (fun _ k => XS.dload X13.here hx rfl (hb hby at_92) rfl k) ?_
  show Wlk p.tables e below (T13.setTop (mkF m 94 #[.val (.long p1), .second, .val (.long q2), .second, .val (.int i3), .val (.int j4), .val (.long v1), .second, .val (.long v2), .second, .val (.double v3), .second, .val (.double v4), .second, .val (.double v5), .second, .val (.double v6), .second, .val (.long v7), .second, .val (.double v8), .second, .val (.double v9), .second, .val (.ref b10)] [(.double v6), (.double v5), (.double v4), (.double v3), (.ref b10)])) K
  obtain ⟨v15, T15, L15, X15, q15, st15⟩ := Ctr.virtual (y := (⟨"com/example/vanishing_messages/vanishingmessages/analysis/DoubleWord", "add", "(DDDD)V"⟩ : MethodName)) (rm3 l Z a0 hw b10 v3 v4 v5 v6 ((.double (0 : UInt64))) ((.double (0 : UInt64))) h10 n0 (Nat.le_trans Z0 K12.1) A10 F_b10_high F_b10_low g_b10 n3 n9 n17 n18 n23 n24 n35 n36 m3 m14 m15) X13 hx hZ hh13 hown (hw _ (List.mem_of_getElem? (i := 10) rfl)) (hw _ (List.mem_of_getElem? (i := 11) rfl)) (notFace_of_selects (args := #[]) (mvT hZ (hw _ (List.mem_of_getElem? (i := 13) rfl)))) (hw _ (List.mem_of_getElem? (i := 13) rfl)) (hw _ (List.mem_of_getElem? (i := 12) rfl)) (hw _ (List.mem_of_getElem? (i := 3) rfl)) (hw _ (List.mem_of_getElem? (i := 14) rfl)) (by decide) A10 pd_53 (g := (mkF m 94 #[.val (.long p1), .second, .val (.long q2), .second, .val (.int i3), .val (.int j4), .val (.long v1), .second, .val (.long v2), .second, .val (.double v3), .second, .val (.double v4), .second, .val (.double v5), .second, .val (.double v6), .second, .val (.long v7), .second, .val (.double v8), .second, .val (.double v9), .second, .val (.ref b10)] [(.double v6), (.double v5), (.double v4), (.double v3), (.ref b10)])) rfl (by rw [hml]; rfl) (argsL := [(.double v3), (.double v4), (.double v5), (.double v6)]) (rest := []) rfl rfl rfl (W := 0) (by show 2 * 0 + _ ≤ _; exact Nat.le_of_eq rfl) (by decide) (by decide) (hb hby at_94) (by decide) (by decide)
  obtain ⟨rfl, N15q, K15q, p15_0, p15_1⟩ := q15
  have N16 := Fr.app N14 N15q
  refine Wlk.of (fun _ k => st15 _ k) ?_
  have K17 : Keep h0 T15.heap [] := K12.trans K15q (allS (Or.inr sz_b10) all0)
  show Wlk p.tables e below (T15.setTop (mkF m 97 #[.val (.long p1), .second, .val (.long q2), .second, .val (.int i3), .val (.int j4), .val (.long v1), .second, .val (.long v2), .second, .val (.double v3), .second, .val (.double v4), .second, .val (.double v5), .second, .val (.double v6), .second, .val (.long v7), .second, .val (.double v8), .second, .val (.double v9), .second, .val (.ref b10)] [])) K
  refine Wlk.of (fun _ k => XS.aload X15.here hx rfl (hb hby at_97) rfl rfl k) ?_
  show Wlk p.tables e below (T15.setTop (mkF m 99 #[.val (.long p1), .second, .val (.long q2), .second, .val (.int i3), .val (.int j4), .val (.long v1), .second, .val (.long v2), .second, .val (.double v3), .second, .val (.double v4), .second, .val (.double v5), .second, .val (.double v6), .second, .val (.long v7), .second, .val (.double v8), .second, .val (.double v9), .second, .val (.ref b10)] [(.ref b10)])) K
  have f18 : Exa Z T15.heap b10 "com/example/vanishing_messages/vanishingmessages/analysis/DoubleWord" := (A10.keep K15q)
  obtain ⟨v19, T19, L19, X19, q19, st19⟩ := Ctr.virtual (y := (⟨"com/example/vanishing_messages/vanishingmessages/analysis/DoubleWord", "high", "()D"⟩ : MethodName)) (rm5 l Z a0 hw b10 ((FP.dadd (FP.dadd v3 v5) (FP.dadd (FP.dadd (FP.dsub v3 (FP.dsub (FP.dadd v3 v5) (FP.dsub (FP.dadd v3 v5) v3))) (FP.dsub v5 (FP.dsub (FP.dadd v3 v5) v3))) (FP.dadd v4 v6)))) T15.heap n0 (Nat.le_trans Z0 K17.1) p15_0) X15 hx hZ rfl hown (hw _ (List.mem_of_getElem? (i := 23) rfl)) (hw _ (List.mem_of_getElem? (i := 24) rfl)) (notFace_of_selects (args := #[]) (mvT hZ (hw _ (List.mem_of_getElem? (i := 26) rfl)))) (hw _ (List.mem_of_getElem? (i := 26) rfl)) (hw _ (List.mem_of_getElem? (i := 25) rfl)) (hw _ (List.mem_of_getElem? (i := 3) rfl)) (hw _ (List.mem_of_getElem? (i := 27) rfl)) (by decide) f18 pd_54 (g := (mkF m 99 #[.val (.long p1), .second, .val (.long q2), .second, .val (.int i3), .val (.int j4), .val (.long v1), .second, .val (.long v2), .second, .val (.double v3), .second, .val (.double v4), .second, .val (.double v5), .second, .val (.double v6), .second, .val (.long v7), .second, .val (.double v8), .second, .val (.double v9), .second, .val (.ref b10)] [(.ref b10)])) rfl (by rw [hml]; rfl) (argsL := []) (rest := []) rfl rfl rfl (W := 0) (by show 2 * 0 + _ ≤ _; exact Nat.le_of_eq rfl) (by decide) (by decide) (hb hby at_99) (by decide) (by decide)
  obtain ⟨rfl, N19q, hh19⟩ := q19
  have N20 := Fr.app N16 N19q
  refine Wlk.of (fun _ k => st19 _ k) ?_
  show Wlk p.tables e below (T19.setTop (mkF m 102 #[.val (.long p1), .second, .val (.long q2), .second, .val (.int i3), .val (.int j4), .val (.long v1), .second, .val (.long v2), .second, .val (.double v3), .second, .val (.double v4), .second, .val (.double v5), .second, .val (.double v6), .second, .val (.long v7), .second, .val (.double v8), .second, .val (.double v9), .second, .val (.ref b10)] [(.double (FP.dadd (FP.dadd v3 v5) (FP.dadd (FP.dadd (FP.dsub v3 (FP.dsub (FP.dadd v3 v5) (FP.dsub (FP.dadd v3 v5) v3))) (FP.dsub v5 (FP.dsub (FP.dadd v3 v5) v3))) (FP.dadd v4 v6))))])) K
  refine Wlk.of (fun _ k => XS.dload X19.here hx rfl (hb hby at_102) rfl k) ?_
  show Wlk p.tables e below (T19.setTop (mkF m 104 #[.val (.long p1), .second, .val (.long q2), .second, .val (.int i3), .val (.int j4), .val (.long v1), .second, .val (.long v2), .second, .val (.double v3), .second, .val (.double v4), .second, .val (.double v5), .second, .val (.double v6), .second, .val (.long v7), .second, .val (.double v8), .second, .val (.double v9), .second, .val (.ref b10)] [(.double v8), (.double (FP.dadd (FP.dadd v3 v5) (FP.dadd (FP.dadd (FP.dsub v3 (FP.dsub (FP.dadd v3 v5) (FP.dsub (FP.dadd v3 v5) v3))) (FP.dsub v5 (FP.dsub (FP.dadd v3 v5) v3))) (FP.dadd v4 v6))))])) K
  refine Wlk.of (fun _ k => XS.dcmpS X19.here hx rfl (hb hby at_104) rfl rfl k) ?_
  show Wlk p.tables e below (T19.setTop (mkF m 105 #[.val (.long p1), .second, .val (.long q2), .second, .val (.int i3), .val (.int j4), .val (.long v1), .second, .val (.long v2), .second, .val (.double v3), .second, .val (.double v4), .second, .val (.double v5), .second, .val (.double v6), .second, .val (.long v7), .second, .val (.double v8), .second, .val (.double v9), .second, .val (.ref b10)] [(.int (cmpValue (FP.dcmp (FP.dadd (FP.dadd v3 v5) (FP.dadd (FP.dadd (FP.dsub v3 (FP.dsub (FP.dadd v3 v5) (FP.dsub (FP.dadd v3 v5) v3))) (FP.dsub v5 (FP.dsub (FP.dadd v3 v5) v3))) (FP.dadd v4 v6))) v8) .l))])) K
  refine Wlk.of (fun _ k => XS.ifNo X19.here hx rfl (hb hby at_105) rfl ((if0 _ _).trans (teq (show (cmpValue (FP.dcmp (FP.dadd (FP.dadd v3 v5) (FP.dadd (FP.dadd (FP.dsub v3 (FP.dsub (FP.dadd v3 v5) (FP.dsub (FP.dadd v3 v5) v3))) (FP.dsub v5 (FP.dsub (FP.dadd v3 v5) v3))) (FP.dadd v4 v6))) v8) .l) = (0 : Int32) by rw [hc1]; rfl)).2) k) ?_
  show Wlk p.tables e below (T19.setTop (mkF m 108 #[.val (.long p1), .second, .val (.long q2), .second, .val (.int i3), .val (.int j4), .val (.long v1), .second, .val (.long v2), .second, .val (.double v3), .second, .val (.double v4), .second, .val (.double v5), .second, .val (.double v6), .second, .val (.long v7), .second, .val (.double v8), .second, .val (.double v9), .second, .val (.ref b10)] [])) K
  refine Wlk.of (fun _ k => XS.aload X19.here hx rfl (hb hby at_108) rfl rfl k) ?_
  show Wlk p.tables e below (T19.setTop (mkF m 110 #[.val (.long p1), .second, .val (.long q2), .second, .val (.int i3), .val (.int j4), .val (.long v1), .second, .val (.long v2), .second, .val (.double v3), .second, .val (.double v4), .second, .val (.double v5), .second, .val (.double v6), .second, .val (.long v7), .second, .val (.double v8), .second, .val (.double v9), .second, .val (.ref b10)] [(.ref b10)])) K
  obtain ⟨v21, T21, L21, X21, q21, st21⟩ := Ctr.virtual (y := (⟨"com/example/vanishing_messages/vanishingmessages/analysis/DoubleWord", "low", "()D"⟩ : MethodName)) (rm6 l Z a0 hw b10 ((FP.dsub (FP.dadd (FP.dadd (FP.dsub v3 (FP.dsub (FP.dadd v3 v5) (FP.dsub (FP.dadd v3 v5) v3))) (FP.dsub v5 (FP.dsub (FP.dadd v3 v5) v3))) (FP.dadd v4 v6)) (FP.dsub (FP.dadd (FP.dadd v3 v5) (FP.dadd (FP.dadd (FP.dsub v3 (FP.dsub (FP.dadd v3 v5) (FP.dsub (FP.dadd v3 v5) v3))) (FP.dsub v5 (FP.dsub (FP.dadd v3 v5) v3))) (FP.dadd v4 v6))) (FP.dadd v3 v5)))) T15.heap n0 (Nat.le_trans Z0 K17.1) p15_1) X19 hx hZ hh19 hown (hw _ (List.mem_of_getElem? (i := 28) rfl)) (hw _ (List.mem_of_getElem? (i := 29) rfl)) (notFace_of_selects (args := #[]) (mvT hZ (hw _ (List.mem_of_getElem? (i := 31) rfl)))) (hw _ (List.mem_of_getElem? (i := 31) rfl)) (hw _ (List.mem_of_getElem? (i := 30) rfl)) (hw _ (List.mem_of_getElem? (i := 3) rfl)) (hw _ (List.mem_of_getElem? (i := 32) rfl)) (by decide) f18 pd_54 (g := (mkF m 110 #[.val (.long p1), .second, .val (.long q2), .second, .val (.int i3), .val (.int j4), .val (.long v1), .second, .val (.long v2), .second, .val (.double v3), .second, .val (.double v4), .second, .val (.double v5), .second, .val (.double v6), .second, .val (.long v7), .second, .val (.double v8), .second, .val (.double v9), .second, .val (.ref b10)] [(.ref b10)])) rfl (by rw [hml]; rfl) (argsL := []) (rest := []) rfl rfl rfl (W := 0) (by show 2 * 0 + _ ≤ _; exact Nat.le_of_eq rfl) (by decide) (by decide) (hb hby at_110) (by decide) (by decide)
  obtain ⟨rfl, N21q, hh21⟩ := q21
  have N22 := Fr.app N20 N21q
  refine Wlk.of (fun _ k => st21 _ k) ?_
  show Wlk p.tables e below (T21.setTop (mkF m 113 #[.val (.long p1), .second, .val (.long q2), .second, .val (.int i3), .val (.int j4), .val (.long v1), .second, .val (.long v2), .second, .val (.double v3), .second, .val (.double v4), .second, .val (.double v5), .second, .val (.double v6), .second, .val (.long v7), .second, .val (.double v8), .second, .val (.double v9), .second, .val (.ref b10)] [(.double (FP.dsub (FP.dadd (FP.dadd (FP.dsub v3 (FP.dsub (FP.dadd v3 v5) (FP.dsub (FP.dadd v3 v5) v3))) (FP.dsub v5 (FP.dsub (FP.dadd v3 v5) v3))) (FP.dadd v4 v6)) (FP.dsub (FP.dadd (FP.dadd v3 v5) (FP.dadd (FP.dadd (FP.dsub v3 (FP.dsub (FP.dadd v3 v5) (FP.dsub (FP.dadd v3 v5) v3))) (FP.dsub v5 (FP.dsub (FP.dadd v3 v5) v3))) (FP.dadd v4 v6))) (FP.dadd v3 v5))))])) K
  refine Wlk.of (fun _ k => XS.dload X21.here hx rfl (hb hby at_113) rfl k) ?_
  show Wlk p.tables e below (T21.setTop (mkF m 115 #[.val (.long p1), .second, .val (.long q2), .second, .val (.int i3), .val (.int j4), .val (.long v1), .second, .val (.long v2), .second, .val (.double v3), .second, .val (.double v4), .second, .val (.double v5), .second, .val (.double v6), .second, .val (.long v7), .second, .val (.double v8), .second, .val (.double v9), .second, .val (.ref b10)] [(.double v9), (.double (FP.dsub (FP.dadd (FP.dadd (FP.dsub v3 (FP.dsub (FP.dadd v3 v5) (FP.dsub (FP.dadd v3 v5) v3))) (FP.dsub v5 (FP.dsub (FP.dadd v3 v5) v3))) (FP.dadd v4 v6)) (FP.dsub (FP.dadd (FP.dadd v3 v5) (FP.dadd (FP.dadd (FP.dsub v3 (FP.dsub (FP.dadd v3 v5) (FP.dsub (FP.dadd v3 v5) v3))) (FP.dsub v5 (FP.dsub (FP.dadd v3 v5) v3))) (FP.dadd v4 v6))) (FP.dadd v3 v5))))])) K
  refine Wlk.of (fun _ k => XS.dcmpS X21.here hx rfl (hb hby at_115) rfl rfl k) ?_
  show Wlk p.tables e below (T21.setTop (mkF m 116 #[.val (.long p1), .second, .val (.long q2), .second, .val (.int i3), .val (.int j4), .val (.long v1), .second, .val (.long v2), .second, .val (.double v3), .second, .val (.double v4), .second, .val (.double v5), .second, .val (.double v6), .second, .val (.long v7), .second, .val (.double v8), .second, .val (.double v9), .second, .val (.ref b10)] [(.int (cmpValue (FP.dcmp (FP.dsub (FP.dadd (FP.dadd (FP.dsub v3 (FP.dsub (FP.dadd v3 v5) (FP.dsub (FP.dadd v3 v5) v3))) (FP.dsub v5 (FP.dsub (FP.dadd v3 v5) v3))) (FP.dadd v4 v6)) (FP.dsub (FP.dadd (FP.dadd v3 v5) (FP.dadd (FP.dadd (FP.dsub v3 (FP.dsub (FP.dadd v3 v5) (FP.dsub (FP.dadd v3 v5) v3))) (FP.dsub v5 (FP.dsub (FP.dadd v3 v5) v3))) (FP.dadd v4 v6))) (FP.dadd v3 v5))) v9) .l))])) K
  refine Wlk.of (fun _ k => XS.ifNo X21.here hx rfl (hb hby at_116) rfl ((if0 _ _).trans (teq (show (cmpValue (FP.dcmp (FP.dsub (FP.dadd (FP.dadd (FP.dsub v3 (FP.dsub (FP.dadd v3 v5) (FP.dsub (FP.dadd v3 v5) v3))) (FP.dsub v5 (FP.dsub (FP.dadd v3 v5) v3))) (FP.dadd v4 v6)) (FP.dsub (FP.dadd (FP.dadd v3 v5) (FP.dadd (FP.dadd (FP.dsub v3 (FP.dsub (FP.dadd v3 v5) (FP.dsub (FP.dadd v3 v5) v3))) (FP.dsub v5 (FP.dsub (FP.dadd v3 v5) v3))) (FP.dadd v4 v6))) (FP.dadd v3 v5))) v9) .l) = (0 : Int32) by rw [hc2]; rfl)).2) k) ?_
  show Wlk p.tables e below (T21.setTop (mkF m 119 #[.val (.long p1), .second, .val (.long q2), .second, .val (.int i3), .val (.int j4), .val (.long v1), .second, .val (.long v2), .second, .val (.double v3), .second, .val (.double v4), .second, .val (.double v5), .second, .val (.double v6), .second, .val (.long v7), .second, .val (.double v8), .second, .val (.double v9), .second, .val (.ref b10)] [])) K
  refine Wlk.of (fun _ k => XS.iconst X21.here hx rfl (hb hby at_119) k) ?_
  show Wlk p.tables e below (T21.setTop (mkF m 120 #[.val (.long p1), .second, .val (.long q2), .second, .val (.int i3), .val (.int j4), .val (.long v1), .second, .val (.long v2), .second, .val (.double v3), .second, .val (.double v4), .second, .val (.double v5), .second, .val (.double v6), .second, .val (.long v7), .second, .val (.double v8), .second, .val (.double v9), .second, .val (.ref b10)] [(.int (1 : Int32))])) K
  refine Wlk.of (fun _ k => XS.goto X21.here hx rfl (pc0 := 120) (pc' := 124) rfl (hb hby at_120) (by decide) (by decide) k) ?_
  show Wlk p.tables e below (T21.setTop (mkF m 124 #[.val (.long p1), .second, .val (.long q2), .second, .val (.int i3), .val (.int j4), .val (.long v1), .second, .val (.long v2), .second, .val (.double v3), .second, .val (.double v4), .second, .val (.double v5), .second, .val (.double v6), .second, .val (.long v7), .second, .val (.double v8), .second, .val (.double v9), .second, .val (.ref b10)] [(.int (1 : Int32))])) K
  refine hK (some (.int (1 : Int32))) X21 (fun q => by cases q) (fun fs hr => retN X21 hx (t := .boolean) hret (by simp) (hb hby at_124) hr) ?_ (by decide) (by decide)
  rw [show T21.heap = T15.heap from hh21]
  exact ⟨rfl, N22⟩
set_option maxRecDepth 65536 in
set_option maxHeartbeats 40000000 in
theorem comes_1 {Post : Tables → Env → Array Value → State → Outcome → State → Prop} (hpost : ∀ tb e args s v u, (limb_1_1.after args s (.returned v) u = true ∧ limb_1_2.after args s (.returned v) u = true ∧ True) → FrameEnd s (.returned v) u (Jvm.fieldLocs frame_1_writes args s ++ Jvm.arrayLocs frame_1_arrays args s ++ Jvm.staticLocs frame_1_statics s) 16 128 → Post tb e args s (.returned v) u) :
    ArmFor flags0 classFile x code maxLocals ret World_1 tables_1 room_1 Calls_1 rest_1 Pre_1 Post := by
  intro l hfl _ _ p e ha hc hk s m args below hf hA hF happ hP
  obtain ⟨hcalls, hrest, hpre⟩ := hP
  obtain ⟨-, -, -, hnamed, -, -, -, hat⟩ := (Spec.applies_iff hf).mp happ
  obtain ⟨hg, hn⟩ := and_e (Cond.before_iff.mp (show (Jvm.Cond.and given_1 narrow_1).before args s = true from hpre))
  obtain ⟨g1, g2⟩ := and_e hg
  obtain ⟨g3, g4⟩ := and_e g2
  obtain ⟨g5, g6⟩ := and_e g4
  obtain ⟨g7, g8⟩ := and_e g6
  obtain ⟨w0, w1, w2, w3, rfl⟩ : ∃ w0 w1 w2 w3 : Value, args = #[w0, w1, w2, w3] := by
    have hs : args.size = 4 := by simpa [Cond.value, given_1] using g1
    obtain ⟨L⟩ := args
    match L, hs with
    | [w0, w1, w2, w3], _ => exact ⟨w0, w1, w2, w3, rfl⟩
  have hw := fun d (hd : d ∈ tables_1) => atoms_spec (ws := Jvm.Cond.code x code maxLocals ret :: tables_1) hat d (List.mem_cons_of_mem _ hd)
  have hfit : Fit s := fun {y c} hc i hi => by
    obtain ⟨ha, rfl⟩ := Array.getElem?_eq_some_iff.mp hc
    have q := List.all_eq_true.mp ((Array.all_eq_true_iff_forall_mem.mp hF) _ (Array.getElem_mem ha)) i (List.mem_range.mpr hi)
    simpa [Array.getElem?_eq_getElem hi] using q
  obtain ⟨i0, ei0⟩ := isL_v g3
  obtain rfl : w0 = (.long i0) := Option.some.inj ei0
  obtain ⟨i1, ei1⟩ := isL_v g5
  obtain rfl : w1 = (.long i1) := Option.some.inj ei1
  obtain ⟨i2, ei2⟩ := is_v g7
  obtain rfl : w2 = (.int i2) := Option.some.inj ei2
  obtain ⟨i3, ei3⟩ := is_v g8
  obtain rfl : w3 = (.int i3) := Option.some.inj ei3
  obtain ⟨n, o, h1, h2, h3, _, L, rfl, ⟨rfl, N⟩, hq⟩ := rm0 l s _ hw tables_1 i0 i1 i2 i3  s.heap s.heap.size (Nat.le_refl _)  p e ha hc hk s m _ below hf ((Spec.applies_iff_loose hf).mp happ).1 ⟨rfl, State.Warmed39.refl s, rfl⟩ trivial
  refine ⟨n, _, h1, h2, h3, hpost _ _ _ _ _ _ ⟨Cond.after_iff.mpr rfl, Cond.after_iff.mpr (eq_i res_at (Term.int_eval (1)) rfl), trivial⟩ ⟨hq.1, hq.2.1, (hq.2.2.sift fun y hy => Or.inr (N y hy)).mono (by decide) (by decide)⟩⟩
theorem main_1_1 : Claimed_1_1 := comes_1 fun _ _ _ _ _ _ h hF => ⟨h.1, hF⟩
theorem main_1_2 : Claimed_1_2 := comes_1 fun _ _ _ _ _ _ h hF => ⟨h.2.1, hF⟩
end Jvm.Pilot.@@N@@
namespace Jvm.Pilot.@@N@@
open Jvm Jvm.ClassFile Sem Op Lib Jvm.Free Jvm.Stand Jvm.Pilot.@@N@@.Jvm.D
/-! MADE BY PROGRAM (witnessworld.py) out of the Statement's table words and the real class files: 9 classes; the members and pool entries that the words name. The judged class is class 1, her method 1. -/
namespace start1
open Jvm.ClassFile
def u (s : String) : CpInfo := .utf8 (stringToUtf16 s)
/-- a pool by its gaps: so many unusable entries, then the entry; so many at the end -/
def gap : Nat → List CpInfo → List CpInfo
  | 0, r => r
  | n + 1, r => .unusable :: gap n r
def poolList (es : List (Nat × CpInfo)) (last : Nat) : List CpInfo := es.foldr (fun e r => gap e.1 (e.2 :: r)) (gap last [])
def pool (es : List (Nat × CpInfo)) (last : Nat) : Array CpInfo := ⟨poolList es last⟩
def fileOf (pool : Array CpInfo) (this : Nat) (attrs : Array Attribute := #[]) (ms : Array MethodInfo := #[]) (fl : Nat := 33) (sup : Nat := 0) (ifs : Array Nat := #[]) (fds : Array FieldInfo := #[]) : ClassFile where
  minorVersion := 0
  majorVersion := 65
  constantPool := pool
  accessFlags := fl
  thisClass := this
  superClass := sup
  interfaces := ifs
  fields := fds
  methods := ms
  attributes := attrs
def plain (name : String) (sup : Option ClassId) : Class where
  name := name
  kind := .ordinary
  loader := none
  accessFlags := 33
  super := sup
  interfaces := #[]
  cf := none
  fields := #[]
  methods := #[]
  instanceTypes := #[]
  staticTypes := #[]
  resolved := #[]
  callSites := []
  init := .initialized
  statics := none
  mirror := none

def pool0 : Array CpInfo := pool [(5, u "<init>"), (0, u "()V"), (1, .class_ 10), (1, u "java/lang/Object")] 113

def k0c0 : Code := { maxStack := 0, maxLocals := 1, code := object_method_1_code, exceptionTable := #[], attributes := #[] }
def k0m0 : Method := { name := "<init>", desc := "()V", sig := { parameters := [], returnType := none }, accessFlags := 1, code := some k0c0 }
/-- java/lang/Object -/
def k0 : Class := { plain "java/lang/Object" none with
  accessFlags := 33
  interfaces := #[]
  cf := some (fileOf pool0 8 #[] #[{ accessFlags := 1, nameIndex := 5, descriptorIndex := 6, attributes := #[] }] 33 0 #[] #[])
  fields := #[]
  methods := #[k0m0]
  instanceTypes := #[]
  staticTypes := #[]
  resolved := Array.replicate 124 none
  statics := none }

def pool1 : Array CpInfo := pool [(2, .class_ 4), (0, .nameAndType 5 6), (0, u "java/lang/Object"), (0, u "<init>"), (0, u "()V"), (0, .long 2305843009213693951), (1, .class_ 10), (0, u "com/example/vanishing_messages/vanishingmessages/analysis/DoubleWord"), (0, .methodref 9 3), (0, .methodref 9 13), (0, .nameAndType 14 15), (0, u "add"), (0, u "(DDDD)V"), (0, .methodref 9 17), (0, .nameAndType 18 19), (0, u "high"), (0, u "()D"), (0, .methodref 9 21), (0, .nameAndType 22 19), (0, u "low"), (0, .class_ 24), (0, u "com/example/vanishing_messages/vanishingmessages/analysis/DoubleWordAddPinLaw"), (2, u "law"), (0, u "(JJII)Z")] 3

def k1m0 : Method := { name := "<init>", desc := "()V", sig := { parameters := [], returnType := none }, accessFlags := 1, code := none }
def k1c1 : Code := { maxStack := 9, maxLocals := 25, code := code, exceptionTable := #[], attributes := #[] }
def k1m1 : Method := { name := "law", desc := "(JJII)Z", sig := { parameters := [.long, .long, .int, .int], returnType := some .boolean }, accessFlags := 9, code := some k1c1 }
/-- com/example/vanishing_messages/vanishingmessages/analysis/DoubleWordAddPinLaw -/
def k1 : Class := { plain "com/example/vanishing_messages/vanishingmessages/analysis/DoubleWordAddPinLaw" (some 0) with
  accessFlags := 49
  interfaces := #[]
  cf := some (fileOf pool1 23 #[] #[{ accessFlags := 1, nameIndex := 5, descriptorIndex := 6, attributes := #[] }, { accessFlags := 9, nameIndex := 27, descriptorIndex := 28, attributes := #[] }] 49 2 #[] #[])
  fields := #[]
  methods := #[k1m0, k1m1]
  instanceTypes := #[]
  staticTypes := #[]
  resolved := Array.replicate 32 none
  statics := none }

def pool2 : Array CpInfo := pool [(1, .methodref 2 3), (0, .class_ 4), (0, .nameAndType 5 6), (0, u "java/lang/Object"), (0, u "<init>"), (0, u "()V"), (0, .fieldref 8 9), (0, .class_ 10), (0, .nameAndType 11 12), (0, u "com/example/vanishing_messages/vanishingmessages/analysis/DoubleWord"), (0, u "high"), (0, u "D"), (0, .fieldref 8 14), (0, .nameAndType 15 12), (0, u "low"), (0, .methodref 8 17), (0, .nameAndType 18 19), (0, u "setSum"), (0, u "(DD)V"), (6, u "UNIT"), (3, u "ADD_ERROR"), (2, u "MULTIPLY_ERROR"), (2, u "INVERT_ERROR"), (4, u "()D"), (0, u "add"), (0, u "(DDDD)V")] 4

def k2c0 : Code := { maxStack := 1, maxLocals := 1, code := prog_2_method_1_code, exceptionTable := #[], attributes := #[] }
def k2m0 : Method := { name := "<init>", desc := "()V", sig := { parameters := [], returnType := none }, accessFlags := 0, code := some k2c0 }
def k2c1 : Code := { maxStack := 2, maxLocals := 1, code := prog_2_method_2_code, exceptionTable := #[], attributes := #[] }
def k2m1 : Method := { name := "high", desc := "()D", sig := { parameters := [], returnType := some .double }, accessFlags := 0, code := some k2c1 }
def k2c2 : Code := { maxStack := 2, maxLocals := 1, code := prog_2_method_3_code, exceptionTable := #[], attributes := #[] }
def k2m2 : Method := { name := "low", desc := "()D", sig := { parameters := [], returnType := some .double }, accessFlags := 0, code := some k2c2 }
def k2c3 : Code := { maxStack := 9, maxLocals := 15, code := prog_2_method_4_code, exceptionTable := #[], attributes := #[] }
def k2m3 : Method := { name := "add", desc := "(DDDD)V", sig := { parameters := [.double, .double, .double, .double], returnType := none }, accessFlags := 0, code := some k2c3 }
def k2c4 : Code := { maxStack := 7, maxLocals := 5, code := prog_2_method_7_code, exceptionTable := #[], attributes := #[] }
def k2m4 : Method := { name := "setSum", desc := "(DD)V", sig := { parameters := [.double, .double], returnType := none }, accessFlags := 2, code := some k2c4 }
/-- com/example/vanishing_messages/vanishingmessages/analysis/DoubleWord -/
def k2 : Class := { plain "com/example/vanishing_messages/vanishingmessages/analysis/DoubleWord" (some 0) with
  accessFlags := 48
  interfaces := #[]
  cf := some (fileOf pool2 8 #[] #[{ accessFlags := 0, nameIndex := 5, descriptorIndex := 6, attributes := #[] }, { accessFlags := 0, nameIndex := 11, descriptorIndex := 41, attributes := #[] }, { accessFlags := 0, nameIndex := 15, descriptorIndex := 41, attributes := #[] }, { accessFlags := 0, nameIndex := 42, descriptorIndex := 43, attributes := #[] }, { accessFlags := 2, nameIndex := 18, descriptorIndex := 19, attributes := #[] }] 48 2 #[] #[{ accessFlags := 24, nameIndex := 26, descriptorIndex := 12, attributes := #[] }, { accessFlags := 24, nameIndex := 30, descriptorIndex := 12, attributes := #[] }, { accessFlags := 24, nameIndex := 33, descriptorIndex := 12, attributes := #[] }, { accessFlags := 24, nameIndex := 36, descriptorIndex := 12, attributes := #[] }, { accessFlags := 2, nameIndex := 11, descriptorIndex := 12, attributes := #[] }, { accessFlags := 2, nameIndex := 15, descriptorIndex := 12, attributes := #[] }])
  fields := #[{ name := "UNIT", type := .double, accessFlags := 24, slot := 0, constantValue := 0 }, { name := "ADD_ERROR", type := .double, accessFlags := 24, slot := 1, constantValue := 0 }, { name := "MULTIPLY_ERROR", type := .double, accessFlags := 24, slot := 2, constantValue := 0 }, { name := "INVERT_ERROR", type := .double, accessFlags := 24, slot := 3, constantValue := 0 }, { name := "high", type := .double, accessFlags := 2, slot := 0, constantValue := 0 }, { name := "low", type := .double, accessFlags := 2, slot := 1, constantValue := 0 }]
  methods := #[k2m0, k2m1, k2m2, k2m3, k2m4]
  instanceTypes := #[.double, .double]
  staticTypes := #[.double, .double, .double, .double]
  resolved := Array.replicate 48 none
  statics := none }

def pool3 : Array CpInfo := pool [(1, u "java/lang/Cloneable"), (0, .class_ 1), (0, u "java/lang/Object"), (0, .class_ 3)] 3

/-- java/lang/Cloneable -/
def k3 : Class := { plain "java/lang/Cloneable" (some 0) with
  accessFlags := 1537
  interfaces := #[]
  cf := some (fileOf pool3 2 #[] #[] 1537 4 #[] #[])
  fields := #[]
  methods := #[]
  instanceTypes := #[]
  staticTypes := #[]
  resolved := Array.replicate 8 none
  statics := none }

def pool4 : Array CpInfo := pool [(1, u "java/io/Serializable"), (0, .class_ 1), (0, u "java/lang/Object"), (0, .class_ 3)] 3

/-- java/io/Serializable -/
def k4 : Class := { plain "java/io/Serializable" (some 0) with
  accessFlags := 1537
  interfaces := #[]
  cf := some (fileOf pool4 2 #[] #[] 1537 4 #[] #[])
  fields := #[]
  methods := #[]
  instanceTypes := #[]
  staticTypes := #[]
  resolved := Array.replicate 8 none
  statics := none }

/-- the primitive byte -/
def k5 : Class := { plain "byte" none with kind := .primitive 'B', accessFlags := 0x411 }
/-- [B -/
def k6 : Class := { plain "[B" (some 0) with kind := .array 5 .byte, interfaces := #[3, 4], accessFlags := 1041 }

/-- the primitive int -/
def k7 : Class := { plain "int" none with kind := .primitive 'I', accessFlags := 0x411 }
/-- [I -/
def k8 : Class := { plain "[I" (some 0) with kind := .array 7 .int, interfaces := #[3, 4], accessFlags := 1041 }

def heap : Heap := #[]
def classes : Array Class := #[k0, k1, k2, k3, k4, k5, k6, k7, k8]
def interned : List (Array UInt16 × Addr) := []
def slotsUsed : Nat := 0
def theMethod : MethodId := ⟨1, 1⟩
def args0 : Array Value := #[.long 5, .long 7, .int 0, .int 1]
def aboutOver (below : List Frame) : State where
  vm := { classes := classes, interned := interned.toArray }
  heap := heap
  slotsUsed := slotsUsed
  threads := #[{ frames := .invoking theMethod args0 :: below }]
def below0 : List Frame := [.native { method := ⟨0, 0⟩, args := #[] }]
def about1 : State := aboutOver below0
def p0 : Program := .bare "" "" ""
def e0 : Env := launch0.env 0 0 0
theorem w_frames : about1.frames = Frame.invoking theMethod args0 :: below0 := rfl
set_option maxRecDepth 65536 in
theorem w_args : argsFit about1.vm theMethod args0 = true := by decide +kernel
set_option maxRecDepth 65536 in
theorem w_heap : heapFits about1 = true := by decide +kernel
set_option maxRecDepth 65536 in
theorem w_runnable : about1.curStatus? = some .runnable := by decide +kernel
set_option maxRecDepth 65536 in
theorem w_alone : about1.alone = true := by decide +kernel
set_option maxRecDepth 65536 in
theorem w_named : about1.methodNamed? x = some theMethod := by decide +kernel
set_option maxRecDepth 65536 in
theorem w_hears : about1.hears theMethod below0 = true := by decide +kernel
set_option maxRecDepth 65536 in
theorem w_ripe : about1.ripe theMethod args0 below0 = true := by decide +kernel
theorem w_running : about1.status = .running := rfl
set_option maxRecDepth 65536 in
theorem w_room : about1.hasRoom e0.platform room_1 = true :=
  launch0.hasRoom_least _ room_1 (by decide +kernel) (by decide +kernel) (by decide +kernel) (by decide +kernel) (by decide +kernel) (by decide +kernel)
theorem allAtoms_all (ts : List Jvm.Cond) (a : Array Jvm.Value) (st : Jvm.State) : (allAtoms ts).before a st = ts.all (fun c => c.before a st) := by
  induction ts with
  | nil => rfl
  | cons c t ih =>
    show (Jvm.Cond.and c (allAtoms t)).before a st = _
    rw [Jvm.Cond.before_and, ih, List.all_cons]
def words1 : List Jvm.Cond := Jvm.Cond.code x code maxLocals ret :: tables_1
/-- a 'code' word, met by the world's own term for the bytes: nothing is compared byte by byte -/
theorem code_word {y : MethodName} {bytes : ByteArray} {mx : Nat} {rt : Option FieldType} {a : Array Value} {s : State} {m : MethodId} {meth : Method} {c : Code} (h1 : s.methodNamed? y = some m) (h2 : s.vm.method? m = some meth) (h3 : meth.code = some c) (h4 : c.code = bytes)
    (h5 : (c.maxLocals == mx && c.exceptionTable.isEmpty && decide (c.maxStack ≤ mostOperands) && decide (meth.sig.returnType = rt) && !meth.locks && decide (parseMethodDescriptor y.desc = some meth.sig)) = true) : (Jvm.Cond.code y bytes mx rt).before a s = true := by
  simp only [Bool.and_eq_true, beq_iff_eq, Bool.not_eq_true', decide_eq_true_eq] at h5
  obtain ⟨⟨⟨⟨⟨g1, g2⟩, g3⟩, g4⟩, g5⟩, g6⟩ := h5
  simp [Cond.before, Cond.holds, Cond.value, h1, h2, h3, h4, g1, g2, g3, g4, g5, g6]
def isCode : Jvm.Cond → Bool
  | .code _ _ _ _ => true
  | _ => false
theorem all_split {L : List Jvm.Cond} {P : Jvm.Cond → Bool} (h1 : L.all (fun c => isCode c || P c) = true) (h2 : ∀ c ∈ L.filter isCode, P c = true) : L.all P = true := by
  refine List.all_eq_true.mpr fun c hc => ?_
  have h := List.all_eq_true.mp h1 c hc
  rcases Bool.eq_false_or_eq_true (isCode c) with hi | hi
  · exact h2 c (List.mem_filter.mpr ⟨hc, hi⟩)
  · simpa [hi] using h
set_option maxRecDepth 65536 in
theorem w_c0 : (Jvm.Cond.code x code maxLocals ret).before args0 about1 = true := code_word (m := ⟨1, 1⟩) (meth := k1m1) (c := k1c1) (by decide +kernel) rfl rfl rfl (by decide +kernel)
set_option maxRecDepth 65536 in
theorem w_c1 : (Jvm.Cond.code ({ cls := "com/example/vanishing_messages/vanishingmessages/analysis/DoubleWord", name := "<init>", desc := "()V" } : Jvm.MethodName) prog_2_method_1_code (1 : Nat) (Option.none : Option Jvm.ClassFile.FieldType)).before args0 about1 = true := code_word (m := ⟨2, 0⟩) (meth := k2m0) (c := k2c0) (by decide +kernel) rfl rfl rfl (by decide +kernel)
set_option maxRecDepth 65536 in
theorem w_c2 : (Jvm.Cond.code ({ cls := "java/lang/Object", name := "<init>", desc := "()V" } : Jvm.MethodName) object_method_1_code (1 : Nat) (Option.none : Option Jvm.ClassFile.FieldType)).before args0 about1 = true := code_word (m := ⟨0, 0⟩) (meth := k0m0) (c := k0c0) (by decide +kernel) rfl rfl rfl (by decide +kernel)
set_option maxRecDepth 65536 in
theorem w_c3 : (Jvm.Cond.code ({ cls := "com/example/vanishing_messages/vanishingmessages/analysis/DoubleWord", name := "add", desc := "(DDDD)V" } : Jvm.MethodName) prog_2_method_4_code (15 : Nat) (Option.none : Option Jvm.ClassFile.FieldType)).before args0 about1 = true := code_word (m := ⟨2, 3⟩) (meth := k2m3) (c := k2c3) (by decide +kernel) rfl rfl rfl (by decide +kernel)
set_option maxRecDepth 65536 in
theorem w_c4 : (Jvm.Cond.code ({ cls := "com/example/vanishing_messages/vanishingmessages/analysis/DoubleWord", name := "setSum", desc := "(DD)V" } : Jvm.MethodName) prog_2_method_7_code (5 : Nat) (Option.none : Option Jvm.ClassFile.FieldType)).before args0 about1 = true := code_word (m := ⟨2, 4⟩) (meth := k2m4) (c := k2c4) (by decide +kernel) rfl rfl rfl (by decide +kernel)
set_option maxRecDepth 65536 in
theorem w_c5 : (Jvm.Cond.code ({ cls := "com/example/vanishing_messages/vanishingmessages/analysis/DoubleWord", name := "high", desc := "()D" } : Jvm.MethodName) prog_2_method_2_code (1 : Nat) (Option.some Jvm.ClassFile.FieldType.double)).before args0 about1 = true := code_word (m := ⟨2, 1⟩) (meth := k2m1) (c := k2c1) (by decide +kernel) rfl rfl rfl (by decide +kernel)
set_option maxRecDepth 65536 in
theorem w_c6 : (Jvm.Cond.code ({ cls := "com/example/vanishing_messages/vanishingmessages/analysis/DoubleWord", name := "low", desc := "()D" } : Jvm.MethodName) prog_2_method_3_code (1 : Nat) (Option.some Jvm.ClassFile.FieldType.double)).before args0 about1 = true := code_word (m := ⟨2, 2⟩) (meth := k2m2) (c := k2c2) (by decide +kernel) rfl rfl rfl (by decide +kernel)
def codes1 : List Jvm.Cond := [Jvm.Cond.code x code maxLocals ret, Jvm.Cond.code ({ cls := "com/example/vanishing_messages/vanishingmessages/analysis/DoubleWord", name := "<init>", desc := "()V" } : Jvm.MethodName) prog_2_method_1_code (1 : Nat) (Option.none : Option Jvm.ClassFile.FieldType), Jvm.Cond.code ({ cls := "java/lang/Object", name := "<init>", desc := "()V" } : Jvm.MethodName) object_method_1_code (1 : Nat) (Option.none : Option Jvm.ClassFile.FieldType), Jvm.Cond.code ({ cls := "com/example/vanishing_messages/vanishingmessages/analysis/DoubleWord", name := "add", desc := "(DDDD)V" } : Jvm.MethodName) prog_2_method_4_code (15 : Nat) (Option.none : Option Jvm.ClassFile.FieldType), Jvm.Cond.code ({ cls := "com/example/vanishing_messages/vanishingmessages/analysis/DoubleWord", name := "setSum", desc := "(DD)V" } : Jvm.MethodName) prog_2_method_7_code (5 : Nat) (Option.none : Option Jvm.ClassFile.FieldType), Jvm.Cond.code ({ cls := "com/example/vanishing_messages/vanishingmessages/analysis/DoubleWord", name := "high", desc := "()D" } : Jvm.MethodName) prog_2_method_2_code (1 : Nat) (Option.some Jvm.ClassFile.FieldType.double), Jvm.Cond.code ({ cls := "com/example/vanishing_messages/vanishingmessages/analysis/DoubleWord", name := "low", desc := "()D" } : Jvm.MethodName) prog_2_method_3_code (1 : Nat) (Option.some Jvm.ClassFile.FieldType.double)]
set_option maxRecDepth 65536 in
theorem codes_eq : words1.filter isCode = codes1 := rfl
theorem w_codes : ∀ c ∈ words1.filter isCode, c.before args0 about1 = true := by
  rw [codes_eq]
  intro c hc
  simp only [codes1, List.mem_cons, List.not_mem_nil, or_false] at hc
  rcases hc with rfl | rfl | rfl | rfl | rfl | rfl | rfl
  · exact w_c0
  · exact w_c1
  · exact w_c2
  · exact w_c3
  · exact w_c4
  · exact w_c5
  · exact w_c6
set_option maxRecDepth 65536 in
theorem w_t1 : (words1.take 24).all (fun c => isCode c || c.before args0 about1) = true := by decide +kernel
set_option maxRecDepth 65536 in
theorem w_t2 : (words1.drop 24).all (fun c => isCode c || c.before args0 about1) = true := by decide +kernel
theorem w_tables : (allAtoms (Jvm.Cond.code x code maxLocals ret :: tables_1)).before args0 about1 = true := by
  rw [allAtoms_all]
  show words1.all (fun c => c.before args0 about1) = true
  refine all_split ?_ w_codes
  rw [← List.take_append_drop 24 words1, List.all_append, w_t1, w_t2]
  rfl
set_option maxRecDepth 65536 in
theorem w_case : (Jvm.Cond.and given_1 narrow_1).before args0 about1 = true := by decide +kernel
theorem w_applies : (headSpec (Jvm.Cond.code x code maxLocals ret :: tables_1) room_1).applies x e0.platform about1 = true :=
  (Spec.applies_iff w_frames).mpr ⟨w_running, w_runnable, w_alone, w_named, w_hears, w_ripe, w_room, w_tables⟩
theorem atStart : AtStart classFile x code maxLocals ret World_1 tables_1 room_1 Calls_1 rest_1 Pre_1 launch0 p0 e0 about1 theMethod args0 below0 :=
  ⟨lists_1, trivial, launch0.admits_env _ _ _, launch0.least_env, fairChoices_fair.cas, fairChoices_fair.clock, w_frames, w_args, w_heap, w_applies, trivial, trivial, w_case⟩
end start1
theorem witness_1 : WitnessClaimed_1 := ⟨start1.p0, start1.e0, start1.about1, start1.theMethod, start1.args0, start1.below0, start1.atStart⟩
end Jvm.Pilot.@@N@@
