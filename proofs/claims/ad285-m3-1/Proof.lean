import JvmDerived
import JvmDerived.Pilot.@@N@@Statement
import JvmDerived.Pilot.@@N@@Code
set_option linter.unusedVariables false
set_option linter.unusedSimpArgs false
namespace Jvm.OwnKit
open Sem ClassFile Op Lib Jvm.Stand Jvm.Free Jvm.LawKit Jvm.RoadKit
/-! ## the walk, backwards: from S the run comes to an end that K speaks of -/
def Wlk (tb : Tables) (e : Env) (below : List Frame) (S : State) (K : State → Outcome → Prop) : Prop := ∃ s₂ o, Steps tb e below S s₂ ∧ K s₂ o
section Wlks
variable {tb : Tables} {e : Env} {below : List Frame} {S S' : State} {K : State → Outcome → Prop}
theorem Wlk.of (f : ∀ t, Steps tb e below S' t → Steps tb e below S t) (h : Wlk tb e below S' K) : Wlk tb e below S K := by
  obtain ⟨t, o, h1, h2⟩ := h; exact ⟨t, o, f t h1, h2⟩
end Wlks
/-! ## a body's contract -/
def Ctr (l : Launch) (Z : State) (h0 : Heap) (y : MethodName) (bytes : ByteArray) (maxL : Nat) (ret : Option FieldType) (ws : List Jvm.Cond) (rm : Room) (as' : Array Value) (Q : Option Value → Heap → List Loc → Prop) : Prop :=
  MetFree l y (head1 (Jvm.Cond.code y bytes maxL ret :: ws) rm) (fun a U => a = as' ∧ Z.Warmed39 U.vm ∧ U.heap = h0) (fun _ _ _ _ _ => True) (fun _ U o U' => ∃ v L, o = .returned v ∧ Q v U'.heap L ∧ FrameEnd U o U' L rm.cells rm.slots)
/-- what the end of a body's walk must show -/
def Fin (p : Program) (l : Launch) (e : Env) (rm : Room) (s : State) (m : MethodId) (as' : Array Value) (below : List Frame) (meth : Method) (c : Code) (ret : Option FieldType) (Q : Option Value → Heap → List Loc → Prop) (K : State → Outcome → Prop) : Prop :=
  ∀ {T : State} {locs : List Loc} {cells slots : Nat} {F : JFrame} (v : Option Value), Stand p l e rm s m as' below meth c T locs cells slots → (ret = none → v = none) →
    (∀ fs, (∀ (f : JFrame) (acts : List Action), f.method = m → f.locked = none → f.entered = [] → (doReturn e (T.setTop f) acts v).1 = T.setFrames fs) → Steps p.tables e below (T.setTop F) (T.setFrames fs)) →
    Q v T.heap locs → cells ≤ rm.cells → slots ≤ rm.slots → Wlk p.tables e below (T.setTop F) K
theorem Ctr.make {l : Launch} {Z : State} {h0 : Heap} {y : MethodName} {bytes : ByteArray} {maxL : Nat} {ret : Option FieldType} {ws : List Jvm.Cond} {rm : Room} {as' : Array Value} {Q : Option Value → Heap → List Loc → Prop} (hpn : plainFor y = true)
    (H : ∀ (p : Program) (e : Env) (s : State) (m : MethodId) (below : List Frame) (meth : Method) (c : Code) (s₁ : State) (K : State → Outcome → Prop), meth.sig.returnType = ret → c.maxLocals = maxL → p.tables.exec = Jvm.exec → c.code = bytes → s.vm.findClass y.cls = some m.cls → meth.name = y.name → Z.Warmed39 s.vm →
      Stand p l e rm s m as' below meth c s₁ [] 0 0 → s₁.heap = h0 → Fin p l e rm s m as' below meth c ret Q K → Wlk p.tables e below (s₁.setTop (entryFrame m as' maxL)) K) : Ctr l Z h0 y bytes maxL ret ws rm as' Q := by
  refine MetFree.of_bodySF hpn hisR ?_
  intro p e s m args below meth c s₁ Bd hml hP hK
  obtain ⟨rfl, hZ, hh⟩ := hP
  refine H p e s m below meth c s₁ (fun s₂ o => s₂.status = .running ∧ Ended s₂ below o ∧ ∃ v L, o = .returned v ∧ Q v s₂.heap L ∧ FrameEnd s o s₂ L rm.cells rm.slots) Bd.returns hml Bd.exec Bd.bytes (findClass_of_methodNamed Bd.named) (name_of_methodNamed Bd.named Bd.method).1 hZ (Stand.of_body Bd) (by rw [← hh, Bd.state]; rfl) ?_
  intro T locs cells slots F v X hv hst hq hc hs
  obtain ⟨fs, hr, hrun, hended, hW, hsame⟩ := X.leave (v := v) (fun h => hv (Bd.returns ▸ h)) Bd.notSynchronized
  exact ⟨_, _, hst fs hr, hrun, hended, v, locs, rfl, hq, ⟨_, rfl⟩, hW, hsame.mono hc hs⟩
section Calls
variable {p : Program} {l : Launch} {e : Env} {R : Room} {s : State} {m : MethodId} {args : Array Value} {below : List Frame} {meth : Method} {c : Code} {T : State} {locs : List Loc} {cells slots : Nat} {Z : State} {a0 : Array Value} {h : Heap}
variable {y z : MethodName} {bytes : ByteArray} {maxL : Nat} {ret : Option FieldType} {rm : Room} {as' : Array Value} {Q : Option Value → Heap → List Loc → Prop}
theorem Ctr.static (M : Ctr l Z h y bytes maxL ret [] rm as' Q) (X : Stand p l e R s m args below meth c T locs cells slots) (hx : p.tables.exec = Jvm.exec) (hZ : Z.Warmed39 s.vm) (eT : T.heap = h) {own : String} {index : Nat} (hown : s.vm.findClass own = some m.cls)
    (wl : (Jvm.Cond.methodLink own index y).before a0 Z = true) (wt : (Jvm.Cond.static y).before a0 Z = true) (wi : (Jvm.Cond.initialized y.cls).before a0 Z = true) (wc : (Jvm.Cond.code y bytes maxL ret).before a0 Z = true) (hy : y.cls ≠ "java/lang/invoke/MethodHandle" ∧ y.cls ≠ "java/lang/invoke/VarHandle")
    {ps : List FieldType} {rt : Option FieldType} (hpd : parseMethodDescriptor y.desc = some ⟨ps, rt⟩) {g : JFrame} (hg : g.method = m) (hsize : g.locals.size = c.maxLocals) {argsL rest : List Value} (ha : argsL.toArray = as') (hlen : argsL.length = ps.length) (hstack : g.stack = argsL.reverse ++ rest)
    {W : Nat} (hW : 2 * g.monitorRoom + (rest.map fun v => v.category).sum ≤ W) (hf : rm.frames + 1 ≤ R.frames) (hl : W + (maxL + 11) + rm.locals ≤ R.locals) (hd : decode c.code g.pc = .ok (.invokestatic index, 3)) (hc : cells + rm.cells ≤ R.cells) (hs : slots + rm.slots ≤ R.slots) :
    ∃ (v : Option Value) (T' : State) (L : List Loc), Stand p l e R s m args below meth c T' (locs ++ L) (cells + rm.cells) (slots + rm.slots) ∧ Q v T'.heap L ∧ ∀ target, Steps p.tables e below (T'.setTop { g with pc := g.pc + 3, stack := v.toList ++ rest }) target → Steps p.tables e below (T.setTop g) target := by
  obtain ⟨v, _, ⟨T', L, k, n⟩, -, X', ⟨Lc, hQ, l1, y1, z1⟩, st⟩ := Jvm.LawKit.callS X hx hown (mvT hZ wl) (mvT hZ wt) (mvT hZ wi) (mvT hZ wc) hy (backOf (W := W) M hZ wc wi hf hl) hg hsize (argsL := argsL) (rest := rest) (lenOf hpd hlen) hstack hW hd (fun _ _ => ⟨ha, eT, hc, hs⟩)
  dsimp only [Pt.U, Pt.locs, Pt.cells, Pt.slots] at X' l1 y1 z1 st hQ
  subst l1 y1 z1
  exact ⟨v, T', Lc, X', hQ, st⟩
theorem Ctr.special (M : Ctr l Z h y bytes maxL none [] rm as' Q) (X : Stand p l e R s m args below meth c T locs cells slots) (hx : p.tables.exec = Jvm.exec) (hZ : Z.Warmed39 s.vm) (eT : T.heap = h) {own : String} {index : Nat} (hown : s.vm.findClass own = some m.cls) (hy1 : y.name = "<init>")
    (wl : (Jvm.Cond.methodLink own index y).before a0 Z = true) (wt : (Jvm.Cond.instanceMethod y).before a0 Z = true) (wi : (Jvm.Cond.initialized y.cls).before a0 Z = true) (wc : (Jvm.Cond.code y bytes maxL none).before a0 Z = true) (hy : y.cls ≠ "java/lang/invoke/MethodHandle" ∧ y.cls ≠ "java/lang/invoke/VarHandle")
    {ps : List FieldType} {rt : Option FieldType} (hpd : parseMethodDescriptor y.desc = some ⟨ps, rt⟩) {g : JFrame} (hg : g.method = m) (hsize : g.locals.size = c.maxLocals) {a : Addr} {argsL rest : List Value} (ha : (.ref a :: argsL).toArray = as') (hlen : argsL.length = ps.length) (hstack : g.stack = argsL.reverse ++ .ref a :: rest)
    {W : Nat} (hW : 2 * g.monitorRoom + (rest.map fun v => v.category).sum ≤ W) (hf : rm.frames + 1 ≤ R.frames) (hl : W + (maxL + 11) + rm.locals ≤ R.locals) (hd : decode c.code g.pc = .ok (.invokespecial index, 3)) (hc : cells + rm.cells ≤ R.cells) (hs : slots + rm.slots ≤ R.slots) :
    ∃ (v : Option Value) (T' : State) (L : List Loc), Stand p l e R s m args below meth c T' (locs ++ L) (cells + rm.cells) (slots + rm.slots) ∧ Q v T'.heap L ∧ ∀ target, Steps p.tables e below (T'.setTop { g with pc := g.pc + 3, stack := v.toList ++ rest }) target → Steps p.tables e below (T.setTop g) target := by
  obtain ⟨v, _, ⟨T', L, k, n⟩, -, X', ⟨Lc, hQ, l1, y1, z1⟩, st⟩ := X.specialBack hx hy1 hown (mvT hZ wl) (mvT hZ wt) (mvT hZ wc) hy (backOf (W := W) M hZ wc wi hf hl) hg hsize (Steps.refl _) (a := a) (argsL := argsL) (rest := rest) (lenOf hpd hlen) hstack hW hd (fun _ _ => ⟨ha, eT, hc, hs⟩)
  dsimp only [Pt.U, Pt.locs, Pt.cells, Pt.slots] at X' l1 y1 z1 st hQ
  subst l1 y1 z1
  exact ⟨v, T', Lc, X', hQ, fun target k => st.trans k⟩
theorem Ctr.virtual (M : Ctr l Z h z bytes maxL ret [] rm as' Q) (X : Stand p l e R s m args below meth c T locs cells slots) (hx : p.tables.exec = Jvm.exec) (hZ : Z.Warmed39 s.vm) (eT : T.heap = h) {own C : String} {index : Nat} (hown : s.vm.findClass own = some m.cls)
    (wl : (Jvm.Cond.methodLink own index y).before a0 Z = true) (wd : (Jvm.Cond.declares y).before a0 Z = true) (hnf : NotFace s y) (wsel : (Jvm.Cond.selects C y z).before a0 Z = true) (wt : (Jvm.Cond.instanceMethod z).before a0 Z = true) (wi : (Jvm.Cond.initialized z.cls).before a0 Z = true) (wc : (Jvm.Cond.code z bytes maxL ret).before a0 Z = true) (hy : y.cls ≠ "java/lang/invoke/MethodHandle" ∧ y.cls ≠ "java/lang/invoke/VarHandle")
    {a : Addr} (E : Exa Z h a C) {ps : List FieldType} {rt : Option FieldType} (hpd : parseMethodDescriptor y.desc = some ⟨ps, rt⟩) {g : JFrame} (hg : g.method = m) (hsize : g.locals.size = c.maxLocals) {argsL rest : List Value} (ha : (.ref a :: argsL).toArray = as') (hlen : argsL.length = ps.length) (hstack : g.stack = argsL.reverse ++ .ref a :: rest)
    {W : Nat} (hW : 2 * g.monitorRoom + (rest.map fun v => v.category).sum ≤ W) (hf : rm.frames + 1 ≤ R.frames) (hl : W + (maxL + 11) + rm.locals ≤ R.locals) (hd : decode c.code g.pc = .ok (.invokevirtual index, 3)) (hc : cells + rm.cells ≤ R.cells) (hs : slots + rm.slots ≤ R.slots) :
    ∃ (v : Option Value) (T' : State) (L : List Loc), Stand p l e R s m args below meth c T' (locs ++ L) (cells + rm.cells) (slots + rm.slots) ∧ Q v T'.heap L ∧ ∀ target, Steps p.tables e below (T'.setTop { g with pc := g.pc + 3, stack := v.toList ++ rest }) target → Steps p.tables e below (T.setTop g) target := by
  obtain ⟨cq, kq, qa, qb, qc⟩ := isOf hZ eT E
  obtain ⟨v, _, ⟨T', L, k, n⟩, -, X', ⟨Lc, hQ, l1, y1, z1⟩, st⟩ := X.virtualBack hx hown (mvT hZ wl) (mvT hZ wd) hnf (mvT hZ wsel) (mvT hZ wt) hy (backOf (W := W) M hZ wc wi hf hl) qa qc hg hsize (Steps.refl _) (argsL := argsL) (rest := rest) (lenOf hpd hlen) hstack hW hd (fun _ _ => ⟨ha, eT, hc, hs⟩)
  dsimp only [Pt.U, Pt.locs, Pt.cells, Pt.slots] at X' l1 y1 z1 st hQ
  subst l1 y1 z1
  exact ⟨v, T', Lc, X', hQ, fun target k => st.trans k⟩
theorem Ctr.priv (M : Ctr l Z h y bytes maxL ret [] rm as' Q) (X : Stand p l e R s m args below meth c T locs cells slots) (hx : p.tables.exec = Jvm.exec) (hZ : Z.Warmed39 s.vm) (eT : T.heap = h) {own : String} {index n : Nat} (hown : s.vm.findClass own = some m.cls)
    (wl : (Jvm.Cond.methodLink own index y).before a0 Z = true) (wt : (Jvm.Cond.instanceMethod y).before a0 Z = true) (wp : (Jvm.Cond.privateMethod y).before a0 Z = true) (win : (Jvm.Cond.instantiable y.cls n).before a0 Z = true) (wi : (Jvm.Cond.initialized y.cls).before a0 Z = true) (wc : (Jvm.Cond.code y bytes maxL ret).before a0 Z = true) (hy : y.cls ≠ "java/lang/invoke/MethodHandle" ∧ y.cls ≠ "java/lang/invoke/VarHandle")
    {C : String} {a : Addr} (E : Exa Z h a C) {ps : List FieldType} {rt : Option FieldType} (hpd : parseMethodDescriptor y.desc = some ⟨ps, rt⟩) {g : JFrame} (hg : g.method = m) (hsize : g.locals.size = c.maxLocals) {argsL rest : List Value} (ha : (.ref a :: argsL).toArray = as') (hlen : argsL.length = ps.length) (hstack : g.stack = argsL.reverse ++ .ref a :: rest)
    {W : Nat} (hW : 2 * g.monitorRoom + (rest.map fun v => v.category).sum ≤ W) (hf : rm.frames + 1 ≤ R.frames) (hl : W + (maxL + 11) + rm.locals ≤ R.locals) (hd : decode c.code g.pc = .ok (.invokevirtual index, 3)) (hc : cells + rm.cells ≤ R.cells) (hs : slots + rm.slots ≤ R.slots) :
    ∃ (v : Option Value) (T' : State) (L : List Loc), Stand p l e R s m args below meth c T' (locs ++ L) (cells + rm.cells) (slots + rm.slots) ∧ Q v T'.heap L ∧ ∀ target, Steps p.tables e below (T'.setTop { g with pc := g.pc + 3, stack := v.toList ++ rest }) target → Steps p.tables e below (T.setTop g) target := by
  obtain ⟨cq, q, q'⟩ := E.cell
  obtain ⟨ck, k, i1, i2, i3, i4, -⟩ := Cond.instantiable_spec (mvT (args := args) hZ win)
  have hni : k.isInterface = false := by cases hk : k.isInterface <;> simp [hk] at i4 ⊢
  have hpr := Cond.privateMethod_at (mvP (args := args) hZ wp)
  obtain ⟨v, _, ⟨T', L, k, n⟩, -, X', ⟨Lc, hQ, l1, y1, z1⟩, st⟩ := X.privateBack hx hown (mvT hZ wl) (mvT hZ wt) (selects_self_of_private i1 i2 hni hpr (mvT hZ wt) hy) hpr (mvT hZ wc) hy (backOf (W := W) M hZ wc wi hf hl) hg hsize (Steps.refl _) (a := a) (by rw [eT]; exact q) q' (argsL := argsL) (rest := rest) (lenOf hpd hlen) hstack hW hd (fun _ _ => ⟨ha, eT, hc, hs⟩)
  dsimp only [Pt.U, Pt.locs, Pt.cells, Pt.slots] at X' l1 y1 z1 st hQ
  subst l1 y1 z1
  exact ⟨v, T', Lc, X', hQ, fun target k => st.trans k⟩
end Calls
/-! ## an array by the list of what it holds -/
def Arl (Z : State) (h : Heap) (a : Addr) (ty : FieldType) (vs : List Value) : Prop := ∃ c : Cell, Arr Z h a c ty ∧ c.slots.toList = vs ∧ vs.length < 2 ^ 31
section Arls
variable {p : Program} {l : Launch} {e : Env} {R : Room} {s : State} {m : MethodId} {args : Array Value} {below : List Frame} {meth : Method} {c : Code} {T : State} {locs : List Loc} {cells slots : Nat} {Z : State} {a0 : Array Value} {h h' h0 : Heap}
variable {a b : Addr} {ty : FieldType} {vs : List Value} {v : Value} {sl : Nat} {ws : List Addr}
theorem Arl.lt (F : Arl Z h a ty vs) : a < h.size := by obtain ⟨c, A, -⟩ := F; exact A.lt
theorem Arl.ext (F : Arl Z h a ty vs) (E : Ext h h') : Arl Z h' a ty vs := by obtain ⟨c, A, r⟩ := F; exact ⟨c, A.ext E, r⟩
theorem Arl.other (F : Arl Z h b ty vs) (W : Wr h h' a sl v) (q : b ≠ a) : Arl Z h' b ty vs := by obtain ⟨c, A, r⟩ := F; exact ⟨c, A.other W q, r⟩
theorem Arl.keep (F : Arl Z h a ty vs) (K : Keep h h' ws) (q : a ∉ ws) : Arl Z h' a ty vs := by obtain ⟨c, A, r⟩ := F; exact ⟨c, ⟨K.2.1 a c A.1 q, A.2⟩, r⟩
theorem Arl.wr (F : Arl Z h a ty vs) (W : Wr h h' a sl v) : Arl Z h' a ty (vs.set sl v) := by
  obtain ⟨c, A, e, q⟩ := F
  exact ⟨c.setSlot sl v, A.same W, by rw [← e]; simp [Cell.setSlot], by simpa using q⟩
theorem Arl.inb {c : Cell} {j : Int32} {i : Nat} (e : c.slots.toList = vs) (hj : j.toNatClampNeg = i) (h0 : ¬ j < 0) (hi : i < vs.length) : ¬ (j < 0 ∨ c.slots.size ≤ j.toNatClampNeg) := by
  subst hj e
  rintro (q | q)
  · exact h0 q
  · simp at hi; omega
theorem Arl.at {c : Cell} {j : Int32} {i : Nat} (e : c.slots.toList = vs) (hj : j.toNatClampNeg = i) (hv : vs[i]? = some v) : c.slots[j.toNatClampNeg]? = some v := by
  subst hj e; simpa using hv
theorem some_lt {i : Nat} (hv : vs[i]? = some v) : i < vs.length := (List.getElem?_eq_some_iff.mp hv).1
theorem newL (X : Stand p l e R s m args below meth c T locs cells slots) (hx : p.tables.exec = Jvm.exec) (hZ : Z.Warmed39 s.vm) {aty : ArrayType} (w : (Jvm.Cond.arrayClass (newarray.typeOf aty)).before a0 Z = true) (eT : T.heap = h) {g : JFrame} (hg : g.method = m) (hd : decode c.code g.pc = .ok (.newarray aty, 2)) {n : Int32} {rest : List Value} (hs : g.stack = .int n :: rest)
    (hn : ¬ n < 0) {cap : Nat} (hcap : n.toNatClampNeg = cap) (hb : cap * 8 ≤ 536870912) (hc : cells + 1 ≤ R.cells) (hl : slots + cap ≤ R.slots) :
    ∃ T' h', Stand p l e R s m args below meth c T' locs (cells + 1) (slots + cap) ∧ T'.heap = h' ∧ Ext h h' ∧ Arl Z h' h.size (newarray.typeOf aty) (List.replicate cap (defaultValue (newarray.typeOf aty))) ∧
      ∀ target, Steps p.tables e below (T'.setTop { g with pc := g.pc + 2, stack := .ref h.size :: rest }) target → Steps p.tables e below (T.setTop g) target := by
  obtain ⟨T', h', cA, X', e', E, A, st⟩ := newP X hx hZ w eT hg hd hs hn (cap := cap) (Nat.le_of_eq hcap) hb hc hl
  refine ⟨T', h', X', e', E, ⟨_, A, by simp [newA, hcap], ?_⟩, st⟩
  have := (back32 hn).2
  rw [List.length_replicate]; omega
theorem lenL (X : Stand p l e R s m args below meth c T locs cells slots) (hx : p.tables.exec = Jvm.exec) (hZ : Z.Warmed39 s.vm) (eT : T.heap = h) (F : Arl Z h a ty vs) {n : Int32} (hn : vs.length.toInt32 = n) {g : JFrame} (hg : g.method = m) {rest : List Value} (hs : g.stack = .ref a :: rest) (hd : decode c.code g.pc = .ok (.arraylength, 1)) (target : State)
    (k : Steps p.tables e below (T.setTop { g with pc := g.pc + 1, stack := .int n :: rest }) target) : Steps p.tables e below (T.setTop g) target := by
  obtain ⟨cl, A, e1, q⟩ := F
  have q2 : cl.slots.size.toInt32 = n := by rw [← hn, ← e1]; simp
  exact X.arraylength hx (by rw [eT]; exact A.1) (State.isArrayOf_alike hZ.alike A.2.1) hg hs hd target (by rw [q2]; exact k)
theorem ldD (X : Stand p l e R s m args below meth c T locs cells slots) (hx : p.tables.exec = Jvm.exec) (hZ : Z.Warmed39 s.vm) (eT : T.heap = h) (F : Arl Z h a .double vs) {j : Int32} {i : Nat} (hj : j.toNatClampNeg = i) (h0 : ¬ j < 0) (hv : vs[i]? = some v) {g : JFrame} (hg : g.method = m) {rest : List Value} (hs : g.stack = .int j :: .ref a :: rest) (hd : decode c.code g.pc = .ok (.daload, 1)) (target : State)
    (k : Steps p.tables e below (T.setTop { g with pc := g.pc + 1, stack := v :: rest }) target) : Steps p.tables e below (T.setTop g) target := by
  obtain ⟨cl, A, e1, q⟩ := F
  exact X.daload hx (by rw [eT]; exact A.1) (State.isArrayOf_alike hZ.alike A.2.1) A.2.2 (Arl.inb e1 hj h0 (some_lt hv)) (Arl.at e1 hj hv) hg hs hd target k
theorem ldI (X : Stand p l e R s m args below meth c T locs cells slots) (hx : p.tables.exec = Jvm.exec) (hZ : Z.Warmed39 s.vm) (eT : T.heap = h) (F : Arl Z h a .int vs) {j : Int32} {i : Nat} (hj : j.toNatClampNeg = i) (h0 : ¬ j < 0) (hv : vs[i]? = some v) {g : JFrame} (hg : g.method = m) {rest : List Value} (hs : g.stack = .int j :: .ref a :: rest) (hd : decode c.code g.pc = .ok (.iaload, 1)) (target : State)
    (k : Steps p.tables e below (T.setTop { g with pc := g.pc + 1, stack := v :: rest }) target) : Steps p.tables e below (T.setTop g) target := by
  obtain ⟨cl, A, e1, q⟩ := F
  exact X.iaload hx (by rw [eT]; exact A.1) (State.isArrayOf_alike hZ.alike A.2.1) A.2.2 (Arl.inb e1 hj h0 (some_lt hv)) (Arl.at e1 hj hv) hg hs hd target k
theorem ldJ (X : Stand p l e R s m args below meth c T locs cells slots) (hx : p.tables.exec = Jvm.exec) (hZ : Z.Warmed39 s.vm) (eT : T.heap = h) (F : Arl Z h a .long vs) {j : Int32} {i : Nat} (hj : j.toNatClampNeg = i) (h0 : ¬ j < 0) (hv : vs[i]? = some v) {g : JFrame} (hg : g.method = m) {rest : List Value} (hs : g.stack = .int j :: .ref a :: rest) (hd : decode c.code g.pc = .ok (.laload, 1)) (target : State)
    (k : Steps p.tables e below (T.setTop { g with pc := g.pc + 1, stack := v :: rest }) target) : Steps p.tables e below (T.setTop g) target := by
  obtain ⟨cl, A, e1, q⟩ := F
  exact X.laload hx (by rw [eT]; exact A.1) (State.isArrayOf_alike hZ.alike A.2.1) A.2.2 (Arl.inb e1 hj h0 (some_lt hv)) (Arl.at e1 hj hv) hg hs hd target k
theorem ldZ (X : Stand p l e R s m args below meth c T locs cells slots) (hx : p.tables.exec = Jvm.exec) (hZ : Z.Warmed39 s.vm) (eT : T.heap = h) (F : Arl Z h a .boolean vs) {j : Int32} {i : Nat} (hj : j.toNatClampNeg = i) (h0 : ¬ j < 0) (hv : vs[i]? = some v) {g : JFrame} (hg : g.method = m) {rest : List Value} (hs : g.stack = .int j :: .ref a :: rest) (hd : decode c.code g.pc = .ok (.baload, 1)) (target : State)
    (k : Steps p.tables e below (T.setTop { g with pc := g.pc + 1, stack := v :: rest }) target) : Steps p.tables e below (T.setTop g) target := by
  obtain ⟨cl, A, e1, q⟩ := F
  exact X.baloadBooleans hx (by rw [eT]; exact A.1) (State.isArrayOf_alike hZ.alike A.2.1) A.2.2 (Arl.inb e1 hj h0 (some_lt hv)) (Arl.at e1 hj hv) hg hs hd target k
theorem ldR (X : Stand p l e R s m args below meth c T locs cells slots) (hx : p.tables.exec = Jvm.exec) (hZ : Z.Warmed39 s.vm) (eT : T.heap = h) (F : Arl Z h a ty vs) (hty : ty.isReference = true) {j : Int32} {i : Nat} (hj : j.toNatClampNeg = i) (h0 : ¬ j < 0) (hv : vs[i]? = some v) {g : JFrame} (hg : g.method = m) {rest : List Value} (hs : g.stack = .int j :: .ref a :: rest) (hd : decode c.code g.pc = .ok (.aaload, 1)) (target : State)
    (k : Steps p.tables e below (T.setTop { g with pc := g.pc + 1, stack := v :: rest }) target) : Steps p.tables e below (T.setTop g) target := by
  obtain ⟨cl, A, e1, q⟩ := F
  exact X.aaload hx (by rw [eT]; exact A.1) (State.isArrayOf_alike hZ.alike A.2.1) hty A.2.2 (Arl.inb e1 hj h0 (some_lt hv)) (Arl.at e1 hj hv) hg hs hd target k
theorem stDl (X : Stand p l e R s m args below meth c T locs cells slots) (hx : p.tables.exec = Jvm.exec) (hZ : Z.Warmed39 s.vm) (eT : T.heap = h) (F : Arl Z h a .double vs) {j : Int32} {i : Nat} {x : UInt64} (hj : j.toNatClampNeg = i) (h0 : ¬ j < 0) (hi : i < vs.length) {g : JFrame} (hg : g.method = m) {rest : List Value} (hs : g.stack = .double x :: .int j :: .ref a :: rest) (hd : decode c.code g.pc = .ok (.dastore, 1)) :
    ∃ T' h', Stand p l e R s m args below meth c T' (locs ++ [⟨a, i⟩]) cells slots ∧ T'.heap = h' ∧ Wr h h' a i (.double x) ∧ Arl Z h' a .double (vs.set i (.double x)) ∧ ∀ target, Steps p.tables e below (T'.setTop { g with pc := g.pc + 1, stack := rest }) target → Steps p.tables e below (T.setTop g) target := by
  have F0 := F
  obtain ⟨cl, A, e1, q⟩ := F
  obtain ⟨T', h', X', e', W, st⟩ := stD X hx hZ eT A (Arl.inb e1 hj h0 hi) hg hs hd
  subst hj
  exact ⟨T', h', X', e', W, F0.wr W, st⟩
theorem stIl (X : Stand p l e R s m args below meth c T locs cells slots) (hx : p.tables.exec = Jvm.exec) (hZ : Z.Warmed39 s.vm) (eT : T.heap = h) (F : Arl Z h a .int vs) {j : Int32} {i : Nat} {x : Int32} (hj : j.toNatClampNeg = i) (h0 : ¬ j < 0) (hi : i < vs.length) {g : JFrame} (hg : g.method = m) {rest : List Value} (hs : g.stack = .int x :: .int j :: .ref a :: rest) (hd : decode c.code g.pc = .ok (.iastore, 1)) :
    ∃ T' h', Stand p l e R s m args below meth c T' (locs ++ [⟨a, i⟩]) cells slots ∧ T'.heap = h' ∧ Wr h h' a i (.int x) ∧ Arl Z h' a .int (vs.set i (.int x)) ∧ ∀ target, Steps p.tables e below (T'.setTop { g with pc := g.pc + 1, stack := rest }) target → Steps p.tables e below (T.setTop g) target := by
  have F0 := F
  obtain ⟨cl, A, e1, q⟩ := F
  obtain ⟨T', h', X', e', W, st⟩ := stI X hx hZ eT A (Arl.inb e1 hj h0 hi) hg hs hd
  subst hj
  exact ⟨T', h', X', e', W, F0.wr W, st⟩
theorem stJl (X : Stand p l e R s m args below meth c T locs cells slots) (hx : p.tables.exec = Jvm.exec) (hZ : Z.Warmed39 s.vm) (eT : T.heap = h) (F : Arl Z h a .long vs) {j : Int32} {i : Nat} {x : Int64} (hj : j.toNatClampNeg = i) (h0 : ¬ j < 0) (hi : i < vs.length) {g : JFrame} (hg : g.method = m) {rest : List Value} (hs : g.stack = .long x :: .int j :: .ref a :: rest) (hd : decode c.code g.pc = .ok (.lastore, 1)) :
    ∃ T' h', Stand p l e R s m args below meth c T' (locs ++ [⟨a, i⟩]) cells slots ∧ T'.heap = h' ∧ Wr h h' a i (.long x) ∧ Arl Z h' a .long (vs.set i (.long x)) ∧ ∀ target, Steps p.tables e below (T'.setTop { g with pc := g.pc + 1, stack := rest }) target → Steps p.tables e below (T.setTop g) target := by
  have F0 := F
  obtain ⟨cl, A, e1, q⟩ := F
  obtain ⟨T', h', X', e', W, st⟩ := stJ X hx hZ eT A (Arl.inb e1 hj h0 hi) hg hs hd
  subst hj
  exact ⟨T', h', X', e', W, F0.wr W, st⟩
end Arls
end Jvm.OwnKit
namespace Jvm.OwnKit
open Jvm.FP Jvm.FP.Core
/-! ## dyadic doubles: a is the number i / 2^k -/
def shf (k : Int) : Datum → Datum
  | .nan => .nan
  | .inf s => .inf s
  | .fin s c q => .fin s c (q + k)
def Dy (i : Int) (k : Int) (a : UInt64) : Prop := Whole i (shf k (val64 a))
theorem shf_zero (d : Datum) : shf 0 d = d := by cases d <;> simp [shf]
theorem shf_shf (j k : Int) (d : Datum) : shf j (shf k d) = shf (k + j) d := by cases d <;> simp [shf]; omega
theorem shf_neg (k : Int) (x : Datum) : shf k (negate x) = negate (shf k x) := by cases x <;> rfl
theorem inU_shf (c : Nat) (q e k : Int) : inUnits c (q + k) (e + k) = inUnits c q e := by
  unfold inUnits; rw [show q + k - (e + k) = q - e by omega]
theorem shf_sum (k : Int) (x y : Datum) : shf k (exactSum x y) = exactSum (shf k x) (shf k y) := by
  cases x <;> cases y
  case fin.fin s c q t d r =>
    have hm : min (q + k) (r + k) = min q r + k := by omega
    simp only [shf, exactSum, hm, sumUnits, inU_shf]
  case inf.inf s t => by_cases h : s = t <;> simp [shf, exactSum, h]
  all_goals rfl
theorem shf_prod (k j : Int) (x y : Datum) : shf (k + j) (exactProduct x y) = exactProduct (shf k x) (shf j y) := by
  cases x <;> cases y
  case fin.fin s c q t d r => simp only [shf, exactProduct]; congr 1; omega
  case inf.fin s t d r => by_cases h : d = 0 <;> simp [shf, exactProduct, h]
  case fin.inf s c q t => by_cases h : c = 0 <;> simp [shf, exactProduct, h]
  all_goals rfl
theorem shf_order (k : Int) (x y : Datum) : order (shf k x) (shf k y) = order x y := by
  cases x <;> cases y
  case fin.fin s c q t d r =>
    have hm : min (q + k) (r + k) = min q r + k := by omega
    simp only [shf, order, hm, inU_shf]
  all_goals rfl
/-- a number of at most 53 digits at a middling exponent is rounded to itself -/
theorem whole_exact {s : Bool} {n : Nat} {k : Int} (hn : n < 2 ^ 53) (h1 : -900 ≤ k) (h2 : k ≤ 1000) : Whole (signed s n) (shf k (round b64 (.fin s n (-k)))) := by
  have q1 : b64.qmin = -1074 := by decide
  have q2 : b64.qmax = 971 := by decide
  obtain ⟨c', q', e1, e2⟩ := round_exact good_b64 s (c := n) (q := -k) (by exact hn) (by omega) (by omega)
  have hf := round_fits good_b64 (.fin s n (-k))
  rw [e1] at hf
  have g1 := hf.2.1
  rw [e1]
  show signed s (c' * 2 ^ (q' + k).toNat) = signed s n * ((2 ^ (-(q' + k)).toNat : Nat) : Int)
  rw [← signed_mul]
  congr 1
  unfold inUnits at e2
  rw [q1] at e2 g1
  refine Nat.eq_of_mul_eq_mul_right (Nat.two_pow_pos ((-k - -1074).toNat)) ?_
  refine Nat.eq_of_mul_eq_mul_right (Nat.two_pow_pos ((q' - -1074).toNat)) ?_
  have hx : (q' + k).toNat + (-k - -1074).toNat = (-(q' + k)).toNat + (q' - -1074).toNat := by omega
  calc c' * 2 ^ (q' + k).toNat * 2 ^ (-k - -1074).toNat * 2 ^ (q' - -1074).toNat
      = (c' * 2 ^ (q' - -1074).toNat) * 2 ^ ((q' + k).toNat + (-k - -1074).toNat) := by rw [Nat.pow_add]; ac_rfl
    _ = (n * 2 ^ (-k - -1074).toNat) * 2 ^ ((-(q' + k)).toNat + (q' - -1074).toNat) := by rw [e2, hx]
    _ = n * 2 ^ (-(q' + k)).toNat * 2 ^ (-k - -1074).toNat * 2 ^ (q' - -1074).toNat := by rw [Nat.pow_add]; ac_rfl
theorem signed_abs {s : Bool} {i : Int} (h : i ≠ 0 → s = decide (i < 0)) : signed s i.natAbs = i := by
  by_cases hi : i = 0
  · subst hi; exact signed_zero s
  · rw [h hi]; unfold signed; by_cases q : i < 0 <;> simp [q] <;> omega
theorem dy_round {i k : Int} {d : Datum} (hi : i.natAbs < 2 ^ 53) (h1 : -900 ≤ k) (h2 : k ≤ 1000) (h : Whole i (shf k d)) : Whole i (shf k (round b64 d)) := by
  cases d with
  | nan => exact h.elim
  | inf => exact h.elim
  | fin s c q =>
    have hw : Whole i (.fin s c (q + k)) := h
    have ha := whole_natAbs hw
    have e : round b64 (.fin s c q) = round b64 (.fin s i.natAbs (-k)) := by
      refine roundRatio_congr (by decide) (by decide) ?_
      rw [show (q - -k).toNat = (q + k).toNat by omega, show (-k - q).toNat = (-(q + k)).toNat by omega]
      simpa using ha
    rw [e]
    have := whole_exact (s := s) (k := k) hi h1 h2
    rw [signed_abs (fun hn => whole_sign hw hn)] at this
    exact this
section Dys
variable {i j k k' : Int} {a b : UInt64}
theorem Dy.fin (h : Dy i k a) : ∃ s c q, val64 a = .fin s c q := by
  unfold Dy at h
  cases hv : val64 a with
  | nan => rw [hv] at h; exact h.elim
  | inf s => rw [hv] at h; exact h.elim
  | fin s c q => exact ⟨s, c, q, rfl⟩
theorem Dy.nn (h : Dy i k a) : Jvm.Free.Fl.NoNaN64 a := by
  obtain ⟨s, c, q, e⟩ := h.fin
  refine Jvm.Free.Fl.val64_no.mpr ?_
  rw [e]; nofun
theorem Dy.l2d {a : Int64} (h : a.toInt.natAbs < 2 ^ 53) : Dy a.toInt 0 (FP.l2d a) := by
  unfold Dy; rw [shf_zero]; exact l2d_int (Nat.le_of_lt h)
theorem Dy.i2d (a : Int32) : Dy a.toInt 0 (FP.i2d a) := by
  unfold Dy; rw [shf_zero]; exact i2d_int a
theorem Dy.add (ha : Dy i k a) (hb : Dy j k b) (h : (i + j).natAbs < 2 ^ 53) (h1 : -900 ≤ k) (h2 : k ≤ 1000) : Dy (i + j) k (FP.dadd a b) := by
  show Whole (i + j) (shf k (val64 (Core.dadd a b)))
  rw [val64_dadd]
  refine dy_round h h1 h2 ?_
  rw [shf_sum]; exact whole_sum ha hb
theorem Dy.sub (ha : Dy i k a) (hb : Dy j k b) (h : (i - j).natAbs < 2 ^ 53) (h1 : -900 ≤ k) (h2 : k ≤ 1000) : Dy (i - j) k (FP.dsub a b) := by
  show Whole (i - j) (shf k (val64 (Core.dsub a b)))
  rw [val64_dsub]
  refine dy_round h h1 h2 ?_
  rw [shf_sum, shf_neg]; exact whole_sum ha (whole_negate hb)
theorem Dy.mul (ha : Dy i k a) (hb : Dy j k' b) (h : (i * j).natAbs < 2 ^ 53) (h1 : -900 ≤ k + k') (h2 : k + k' ≤ 1000) : Dy (i * j) (k + k') (FP.dmul a b) := by
  show Whole (i * j) (shf (k + k') (val64 (Core.dmul a b)))
  rw [val64_dmul]
  refine dy_round h h1 h2 ?_
  rw [shf_prod]; exact whole_product ha hb
theorem Dy.cmp (ha : Dy i k a) (hb : Dy j k b) : FP.dcmp a b = some (compare i j) := by
  show order (val64 a) (val64 b) = _
  rw [← shf_order k]; exact order_whole ha hb
theorem Dy.up (ha : Dy i k a) (n : Nat) : Dy (i * ((2 ^ n : Nat) : Int)) (k + n) a := by
  obtain ⟨s, c, q, e⟩ := ha.fin
  unfold Dy at ha ⊢
  rw [e] at ha ⊢
  have h : signed s (c * 2 ^ (q + k).toNat) = i * ((2 ^ (-(q + k)).toNat : Nat) : Int) := ha
  show signed s (c * 2 ^ (q + (k + n)).toNat) = i * ((2 ^ n : Nat) : Int) * ((2 ^ (-(q + (k + n))).toNat : Nat) : Int)
  have p : ((2 ^ (-(q + k)).toNat : Nat) : Int) ≠ 0 := by have := Nat.two_pow_pos (-(q + k)).toNat; omega
  refine Int.eq_of_mul_eq_mul_right p ?_
  have hx : (q + (k + n)).toNat + (-(q + k)).toNat = (q + k).toNat + (n + (-(q + (k + n))).toNat) := by omega
  calc signed s (c * 2 ^ (q + (k + n)).toNat) * ((2 ^ (-(q + k)).toNat : Nat) : Int)
      = signed s (c * 2 ^ ((q + (k + n)).toNat + (-(q + k)).toNat)) := by rw [← signed_mul, Nat.pow_add, Nat.mul_assoc]
    _ = signed s (c * 2 ^ (q + k).toNat) * ((2 ^ (n + (-(q + (k + n))).toNat) : Nat) : Int) := by rw [hx, Nat.pow_add, ← Nat.mul_assoc, signed_mul]
    _ = i * ((2 ^ n : Nat) : Int) * ((2 ^ (-(q + (k + n))).toNat : Nat) : Int) * ((2 ^ (-(q + k)).toNat : Nat) : Int) := by rw [h, Nat.pow_add, Int.natCast_mul]; ac_rfl
/-- the quotient of two dyadic numbers, rounded -/
theorem Dy.quot (ha : Dy i k a) (hb : Dy j k' b) (hj : j ≠ 0) : ∃ s, (i ≠ 0 → s = (decide (i < 0) != decide (j < 0))) ∧ val64 (FP.ddiv a b) = roundRatio b64 s i.natAbs j.natAbs (k' - k) := by
  obtain ⟨s, c, q, e⟩ := ha.fin
  obtain ⟨t, d, r, e'⟩ := hb.fin
  unfold Dy at ha hb
  rw [e] at ha; rw [e'] at hb
  have wa : Whole i (.fin s c (q + k)) := ha
  have wb : Whole j (.fin t d (r + k')) := hb
  have hd : d ≠ 0 := fun h0 => hj ((whole_zero wb).mp h0)
  refine ⟨s != t, fun hi => by rw [whole_sign wa hi, whole_sign wb hj], ?_⟩
  show val64 (Core.ddiv a b) = _
  rw [val64_ddiv, e, e']
  simp only [quotient, if_neg hd]
  refine roundRatio_congr (by omega) (by omega) ?_
  have na := whole_natAbs wa
  have nb := whole_natAbs wb
  have p : 0 < 2 ^ (r + k').toNat * 2 ^ (-(q + k)).toNat := Nat.mul_pos (Nat.two_pow_pos _) (Nat.two_pow_pos _)
  refine Nat.eq_of_mul_eq_mul_right (Nat.mul_pos (Nat.two_pow_pos (q + k).toNat) (Nat.two_pow_pos (-(r + k')).toNat)) ?_
  have hx : (q - r - (k' - k)).toNat + (-(q + k)).toNat + (r + k').toNat = (k' - k - (q - r)).toNat + ((q + k).toNat + (-(r + k')).toNat) := by omega
  calc c * j.natAbs * 2 ^ (q - r - (k' - k)).toNat * (2 ^ (q + k).toNat * 2 ^ (-(r + k')).toNat)
      = (c * 2 ^ (q + k).toNat) * (j.natAbs * 2 ^ (-(r + k')).toNat) * 2 ^ (q - r - (k' - k)).toNat := by ac_rfl
    _ = (i.natAbs * 2 ^ (-(q + k)).toNat) * (d * 2 ^ (r + k').toNat) * 2 ^ (q - r - (k' - k)).toNat := by rw [na, nb]
    _ = i.natAbs * d * 2 ^ ((q - r - (k' - k)).toNat + (-(q + k)).toNat + (r + k').toNat) := by rw [Nat.pow_add, Nat.pow_add]; ac_rfl
    _ = i.natAbs * d * 2 ^ (k' - k - (q - r)).toNat * (2 ^ (q + k).toNat * 2 ^ (-(r + k')).toNat) := by rw [hx, Nat.pow_add, Nat.pow_add]; ac_rfl
theorem Dy.div (ha : Dy (i * j) k a) (hb : Dy j k' b) (hj : j ≠ 0) (h : i.natAbs < 2 ^ 53) (h1 : -900 ≤ k - k') (h2 : k - k' ≤ 1000) : Dy i (k - k') (FP.ddiv a b) := by
  obtain ⟨s, hs, e⟩ := ha.quot hb hj
  unfold Dy
  rw [e]
  have e2 : roundRatio b64 s (i * j).natAbs j.natAbs (k' - k) = round b64 (.fin s i.natAbs (-(k - k'))) := by
    refine roundRatio_congr (by omega) (by decide) ?_
    rw [show k' - k - -(k - k') = 0 by omega, show -(k - k') - (k' - k) = 0 by omega, Int.natAbs_mul]
    simp
  rw [e2]
  have := whole_exact (s := s) (n := i.natAbs) (k := k - k') h h1 h2
  rw [signed_abs (fun hn => ?_)] at this
  · exact this
  · rw [hs (Int.mul_ne_zero hn hj)]
    rcases Int.lt_or_gt_of_ne hn with p | p <;> rcases Int.lt_or_gt_of_ne hj with q | q
    · have := Int.mul_pos_of_neg_of_neg p q
      simp [p, q, show ¬ i * j < 0 by omega]
    · have := Int.mul_neg_of_neg_of_pos p q
      simp [p, this, show ¬ j < 0 by omega]
    · have := Int.mul_neg_of_pos_of_neg p q
      simp [q, this, show ¬ i < 0 by omega]
    · have := Int.mul_pos p q
      simp [show ¬ i * j < 0 by omega, show ¬ j < 0 by omega, show ¬ i < 0 by omega]
end Dys
end Jvm.OwnKit
namespace Jvm.OwnKit
open Jvm.FP Jvm.FP.Core
section More
variable {i j k k' : Int} {a b : UInt64}
theorem Dy.cast (ha : Dy i k a) (h1 : i = j) (h2 : k = k') : Dy j k' a := by subst h1 h2; exact ha
theorem Dy.divp (ha : Dy i k a) (n : Nat) (hb : Dy ((2 ^ n : Nat) : Int) 0 b) (h : i.natAbs < 2 ^ 53) (h1 : -900 ≤ k + n) (h2 : k + n ≤ 1000) : Dy i (k + n) (FP.ddiv a b) := by
  have p := Nat.two_pow_pos n
  have := Dy.div (k := k + n) (k' := 0) (ha.up n) hb (by omega) h (by omega) (by omega)
  exact this.cast rfl (by omega)
theorem Dy.lit {a : UInt64} {s : Bool} {c : Nat} {q : Int} (e : val64 a = .fin s c q) (h : signed s (c * 2 ^ (q + k).toNat) = i * ((2 ^ (-(q + k)).toNat : Nat) : Int)) : Dy i k a := by
  unfold Dy; rw [e]; exact h
/-- a quotient of middling numbers and its 2^n-th part -/
theorem round_part {s : Bool} {A B n : Nat} (hA : 0 < A) (hB : 0 < B) (lA : A < 2 ^ 100) (lB : B < 2 ^ 100) (hn : n ≤ 100) : ∃ c q, roundRatio b64 s A B 0 = .fin s c q ∧ roundRatio b64 s A B (-(n : Int)) = .fin s c (q - n) := by
  have q1 : b64.qmin = -1074 := by decide
  have q2 : b64.qmax = 971 := by decide
  have hp : (b64.p : Int) - 1 = 52 := by decide
  have a1 : A.log2 < 100 := (Nat.log2_lt (by omega)).mpr lA
  have b1 : B.log2 < 100 := (Nat.log2_lt (by omega)).mpr lB
  have hl : -101 ≤ leading A B ∧ leading A B ≤ 100 := by
    unfold leading; dsimp only; split <;> omega
  have e1 : quantum b64 A B 0 = leading A B - 52 := by unfold quantum; rw [q1, hp]; omega
  have e2 : quantum b64 A B (-(n : Int)) = leading A B - 52 - n := by unfold quantum; rw [q1, hp]; omega
  have z : ¬ A = 0 := by omega
  unfold roundRatio
  rw [if_neg z, if_neg z, e1, e2]
  generalize leading A B = L at hl
  have u1 : unitsNum A (-(n : Int)) (L - 52 - n) = unitsNum A 0 (L - 52) := by unfold unitsNum; congr 2; omega
  have u2 : unitsDen B (-(n : Int)) (L - 52 - n) = unitsDen B 0 (L - 52) := by unfold unitsDen; congr 2; omega
  unfold roundAt
  rw [u1, u2]
  generalize nearest _ _ = c
  unfold settle bound
  by_cases hc : c < 2 ^ b64.p
  · rw [if_pos hc, if_pos hc, if_pos (by omega), if_pos (by omega)]
    exact ⟨_, _, rfl, rfl⟩
  · rw [if_neg hc, if_neg hc, if_pos (by omega), if_pos (by omega)]
    exact ⟨_, _, rfl, by congr 1; omega⟩
/-- (x / y) / 2^n where x / y is rounded once: the same as the rounding of x / (y * 2^n) -/
theorem div_part {x y w : UInt64} {A B : Int} {n : Nat} {got : UInt64} (hx : Dy A 0 x) (hy : Dy B 0 y) (hw : Dy ((2 ^ n : Nat) : Int) 0 w) (hA : 0 < A) (hB : 0 < B) (lA : A < 2 ^ 100) (lB : B < 2 ^ 100) (hn : n ≤ 100)
    {s0 : Bool} (hs : s0 = false) (hg : val64 got = roundRatio b64 s0 A.natAbs B.natAbs (-(n : Int))) : got = FP.ddiv (FP.ddiv x y) w ∧ val64 (FP.ddiv x y) ≠ .nan ∧ val64 got ≠ .nan := by
  subst hs
  obtain ⟨s, h1, h2⟩ := hx.quot hy (by omega)
  have hs : s = false := by rw [h1 (by omega)]; simp [show ¬ A < 0 by omega, show ¬ B < 0 by omega]
  subst hs
  obtain ⟨c, q, e1, e2⟩ := round_part (s := false) (A := A.natAbs) (B := B.natAbs) (n := n) (by omega) (by omega) (by omega) (by omega) hn
  have hf : Core.fits b64 (.fin false c (q - n)) := by rw [← e2]; exact roundRatio_fits good_b64 _ _ (by omega) _
  rw [show (0 : Int) - 0 = 0 by omega, e1] at h2
  rw [e2] at hg
  obtain ⟨t, d, r, ew⟩ := hw.fin
  have ww : Whole ((2 ^ n : Nat) : Int) (.fin t d (r + 0)) := by unfold Dy at hw; rw [ew] at hw; exact hw
  have p := Nat.two_pow_pos n
  have pz : ((2 ^ n : Nat) : Int) ≠ 0 := Int.natCast_ne_zero.mpr (Nat.ne_of_gt p)
  have ht : t = false := by rw [whole_sign ww pz]; exact decide_eq_false (Int.not_lt.mpr (Int.natCast_nonneg (2 ^ n)))
  subst ht
  have hd : d ≠ 0 := fun h0 => pz ((whole_zero ww).mp h0)
  have nw := whole_natAbs ww
  have hq : val64 (FP.ddiv (FP.ddiv x y) w) = .fin false c (q - n) := by
    show val64 (Core.ddiv _ _) = _
    rw [val64_ddiv, h2, ew]
    simp only [quotient, if_neg hd]
    refine roundRatio_exact good_b64 (by omega) hf ?_
    rw [show q - r - (q - n) = n - r by omega, show q - n - (q - r) = r - n by omega]
    rw [Int.natAbs_natCast, Int.add_zero] at nw
    refine Nat.eq_of_mul_eq_mul_right (Nat.two_pow_pos r.toNat) ?_
    have hx : (n - r : Int).toNat + r.toNat = (r - n : Int).toNat + (n + (-r).toNat) := by omega
    calc c * 2 ^ (n - r : Int).toNat * 2 ^ r.toNat = c * 2 ^ ((n - r : Int).toNat + r.toNat) := by rw [Nat.pow_add, Nat.mul_assoc]
      _ = c * 2 ^ (r - n : Int).toNat * (2 ^ n * 2 ^ (-r).toNat) := by rw [hx, Nat.pow_add, Nat.pow_add, Nat.mul_assoc]
      _ = c * d * 2 ^ (r - n : Int).toNat * 2 ^ r.toNat := by rw [← nw]; ac_rfl
  refine ⟨val64_inj (by rw [hg]; nofun) (by rw [hg, hq]), by rw [h2]; nofun, by rw [hg]; nofun⟩
end More
end Jvm.OwnKit
namespace Jvm.OwnKit
open Jvm.FP Jvm.FP.Core
section Pow
variable {i j k k' : Int} {a b : UInt64}
theorem whole_up {d : Datum} {n : Nat} : Whole i (shf k d) ↔ Whole (i * ((2 ^ n : Nat) : Int)) (shf (k + n) d) := by
  cases d with
  | nan => exact Iff.rfl
  | inf => exact Iff.rfl
  | fin s c q =>
    show signed s (c * 2 ^ (q + k).toNat) = i * ((2 ^ (-(q + k)).toNat : Nat) : Int) ↔ signed s (c * 2 ^ (q + (k + n)).toNat) = i * ((2 ^ n : Nat) : Int) * ((2 ^ (-(q + (k + n))).toNat : Nat) : Int)
    have p : ((2 ^ (-(q + k)).toNat : Nat) : Int) ≠ 0 := by have := Nat.two_pow_pos (-(q + k)).toNat; omega
    have p2 : ((2 ^ (n + (-(q + (k + n))).toNat) : Nat) : Int) ≠ 0 := by have := Nat.two_pow_pos (n + (-(q + (k + n))).toNat); omega
    have hx : (q + (k + n)).toNat + (-(q + k)).toNat = (q + k).toNat + (n + (-(q + (k + n))).toNat) := by omega
    have e1 : signed s (c * 2 ^ (q + (k + n)).toNat) * ((2 ^ (-(q + k)).toNat : Nat) : Int) = signed s (c * 2 ^ (q + k).toNat) * ((2 ^ (n + (-(q + (k + n))).toNat) : Nat) : Int) := by
      rw [← signed_mul, ← signed_mul, Nat.mul_assoc, ← Nat.pow_add, Nat.mul_assoc, ← Nat.pow_add, hx]
    have e2 : i * ((2 ^ n : Nat) : Int) * ((2 ^ (-(q + (k + n))).toNat : Nat) : Int) * ((2 ^ (-(q + k)).toNat : Nat) : Int) = i * ((2 ^ (-(q + k)).toNat : Nat) : Int) * ((2 ^ (n + (-(q + (k + n))).toNat) : Nat) : Int) := by
      rw [Nat.pow_add, Int.natCast_mul]; ac_rfl
    constructor
    · intro h
      refine Int.eq_of_mul_eq_mul_right p ?_
      rw [e1, e2, h]
    · intro h
      refine Int.eq_of_mul_eq_mul_right p2 ?_
      rw [← e1, ← e2, h]
theorem Dy.down {n : Nat} (ha : Dy (i * ((2 ^ n : Nat) : Int)) (k + n) a) : Dy i k a := whole_up.mpr ha
/-- times a power of two -/
theorem Dy.mulp (ha : Dy i k a) (n : Nat) (hb : Dy ((2 ^ n : Nat) : Int) 0 b) (h : i.natAbs < 2 ^ 53) (h1 : -900 ≤ k - n) (h2 : k - n ≤ 1000) : Dy i (k - n) (FP.dmul a b) := by
  show Whole i (shf (k - n) (val64 (Core.dmul a b)))
  rw [val64_dmul]
  refine dy_round h h1 h2 ?_
  rw [whole_up (n := n), show k - n + n = k + 0 by omega, shf_prod]
  exact whole_product ha hb
end Pow
end Jvm.OwnKit
namespace Jvm.OwnKit
open Jvm.FP Jvm.FP.Core
/-! ## longs and doubles with their worth and a bound on it -/
def Iv (x : Int64) (v : Int) (B : Nat) : Prop := x.toInt = v ∧ v.natAbs ≤ B
def Db (i k : Int) (B : Nat) (a : UInt64) : Prop := Dy i k a ∧ i.natAbs ≤ B
theorem mulB {x y : Int} {X Y : Nat} (hx : x.natAbs ≤ X) (hy : y.natAbs ≤ Y) : (x * y).natAbs ≤ X * Y := by rw [Int.natAbs_mul]; exact Nat.mul_le_mul hx hy
section Ivs
variable {x y : Int64} {v w : Int} {B C : Nat}
theorem Iv.mul (hx : Iv x v B) (hy : Iv y w C) (h : B * C < 2 ^ 63) : Iv (x * y) (v * w) (B * C) := by
  have m := mulB hx.2 hy.2
  obtain ⟨rfl, -⟩ := hx; obtain ⟨rfl, -⟩ := hy
  exact ⟨int64_mul (by omega) (by omega), m⟩
theorem Iv.add (hx : Iv x v B) (hy : Iv y w C) (h : B + C < 2 ^ 63) : Iv (x + y) (v + w) (B + C) := by
  obtain ⟨rfl, p⟩ := hx; obtain ⟨rfl, q⟩ := hy
  exact ⟨int64_add (by omega) (by omega), by omega⟩
theorem Iv.sub (hx : Iv x v B) (hy : Iv y w C) (h : B + C < 2 ^ 63) : Iv (x - y) (v - w) (B + C) := by
  obtain ⟨rfl, p⟩ := hx; obtain ⟨rfl, q⟩ := hy
  exact ⟨int64_sub (by omega) (by omega), by omega⟩
theorem Iv.eq (hx : Iv x v B) (e : x = y) : Iv y v B := e ▸ hx
theorem Iv.le (hx : Iv x v B) (h : B ≤ C) : Iv x v C := ⟨hx.1, Nat.le_trans hx.2 h⟩
theorem Iv.val (hx : Iv x v B) (e : v = w) : Iv x w B := e ▸ hx
theorem Iv.db (hx : Iv x v B) (h : B < 2 ^ 53) : Db v 0 B (FP.l2d x) := by
  obtain ⟨rfl, p⟩ := hx; exact ⟨Dy.l2d (by omega), p⟩
theorem Iv.lit (n : Int) (h : x.toInt = n) (hb : n.natAbs ≤ B) : Iv x n B := ⟨h, hb⟩
theorem Iv.i2l {z : Int32} (h : z.toInt = v) (hb : v.natAbs ≤ B) : Iv z.toInt64 v B := ⟨by rw [Int32.toInt_toInt64]; exact h, hb⟩
end Ivs
section Dbs
variable {i j k k' k2 : Int} {A B : Nat} {a b : UInt64}
theorem Db.nn (h : Db i k A a) : Jvm.Free.Fl.NoNaN64 a := h.1.nn
theorem Db.add (ha : Db i k A a) (hb : Db j k B b) (h : A + B < 2 ^ 53 ∧ -900 ≤ k ∧ k ≤ 1000) : Db (i + j) k (A + B) (FP.dadd a b) :=
  ⟨ha.1.add hb.1 (by have := ha.2; have := hb.2; omega) h.2.1 h.2.2, by have := ha.2; have := hb.2; omega⟩
theorem Db.sub (ha : Db i k A a) (hb : Db j k B b) (h : A + B < 2 ^ 53 ∧ -900 ≤ k ∧ k ≤ 1000) : Db (i - j) k (A + B) (FP.dsub a b) :=
  ⟨ha.1.sub hb.1 (by have := ha.2; have := hb.2; omega) h.2.1 h.2.2, by have := ha.2; have := hb.2; omega⟩
theorem Db.mul (ha : Db i k A a) (hb : Db j k' B b) (hk : k + k' = k2) (h : A * B < 2 ^ 53 ∧ -900 ≤ k2 ∧ k2 ≤ 1000) : Db (i * j) k2 (A * B) (FP.dmul a b) := by
  subst hk
  have m := mulB ha.2 hb.2
  exact ⟨ha.1.mul hb.1 (by omega) h.2.1 h.2.2, m⟩
theorem Db.up (ha : Db i k A a) (n : Nat) (hk : k + n = k2) {c : Int} (hc : ((2 ^ n : Nat) : Int) = c) {C : Nat} (hC : A * 2 ^ n = C) : Db (i * c) k2 C a := by
  subst hk hc hC
  exact ⟨ha.1.up n, by rw [Int.natAbs_mul, Int.natAbs_natCast]; exact Nat.mul_le_mul_right _ ha.2⟩
theorem Db.divp (ha : Db i k A a) (n : Nat) (hb : Dy ((2 ^ n : Nat) : Int) 0 b) (hk : k + n = k2) (h : A < 2 ^ 53 ∧ -900 ≤ k2 ∧ k2 ≤ 1000) : Db i k2 A (FP.ddiv a b) := by
  subst hk
  exact ⟨ha.1.divp n hb (by have := ha.2; omega) h.2.1 h.2.2, ha.2⟩
theorem Db.mulp (ha : Db i k A a) (n : Nat) (hb : Dy ((2 ^ n : Nat) : Int) 0 b) (hk : k - n = k2) (h : A < 2 ^ 53 ∧ -900 ≤ k2 ∧ k2 ≤ 1000) : Db i k2 A (FP.dmul a b) := by
  subst hk
  exact ⟨ha.1.mulp n hb (by have := ha.2; omega) h.2.1 h.2.2, ha.2⟩
theorem Db.eq (ha : Db i k A a) (e : a = b) : Db i k A b := e ▸ ha
theorem Db.val (ha : Db i k A a) (e : i = j) : Db j k A a := e ▸ ha
theorem Db.le (ha : Db i k A a) (h : A ≤ B) : Db i k B a := ⟨ha.1, Nat.le_trans ha.2 h⟩
theorem Db.lit {s : Bool} {c : Nat} {q : Int} (e : val64 a = .fin s c q) (h : signed s (c * 2 ^ (q + k).toNat) = i * ((2 ^ (-(q + k)).toNat : Nat) : Int)) (hb : i.natAbs ≤ A) : Db i k A a := ⟨Dy.lit e h, hb⟩
theorem Db.i2d {z : Int32} (h : z.toInt = i) (hb : i.natAbs ≤ A) : Db i 0 A (FP.i2d z) := by subst h; exact ⟨Dy.i2d z, hb⟩
theorem Db.cmp (ha : Db i k A a) (hb : Db j k B b) (e : i = j) : FP.dcmp a b = some .eq := by rw [ha.1.cmp hb.1, e, compare_self_int]
theorem Db.cmpV (ha : Db i k A a) (hb : Db j k B b) (e : i = j) (o : Jvm.ClassFile.CmpOp) : Jvm.Op.cmpValue (FP.dcmp a b) o = 0 := by rw [ha.cmp hb e]; rfl
end Dbs
end Jvm.OwnKit
namespace Jvm.OwnKit
theorem and64 (x m : Int64) (hm : 0 ≤ m.toInt) : 0 ≤ (x &&& m).toInt ∧ (x &&& m).toInt ≤ m.toInt := by
  have h : (x &&& m).toBitVec.toNat ≤ m.toBitVec.toNat := by rw [Int64.toBitVec_and, BitVec.toNat_and]; exact Nat.and_le_right
  have e : ∀ y : Int64, y.toInt = y.toBitVec.toInt := fun _ => rfl
  rw [e] at hm ⊢
  rw [e m]
  rw [BitVec.toInt_eq_toNat_cond] at hm ⊢
  rw [BitVec.toInt_eq_toNat_cond]
  have l1 := m.toBitVec.isLt
  have l2 := (x &&& m).toBitVec.isLt
  split at hm <;> split <;> omega
theorem and32 (x m : Int32) (hm : 0 ≤ m.toInt) : 0 ≤ (x &&& m).toInt ∧ (x &&& m).toInt ≤ m.toInt := by
  have h : (x &&& m).toBitVec.toNat ≤ m.toBitVec.toNat := by rw [Int32.toBitVec_and, BitVec.toNat_and]; exact Nat.and_le_right
  have e : ∀ y : Int32, y.toInt = y.toBitVec.toInt := fun _ => rfl
  rw [e] at hm ⊢
  rw [e m]
  rw [BitVec.toInt_eq_toNat_cond] at hm ⊢
  rw [BitVec.toInt_eq_toNat_cond]
  have l1 := m.toBitVec.isLt
  have l2 := (x &&& m).toBitVec.isLt
  split at hm <;> split <;> omega
end Jvm.OwnKit
namespace Jvm.Pilot.@@N@@
open Jvm Jvm.ClassFile Sem Op Lib Jvm.Free Jvm.Stand Jvm.LawKit Jvm.RoadKit Jvm.OwnKit Bundle Jvm.Pilot.@@N@@.Jvm.D

theorem own_four : Dy ((2 ^ 2 : Nat) : Int) 0 (4616189618054758400 : UInt64) := Dy.lit (show FP.Core.val64 4616189618054758400 = .fin false 4503599627370496 (-50) by decide +kernel) (by decide)
theorem own_b16 : Dy ((2 ^ 4 : Nat) : Int) 0 (4625196817309499392 : UInt64) := Dy.lit (show FP.Core.val64 4625196817309499392 = .fin false 4503599627370496 (-48) by decide +kernel) (by decide)
theorem own_b64 : Dy ((2 ^ 6 : Nat) : Int) 0 (4634204016564240384 : UInt64) := Dy.lit (show FP.Core.val64 4634204016564240384 = .fin false 4503599627370496 (-46) by decide +kernel) (by decide)
theorem own_b256 : Dy ((2 ^ 8 : Nat) : Int) 0 (4643211215818981376 : UInt64) := Dy.lit (show FP.Core.val64 4643211215818981376 = .fin false 4503599627370496 (-44) by decide +kernel) (by decide)
theorem own_b4096 : Dy ((2 ^ 12 : Nat) : Int) 0 (4661225614328463360 : UInt64) := Dy.lit (show FP.Core.val64 4661225614328463360 = .fin false 4503599627370496 (-40) by decide +kernel) (by decide)
theorem own_one : Db 1 0 1 FP.dconst1 := Db.lit (show FP.Core.val64 FP.dconst1 = .fin false 4503599627370496 (-52) by decide +kernel) (by decide) (by decide)
theorem own_rem {x v : Int32} (e : x % (9 : Int32) = v) : v.toInt.natAbs ≤ 8 := by
  obtain ⟨p, q⟩ := c_irem x 9 9 rfl
  rw [e] at p q
  rcases Int.lt_or_le x.toInt 0 with h | h
  · have := q h; omega
  · have := p h; omega
/-- one order's factor: 1 - k * k -/
theorem own_f {k : UInt64} {a : Int} (h : Db a 2 8 k) : Db (16 - a * a) 4 80 (FP.dsub FP.dconst1 (FP.dmul k k)) := by
  have h1 := h.mul h (k2 := 4) (by decide) (by decide)
  have h2 := (own_one.up 4 (k2 := 4) (by decide) (c := 16) (by decide) (C := 16) (by decide)).val (j := 16) (by decide)
  exact (h2.sub h1 (by decide)).le (by decide)
theorem d1_0 : decode prog_4_method_1_code 0 = .ok (.aload_n 0, 1) := by decide +kernel
theorem d1_1 : decode prog_4_method_1_code 1 = .ok (.invokespecial 1, 3) := by decide +kernel
theorem d1_4 : decode prog_4_method_1_code 4 = .ok (.aload_n 0, 1) := by decide +kernel
theorem d1_5 : decode prog_4_method_1_code 5 = .ok (.iconst 0, 1) := by decide +kernel
theorem d1_6 : decode prog_4_method_1_code 6 = .ok (.newarray .double, 2) := by decide +kernel
theorem d1_8 : decode prog_4_method_1_code 8 = .ok (.putfield 7, 3) := by decide +kernel
theorem d1_11 : decode prog_4_method_1_code 11 = .ok (.aload_n 0, 1) := by decide +kernel
theorem d1_12 : decode prog_4_method_1_code 12 = .ok (.iload_n 3, 1) := by decide +kernel
theorem d1_13 : decode prog_4_method_1_code 13 = .ok (.newarray .double, 2) := by decide +kernel
theorem d1_15 : decode prog_4_method_1_code 15 = .ok (.putfield 13, 3) := by decide +kernel
theorem d1_18 : decode prog_4_method_1_code 18 = .ok (.aload_n 0, 1) := by decide +kernel
theorem d1_19 : decode prog_4_method_1_code 19 = .ok (.iload_n 3, 1) := by decide +kernel
theorem d1_20 : decode prog_4_method_1_code 20 = .ok (.iconst 1, 1) := by decide +kernel
theorem d1_21 : decode prog_4_method_1_code 21 = .ok (.iadd, 1) := by decide +kernel
theorem d1_22 : decode prog_4_method_1_code 22 = .ok (.newarray .double, 2) := by decide +kernel
theorem d1_24 : decode prog_4_method_1_code 24 = .ok (.putfield 16, 3) := by decide +kernel
theorem d1_27 : decode prog_4_method_1_code 27 = .ok (.aload_n 0, 1) := by decide +kernel
theorem d1_28 : decode prog_4_method_1_code 28 = .ok (.getfield 16, 3) := by decide +kernel
theorem d1_31 : decode prog_4_method_1_code 31 = .ok (.iconst 0, 1) := by decide +kernel
theorem d1_32 : decode prog_4_method_1_code 32 = .ok (.dload_n 1, 1) := by decide +kernel
theorem d1_33 : decode prog_4_method_1_code 33 = .ok (.dastore, 1) := by decide +kernel
theorem d1_34 : decode prog_4_method_1_code 34 = .ok (.return_, 1) := by decide +kernel
theorem pn_22 : plainName "lagwise/estimators/ArRecursion" = true := by first | (simp [plainName, overriddenIn]; done) | decide +kernel
theorem ef_rmI (m : MethodId) (a : Addr) (va : UInt64) : entryFrame m #[(.ref a), (.double va), (.int (3 : Int32))] 4 = mkF m 0 #[.val (.ref a), .val (.double va), .second, .val (.int (3 : Int32))] [] := by first | (simp [entryFrame, mkF, argsToLocals, Value.category]; done) | rfl
def Q_rmI (Z : State) (a : Addr) (va : UInt64) (h0 : Heap) (n0 : Nat) (v : Option Value) (h : Heap) (L : List Loc) : Prop := ∃ hc : Addr, ∃ rf : Addr, ∃ rv : Addr, v = none ∧ Fr n0 L ∧ Keep h0 h [a] ∧ h0.size ≤ hc ∧ h0.size ≤ rf ∧ h0.size ≤ rv ∧ Fld Z h a "lagwise/estimators/ArRecursion" "highestCoefficients" "[D" (.ref hc) ∧ Fld Z h a "lagwise/estimators/ArRecursion" "reflections" "[D" (.ref rf) ∧ Fld Z h a "lagwise/estimators/ArRecursion" "residualVariances" "[D" (.ref rv) ∧ Fld Z h a "lagwise/estimators/ArRecursion" "highestOrder" "I" (.int (0 : Int32)) ∧ Arl Z h hc .double [] ∧ Arl Z h rf .double [(.double (0 : UInt64)), (.double (0 : UInt64)), (.double (0 : UInt64))] ∧ Arl Z h rv .double [(.double va), (.double (0 : UInt64)), (.double (0 : UInt64)), (.double (0 : UInt64))] ∧ hc ≠ rf ∧ hc ≠ rv ∧ rf ≠ rv
set_option maxRecDepth 65536 in
set_option maxHeartbeats 40000000 in
theorem rmI (l : Launch) (Z : State) (a0 : Array Value) (hw : ∀ d ∈ tables_1, d.before a0 Z = true) (a : Addr) (va : UInt64) (h0 : Heap) (n0 : Nat) (Z0 : n0 ≤ h0.size) (E_a : Exa Z h0 a "lagwise/estimators/ArRecursion") (F_a_highestCoefficients : Fld Z h0 a "lagwise/estimators/ArRecursion" "highestCoefficients" "[D" .null) (F_a_reflections : Fld Z h0 a "lagwise/estimators/ArRecursion" "reflections" "[D" .null) (F_a_residualVariances : Fld Z h0 a "lagwise/estimators/ArRecursion" "residualVariances" "[D" .null) (F_a_highestOrder : Fld Z h0 a "lagwise/estimators/ArRecursion" "highestOrder" "I" (.int (0 : Int32))) (g_a : n0 ≤ a) :
    Ctr l Z h0 (⟨"lagwise/estimators/ArRecursion", "<init>", "(DI)V"⟩ : MethodName) prog_4_method_1_code 4 none [] ({ frames := 1, cells := 3, slots := 7, locals := 12 } : Room) #[(.ref a), (.double va), (.int (3 : Int32))] (Q_rmI Z a va h0 n0) := by
  refine Ctr.make (plainFor_of_name pn_22) fun p e s m below meth c s₁ K hret hml hx hby hown hnm hZ X0 e0 hK => ?_
  have hown : s.vm.findClass "lagwise/estimators/ArRecursion" = some m.cls := hown
  have N0 := Fr.nil n0
  have K0 : Keep h0 h0 [a] := Keep.refl _ _
  refine Wlk.of (fun _ k => castTop (ef_rmI m a va) k) ?_
  show Wlk p.tables e below (s₁.setTop (mkF m 0 #[.val (.ref a), .val (.double va), .second, .val (.int (3 : Int32))] [])) K
  refine Wlk.of (fun _ k => XS.aloadN X0.here hx rfl (hb hby d1_0) rfl rfl k) ?_
  show Wlk p.tables e below (s₁.setTop (mkF m 1 #[.val (.ref a), .val (.double va), .second, .val (.int (3 : Int32))] [(.ref a)])) K
  obtain ⟨T1, X1, e1, st1⟩ := initO X0 hx hZ hown (hw _ (List.mem_of_getElem? (i := 7) rfl)) (hw _ (List.mem_of_getElem? (i := 8) rfl)) (hw _ (List.mem_of_getElem? (i := 9) rfl)) e0 (g := (mkF m 1 #[.val (.ref a), .val (.double va), .second, .val (.int (3 : Int32))] [(.ref a)])) rfl (by rw [hml]; rfl) rfl (hb hby d1_1) (by decide) (W := 0) (by show 2 * 0 + _ ≤ _; exact Nat.le_of_eq rfl) (by decide)
  refine Wlk.of (fun _ k => st1 _ k) ?_
  show Wlk p.tables e below (T1.setTop (mkF m 4 #[.val (.ref a), .val (.double va), .second, .val (.int (3 : Int32))] [])) K
  refine Wlk.of (fun _ k => XS.aloadN X1.here hx rfl (hb hby d1_4) rfl rfl k) ?_
  show Wlk p.tables e below (T1.setTop (mkF m 5 #[.val (.ref a), .val (.double va), .second, .val (.int (3 : Int32))] [(.ref a)])) K
  refine Wlk.of (fun _ k => XS.iconst X1.here hx rfl (hb hby d1_5) k) ?_
  show Wlk p.tables e below (T1.setTop (mkF m 6 #[.val (.ref a), .val (.double va), .second, .val (.int (3 : Int32))] [(.int (0 : Int32)), (.ref a)])) K
  obtain ⟨T2, h2, X2, e2, E2, A2, st2⟩ := newL X1 hx hZ (hw _ (List.mem_of_getElem? (i := 10) rfl)) e1 (g := (mkF m 6 #[.val (.ref a), .val (.double va), .second, .val (.int (3 : Int32))] [(.int (0 : Int32)), (.ref a)])) rfl (hb hby d1_6) rfl (by decide) (cap := 0) (by decide) (by decide) (by decide) (by decide)
  obtain ⟨b2, g2⟩ : ∃ z, z = h0.size := ⟨_, rfl⟩
  rw [← g2] at A2 st2
  have ne3 : a ≠ b2 := Nat.ne_of_lt (Nat.lt_of_lt_of_le E_a.lt (Nat.le_of_eq g2.symm))
  have sz_b2 : h0.size ≤ b2 := Nat.le_trans K0.1 (Nat.le_of_eq g2.symm)
  have g_b2 : n0 ≤ b2 := Nat.le_trans Z0 sz_b2
  have K5 : Keep h0 h2 [a] := K0.ext E2
  have A_b2 : Arl Z h2 b2 .double [] := A2
  refine Wlk.of (fun _ k => st2 _ k) ?_
  show Wlk p.tables e below (T2.setTop (mkF m 8 #[.val (.ref a), .val (.double va), .second, .val (.int (3 : Int32))] [(.ref b2), (.ref a)])) K
  have f6 : Fld Z h2 a "lagwise/estimators/ArRecursion" "highestCoefficients" "[D" .null := (F_a_highestCoefficients.ext E2)
  have f7 : Exa Z h2 a "lagwise/estimators/ArRecursion" := (E_a.ext E2)
  obtain ⟨T8, h8, X8, e8, W8, st8⟩ := putF X2 hx hZ hown (host := "") (Or.inl (hw _ (List.mem_of_getElem? (i := 11) rfl))) Via.refl e2 f6 f7 (Or.inl (hw _ (List.mem_of_getElem? (i := 12) rfl))) (hw _ (List.mem_of_getElem? (i := 2) rfl)) (ty := (.array .double)) (by decide) rfl rfl (g := (mkF m 8 #[.val (.ref a), .val (.double va), .second, .val (.int (3 : Int32))] [(.ref b2), (.ref a)])) rfl rfl (hb hby d1_8)
  have Fw8 := f6.same W8
  refine Wlk.of (fun _ k => st8 _ k) ?_
  have K9 : Keep h0 h8 [a] := K5.wr W8 (Or.inl (List.mem_of_getElem? (i := 0) rfl))
  have N10 := Fr.snoc X8 N0 g_a
  show Wlk p.tables e below (T8.setTop (mkF m 11 #[.val (.ref a), .val (.double va), .second, .val (.int (3 : Int32))] [])) K
  refine Wlk.of (fun _ k => XS.aloadN X8.here hx rfl (hb hby d1_11) rfl rfl k) ?_
  show Wlk p.tables e below (T8.setTop (mkF m 12 #[.val (.ref a), .val (.double va), .second, .val (.int (3 : Int32))] [(.ref a)])) K
  refine Wlk.of (fun _ k => XS.iloadN X8.here hx rfl (hb hby d1_12) rfl k) ?_
  show Wlk p.tables e below (T8.setTop (mkF m 13 #[.val (.ref a), .val (.double va), .second, .val (.int (3 : Int32))] [(.int (3 : Int32)), (.ref a)])) K
  obtain ⟨T11, h11, X11, e11, E11, A11, st11⟩ := newL X8 hx hZ (hw _ (List.mem_of_getElem? (i := 10) rfl)) e8 (g := (mkF m 13 #[.val (.ref a), .val (.double va), .second, .val (.int (3 : Int32))] [(.int (3 : Int32)), (.ref a)])) rfl (hb hby d1_13) rfl (by decide) (cap := 3) (by decide) (by decide) (by decide) (by decide)
  obtain ⟨b11, g11⟩ : ∃ z, z = h8.size := ⟨_, rfl⟩
  rw [← g11] at A11 st11
  have f13 : Exa Z h8 a "lagwise/estimators/ArRecursion" := (f7.wr W8)
  have ne12 : a ≠ b11 := Nat.ne_of_lt (Nat.lt_of_lt_of_le f13.lt (Nat.le_of_eq g11.symm))
  have f15 : Arl Z h8 b2 .double [] := (A_b2.other W8 (Ne.symm ne3))
  have ne14 : b2 ≠ b11 := Nat.ne_of_lt (Nat.lt_of_lt_of_le f15.lt (Nat.le_of_eq g11.symm))
  have sz_b11 : h0.size ≤ b11 := Nat.le_trans K9.1 (Nat.le_of_eq g11.symm)
  have g_b11 : n0 ≤ b11 := Nat.le_trans Z0 sz_b11
  have K17 : Keep h0 h11 [a] := K9.ext E11
  have A_b11 : Arl Z h11 b11 .double [(.double (0 : UInt64)), (.double (0 : UInt64)), (.double (0 : UInt64))] := A11
  refine Wlk.of (fun _ k => st11 _ k) ?_
  show Wlk p.tables e below (T11.setTop (mkF m 15 #[.val (.ref a), .val (.double va), .second, .val (.int (3 : Int32))] [(.ref b11), (.ref a)])) K
  have f18 : Fld Z h11 a "lagwise/estimators/ArRecursion" "reflections" "[D" .null := (((F_a_reflections.ext E2).other W8 (Or.inr (slot_ne (Or.inr (hw _ (List.mem_of_getElem? (i := 14) rfl))) (Or.inl (hw _ (List.mem_of_getElem? (i := 12) rfl))) (by decide) (t := (.array .double)) (t' := (.array .double)) (by decide) (by decide)))).ext E11)
  have f19 : Exa Z h11 a "lagwise/estimators/ArRecursion" := (f13.ext E11)
  obtain ⟨T20, h20, X20, e20, W20, st20⟩ := putF X11 hx hZ hown (host := "") (Or.inl (hw _ (List.mem_of_getElem? (i := 13) rfl))) Via.refl e11 f18 f19 (Or.inr ⟨(hw _ (List.mem_of_getElem? (i := 14) rfl)), rfl, hnm⟩) (hw _ (List.mem_of_getElem? (i := 2) rfl)) (ty := (.array .double)) (by decide) rfl rfl (g := (mkF m 15 #[.val (.ref a), .val (.double va), .second, .val (.int (3 : Int32))] [(.ref b11), (.ref a)])) rfl rfl (hb hby d1_15)
  have Fw20 := f18.same W20
  refine Wlk.of (fun _ k => st20 _ k) ?_
  have K21 : Keep h0 h20 [a] := K17.wr W20 (Or.inl (List.mem_of_getElem? (i := 0) rfl))
  have N22 := Fr.snoc X20 N10 g_a
  show Wlk p.tables e below (T20.setTop (mkF m 18 #[.val (.ref a), .val (.double va), .second, .val (.int (3 : Int32))] [])) K
  refine Wlk.of (fun _ k => XS.aloadN X20.here hx rfl (hb hby d1_18) rfl rfl k) ?_
  show Wlk p.tables e below (T20.setTop (mkF m 19 #[.val (.ref a), .val (.double va), .second, .val (.int (3 : Int32))] [(.ref a)])) K
  refine Wlk.of (fun _ k => XS.iloadN X20.here hx rfl (hb hby d1_19) rfl k) ?_
  show Wlk p.tables e below (T20.setTop (mkF m 20 #[.val (.ref a), .val (.double va), .second, .val (.int (3 : Int32))] [(.int (3 : Int32)), (.ref a)])) K
  refine Wlk.of (fun _ k => XS.iconst X20.here hx rfl (hb hby d1_20) k) ?_
  show Wlk p.tables e below (T20.setTop (mkF m 21 #[.val (.ref a), .val (.double va), .second, .val (.int (3 : Int32))] [(.int (1 : Int32)), (.int (3 : Int32)), (.ref a)])) K
  refine Wlk.of (fun _ k => XS.iadd X20.here hx rfl (hb hby d1_21) rfl k) ?_
  show Wlk p.tables e below (T20.setTop (mkF m 22 #[.val (.ref a), .val (.double va), .second, .val (.int (3 : Int32))] [(.int (4 : Int32)), (.ref a)])) K
  obtain ⟨T23, h23, X23, e23, E23, A23, st23⟩ := newL X20 hx hZ (hw _ (List.mem_of_getElem? (i := 10) rfl)) e20 (g := (mkF m 22 #[.val (.ref a), .val (.double va), .second, .val (.int (3 : Int32))] [(.int (4 : Int32)), (.ref a)])) rfl (hb hby d1_22) rfl (by decide) (cap := 4) (by decide) (by decide) (by decide) (by decide)
  obtain ⟨b23, g23⟩ : ∃ z, z = h20.size := ⟨_, rfl⟩
  rw [← g23] at A23 st23
  have f25 : Exa Z h20 a "lagwise/estimators/ArRecursion" := (f19.wr W20)
  have ne24 : a ≠ b23 := Nat.ne_of_lt (Nat.lt_of_lt_of_le f25.lt (Nat.le_of_eq g23.symm))
  have f27 : Arl Z h20 b11 .double [(.double (0 : UInt64)), (.double (0 : UInt64)), (.double (0 : UInt64))] := (A_b11.other W20 (Ne.symm ne12))
  have ne26 : b11 ≠ b23 := Nat.ne_of_lt (Nat.lt_of_lt_of_le f27.lt (Nat.le_of_eq g23.symm))
  have f29 : Arl Z h20 b2 .double [] := ((f15.ext E11).other W20 (Ne.symm ne3))
  have ne28 : b2 ≠ b23 := Nat.ne_of_lt (Nat.lt_of_lt_of_le f29.lt (Nat.le_of_eq g23.symm))
  have sz_b23 : h0.size ≤ b23 := Nat.le_trans K21.1 (Nat.le_of_eq g23.symm)
  have g_b23 : n0 ≤ b23 := Nat.le_trans Z0 sz_b23
  have K31 : Keep h0 h23 [a] := K21.ext E23
  have A_b23 : Arl Z h23 b23 .double [(.double (0 : UInt64)), (.double (0 : UInt64)), (.double (0 : UInt64)), (.double (0 : UInt64))] := A23
  refine Wlk.of (fun _ k => st23 _ k) ?_
  show Wlk p.tables e below (T23.setTop (mkF m 24 #[.val (.ref a), .val (.double va), .second, .val (.int (3 : Int32))] [(.ref b23), (.ref a)])) K
  have f32 : Fld Z h23 a "lagwise/estimators/ArRecursion" "residualVariances" "[D" .null := (((((F_a_residualVariances.ext E2).other W8 (Or.inr (slot_ne (Or.inr (hw _ (List.mem_of_getElem? (i := 16) rfl))) (Or.inl (hw _ (List.mem_of_getElem? (i := 12) rfl))) (by decide) (t := (.array .double)) (t' := (.array .double)) (by decide) (by decide)))).ext E11).other W20 (Or.inr (slot_ne (Or.inr (hw _ (List.mem_of_getElem? (i := 16) rfl))) (Or.inr (hw _ (List.mem_of_getElem? (i := 14) rfl))) (by decide) (t := (.array .double)) (t' := (.array .double)) (by decide) (by decide)))).ext E23)
  have f33 : Exa Z h23 a "lagwise/estimators/ArRecursion" := (f25.ext E23)
  obtain ⟨T34, h34, X34, e34, W34, st34⟩ := putF X23 hx hZ hown (host := "") (Or.inl (hw _ (List.mem_of_getElem? (i := 15) rfl))) Via.refl e23 f32 f33 (Or.inr ⟨(hw _ (List.mem_of_getElem? (i := 16) rfl)), rfl, hnm⟩) (hw _ (List.mem_of_getElem? (i := 2) rfl)) (ty := (.array .double)) (by decide) rfl rfl (g := (mkF m 24 #[.val (.ref a), .val (.double va), .second, .val (.int (3 : Int32))] [(.ref b23), (.ref a)])) rfl rfl (hb hby d1_24)
  have Fw34 := f32.same W34
  refine Wlk.of (fun _ k => st34 _ k) ?_
  have K35 : Keep h0 h34 [a] := K31.wr W34 (Or.inl (List.mem_of_getElem? (i := 0) rfl))
  have N36 := Fr.snoc X34 N22 g_a
  show Wlk p.tables e below (T34.setTop (mkF m 27 #[.val (.ref a), .val (.double va), .second, .val (.int (3 : Int32))] [])) K
  refine Wlk.of (fun _ k => XS.aloadN X34.here hx rfl (hb hby d1_27) rfl rfl k) ?_
  show Wlk p.tables e below (T34.setTop (mkF m 28 #[.val (.ref a), .val (.double va), .second, .val (.int (3 : Int32))] [(.ref a)])) K
  obtain ⟨T37, X37, e37, st37⟩ := getF X34 hx hZ hown (host := "") (Or.inl (hw _ (List.mem_of_getElem? (i := 15) rfl))) Via.refl e34 Fw34 (g := (mkF m 28 #[.val (.ref a), .val (.double va), .second, .val (.int (3 : Int32))] [(.ref a)])) rfl rfl (hb hby d1_28)
  refine Wlk.of (fun _ k => st37 _ k) ?_
  show Wlk p.tables e below (T37.setTop (mkF m 31 #[.val (.ref a), .val (.double va), .second, .val (.int (3 : Int32))] [(.ref b23)])) K
  refine Wlk.of (fun _ k => XS.iconst X37.here hx rfl (hb hby d1_31) k) ?_
  show Wlk p.tables e below (T37.setTop (mkF m 32 #[.val (.ref a), .val (.double va), .second, .val (.int (3 : Int32))] [(.int (0 : Int32)), (.ref b23)])) K
  refine Wlk.of (fun _ k => XS.dloadN X37.here hx rfl (hb hby d1_32) rfl k) ?_
  show Wlk p.tables e below (T37.setTop (mkF m 33 #[.val (.ref a), .val (.double va), .second, .val (.int (3 : Int32))] [(.double va), (.int (0 : Int32)), (.ref b23)])) K
  have f38 : Arl Z h34 b23 .double [(.double (0 : UInt64)), (.double (0 : UInt64)), (.double (0 : UInt64)), (.double (0 : UInt64))] := (A_b23.other W34 (Ne.symm ne24))
  obtain ⟨T39, h39, X39, e39, W39, V39, st39⟩ := stDl X37 hx hZ e37 f38 (j := (0 : Int32)) (i := 0) (by decide) (by decide) (show 0 < 4 by decide) (g := (mkF m 33 #[.val (.ref a), .val (.double va), .second, .val (.int (3 : Int32))] [(.double va), (.int (0 : Int32)), (.ref b23)])) rfl rfl (hb hby d1_33)
  refine Wlk.of (fun _ k => st39 _ k) ?_
  have K40 : Keep h0 h39 [a] := K35.wr W39 (Or.inr sz_b23)
  have N41 := Fr.snoc X39 N36 g_b23
  have Vw39 : Arl Z h39 b23 .double [(.double va), (.double (0 : UInt64)), (.double (0 : UInt64)), (.double (0 : UInt64))] := V39
  show Wlk p.tables e below (T39.setTop (mkF m 34 #[.val (.ref a), .val (.double va), .second, .val (.int (3 : Int32))] [])) K
  have f42 : Fld Z h39 a "lagwise/estimators/ArRecursion" "highestCoefficients" "[D" (.ref b2) := (((((Fw8.ext E11).other W20 (Or.inr (slot_ne (Or.inl (hw _ (List.mem_of_getElem? (i := 12) rfl))) (Or.inr (hw _ (List.mem_of_getElem? (i := 14) rfl))) (by decide) (t := (.array .double)) (t' := (.array .double)) (by decide) (by decide)))).ext E23).other W34 (Or.inr (slot_ne (Or.inl (hw _ (List.mem_of_getElem? (i := 12) rfl))) (Or.inr (hw _ (List.mem_of_getElem? (i := 16) rfl))) (by decide) (t := (.array .double)) (t' := (.array .double)) (by decide) (by decide)))).other W39 (Or.inl ne24))
  have f43 : Fld Z h39 a "lagwise/estimators/ArRecursion" "reflections" "[D" (.ref b11) := (((Fw20.ext E23).other W34 (Or.inr (slot_ne (Or.inr (hw _ (List.mem_of_getElem? (i := 14) rfl))) (Or.inr (hw _ (List.mem_of_getElem? (i := 16) rfl))) (by decide) (t := (.array .double)) (t' := (.array .double)) (by decide) (by decide)))).other W39 (Or.inl ne24))
  have f44 : Fld Z h39 a "lagwise/estimators/ArRecursion" "residualVariances" "[D" (.ref b23) := (Fw34.other W39 (Or.inl ne24))
  have f45 : Fld Z h39 a "lagwise/estimators/ArRecursion" "highestOrder" "I" (.int (0 : Int32)) := (((((((F_a_highestOrder.ext E2).other W8 (Or.inr (slot_ne (Or.inl (hw _ (List.mem_of_getElem? (i := 26) rfl))) (Or.inl (hw _ (List.mem_of_getElem? (i := 12) rfl))) (by decide) (t := .int) (t' := (.array .double)) (by decide) (by decide)))).ext E11).other W20 (Or.inr (slot_ne (Or.inl (hw _ (List.mem_of_getElem? (i := 26) rfl))) (Or.inr (hw _ (List.mem_of_getElem? (i := 14) rfl))) (by decide) (t := .int) (t' := (.array .double)) (by decide) (by decide)))).ext E23).other W34 (Or.inr (slot_ne (Or.inl (hw _ (List.mem_of_getElem? (i := 26) rfl))) (Or.inr (hw _ (List.mem_of_getElem? (i := 16) rfl))) (by decide) (t := .int) (t' := (.array .double)) (by decide) (by decide)))).other W39 (Or.inl ne24))
  have f46 : Arl Z h39 b2 .double [] := (((f29.ext E23).other W34 (Ne.symm ne3)).other W39 ne28)
  have f47 : Arl Z h39 b11 .double [(.double (0 : UInt64)), (.double (0 : UInt64)), (.double (0 : UInt64))] := (((f27.ext E23).other W34 (Ne.symm ne12)).other W39 ne26)
  refine hK none X39 (fun q => rfl) (fun fs hr => X39.returnOut hx hret (hb hby d1_34) hr) ?_ (by decide) (by decide)
  rw [show T39.heap = h39 from e39]
  exact ⟨b2, b11, b23, rfl, N41, K40, sz_b2, sz_b11, sz_b23, f42, f43, f44, f45, f46, f47, Vw39, ne14, ne28, ne26⟩
theorem dS0_0 : decode prog_4_method_10_code 0 = .ok (.aload_n 0, 1) := by decide +kernel
theorem dS0_1 : decode prog_4_method_10_code 1 = .ok (.arraylength, 1) := by decide +kernel
theorem dS0_2 : decode prog_4_method_10_code 2 = .ok (.iconst 1, 1) := by decide +kernel
theorem dS0_3 : decode prog_4_method_10_code 3 = .ok (.iadd, 1) := by decide +kernel
theorem dS0_4 : decode prog_4_method_10_code 4 = .ok (.istore_n 3, 1) := by decide +kernel
theorem dS0_5 : decode prog_4_method_10_code 5 = .ok (.iload_n 3, 1) := by decide +kernel
theorem dS0_6 : decode prog_4_method_10_code 6 = .ok (.newarray .double, 2) := by decide +kernel
theorem dS0_8 : decode prog_4_method_10_code 8 = .ok (.astore 4, 2) := by decide +kernel
theorem dS0_10 : decode prog_4_method_10_code 10 = .ok (.iconst 1, 1) := by decide +kernel
theorem dS0_11 : decode prog_4_method_10_code 11 = .ok (.istore 5, 2) := by decide +kernel
theorem dS0_13 : decode prog_4_method_10_code 13 = .ok (.iload 5, 2) := by decide +kernel
theorem dS0_15 : decode prog_4_method_10_code 15 = .ok (.iload_n 3, 1) := by decide +kernel
theorem dS0_16 : decode prog_4_method_10_code 16 = .ok (.if_icmp .ge 33, 3) := by decide +kernel
theorem dS0_49 : decode prog_4_method_10_code 49 = .ok (.aload 4, 2) := by decide +kernel
theorem dS0_51 : decode prog_4_method_10_code 51 = .ok (.iload_n 3, 1) := by decide +kernel
theorem dS0_52 : decode prog_4_method_10_code 52 = .ok (.iconst 1, 1) := by decide +kernel
theorem dS0_53 : decode prog_4_method_10_code 53 = .ok (.isub, 1) := by decide +kernel
theorem dS0_54 : decode prog_4_method_10_code 54 = .ok (.dload_n 1, 1) := by decide +kernel
theorem dS0_55 : decode prog_4_method_10_code 55 = .ok (.dastore, 1) := by decide +kernel
theorem dS0_56 : decode prog_4_method_10_code 56 = .ok (.aload 4, 2) := by decide +kernel
theorem dS0_58 : decode prog_4_method_10_code 58 = .ok (.areturn, 1) := by decide +kernel
theorem ef_rmS0 (m : MethodId) (cc : Addr) (kk : UInt64) : entryFrame m #[(.ref cc), (.double kk)] 6 = mkF m 0 #[.val (.ref cc), .val (.double kk), .second, .unset, .unset, .unset] [] := by first | (simp [entryFrame, mkF, argsToLocals, Value.category]; done) | rfl
def Q_rmS0 (Z : State) (cc : Addr) (kk : UInt64) (h0 : Heap) (n0 : Nat) (v : Option Value) (h : Heap) (L : List Loc) : Prop := ∃ nw : Addr, v = (some (.ref nw)) ∧ Fr n0 L ∧ Keep h0 h [] ∧ h0.size ≤ nw ∧ Arl Z h nw .double [(.double kk)]
set_option maxRecDepth 65536 in
set_option maxHeartbeats 40000000 in
theorem rmS0 (l : Launch) (Z : State) (a0 : Array Value) (hw : ∀ d ∈ tables_1, d.before a0 Z = true) (cc : Addr) (kk : UInt64) (h0 : Heap) (n0 : Nat) (Z0 : n0 ≤ h0.size) (A_cc : Arl Z h0 cc .double []) :
    Ctr l Z h0 (⟨"lagwise/estimators/ArRecursion", "stepUp", "([DD)[D"⟩ : MethodName) prog_4_method_10_code 6 (some (.array .double)) [] ({ frames := 0, cells := 1, slots := 1, locals := 0 } : Room) #[(.ref cc), (.double kk)] (Q_rmS0 Z cc kk h0 n0) := by
  refine Ctr.make (plainFor_of_name pn_22) fun p e s m below meth c s₁ K hret hml hx hby hown hnm hZ X0 e0 hK => ?_
  have hown : s.vm.findClass "lagwise/estimators/ArRecursion" = some m.cls := hown
  have N0 := Fr.nil n0
  have K0 : Keep h0 h0 [] := Keep.refl _ _
  refine Wlk.of (fun _ k => castTop (ef_rmS0 m cc kk) k) ?_
  show Wlk p.tables e below (s₁.setTop (mkF m 0 #[.val (.ref cc), .val (.double kk), .second, .unset, .unset, .unset] [])) K
  refine Wlk.of (fun _ k => XS.aloadN X0.here hx rfl (hb hby dS0_0) rfl rfl k) ?_
  show Wlk p.tables e below (s₁.setTop (mkF m 1 #[.val (.ref cc), .val (.double kk), .second, .unset, .unset, .unset] [(.ref cc)])) K
  refine Wlk.of (fun _ k => lenL X0 hx hZ e0 A_cc (n := (0 : Int32)) rfl (g := (mkF m 1 #[.val (.ref cc), .val (.double kk), .second, .unset, .unset, .unset] [(.ref cc)])) rfl rfl (hb hby dS0_1) _ k) ?_
  show Wlk p.tables e below (s₁.setTop (mkF m 2 #[.val (.ref cc), .val (.double kk), .second, .unset, .unset, .unset] [(.int (0 : Int32))])) K
  refine Wlk.of (fun _ k => XS.iconst X0.here hx rfl (hb hby dS0_2) k) ?_
  show Wlk p.tables e below (s₁.setTop (mkF m 3 #[.val (.ref cc), .val (.double kk), .second, .unset, .unset, .unset] [(.int (1 : Int32)), (.int (0 : Int32))])) K
  refine Wlk.of (fun _ k => XS.iadd X0.here hx rfl (hb hby dS0_3) rfl k) ?_
  show Wlk p.tables e below (s₁.setTop (mkF m 4 #[.val (.ref cc), .val (.double kk), .second, .unset, .unset, .unset] [(.int (1 : Int32))])) K
  refine Wlk.of (fun _ k => XS.istoreN X0.here hx rfl (hb hby dS0_4) rfl (l' := #[.val (.ref cc), .val (.double kk), .second, .val (.int (1 : Int32)), .unset, .unset]) rfl k) ?_
  show Wlk p.tables e below (s₁.setTop (mkF m 5 #[.val (.ref cc), .val (.double kk), .second, .val (.int (1 : Int32)), .unset, .unset] [])) K
  refine Wlk.of (fun _ k => XS.iloadN X0.here hx rfl (hb hby dS0_5) rfl k) ?_
  show Wlk p.tables e below (s₁.setTop (mkF m 6 #[.val (.ref cc), .val (.double kk), .second, .val (.int (1 : Int32)), .unset, .unset] [(.int (1 : Int32))])) K
  obtain ⟨T1, h1, X1, e1, E1, A1, st1⟩ := newL X0 hx hZ (hw _ (List.mem_of_getElem? (i := 10) rfl)) e0 (g := (mkF m 6 #[.val (.ref cc), .val (.double kk), .second, .val (.int (1 : Int32)), .unset, .unset] [(.int (1 : Int32))])) rfl (hb hby dS0_6) rfl (by decide) (cap := 1) (by decide) (by decide) (by decide) (by decide)
  obtain ⟨b1, g1⟩ : ∃ z, z = h0.size := ⟨_, rfl⟩
  rw [← g1] at A1 st1
  have ne2 : cc ≠ b1 := Nat.ne_of_lt (Nat.lt_of_lt_of_le A_cc.lt (Nat.le_of_eq g1.symm))
  have sz_b1 : h0.size ≤ b1 := Nat.le_trans K0.1 (Nat.le_of_eq g1.symm)
  have g_b1 : n0 ≤ b1 := Nat.le_trans Z0 sz_b1
  have K4 : Keep h0 h1 [] := K0.ext E1
  have A_b1 : Arl Z h1 b1 .double [(.double (0 : UInt64))] := A1
  refine Wlk.of (fun _ k => st1 _ k) ?_
  show Wlk p.tables e below (T1.setTop (mkF m 8 #[.val (.ref cc), .val (.double kk), .second, .val (.int (1 : Int32)), .unset, .unset] [(.ref b1)])) K
  refine Wlk.of (fun _ k => XS.astore X1.here hx rfl (hb hby dS0_8) rfl rfl (l' := #[.val (.ref cc), .val (.double kk), .second, .val (.int (1 : Int32)), .val (.ref b1), .unset]) rfl k) ?_
  show Wlk p.tables e below (T1.setTop (mkF m 10 #[.val (.ref cc), .val (.double kk), .second, .val (.int (1 : Int32)), .val (.ref b1), .unset] [])) K
  refine Wlk.of (fun _ k => XS.iconst X1.here hx rfl (hb hby dS0_10) k) ?_
  show Wlk p.tables e below (T1.setTop (mkF m 11 #[.val (.ref cc), .val (.double kk), .second, .val (.int (1 : Int32)), .val (.ref b1), .unset] [(.int (1 : Int32))])) K
  refine Wlk.of (fun _ k => XS.istore X1.here hx rfl (hb hby dS0_11) rfl (l' := #[.val (.ref cc), .val (.double kk), .second, .val (.int (1 : Int32)), .val (.ref b1), .val (.int (1 : Int32))]) rfl k) ?_
  show Wlk p.tables e below (T1.setTop (mkF m 13 #[.val (.ref cc), .val (.double kk), .second, .val (.int (1 : Int32)), .val (.ref b1), .val (.int (1 : Int32))] [])) K
  refine Wlk.of (fun _ k => XS.iload X1.here hx rfl (hb hby dS0_13) rfl k) ?_
  show Wlk p.tables e below (T1.setTop (mkF m 15 #[.val (.ref cc), .val (.double kk), .second, .val (.int (1 : Int32)), .val (.ref b1), .val (.int (1 : Int32))] [(.int (1 : Int32))])) K
  refine Wlk.of (fun _ k => XS.iloadN X1.here hx rfl (hb hby dS0_15) rfl k) ?_
  show Wlk p.tables e below (T1.setTop (mkF m 16 #[.val (.ref cc), .val (.double kk), .second, .val (.int (1 : Int32)), .val (.ref b1), .val (.int (1 : Int32))] [(.int (1 : Int32)), (.int (1 : Int32))])) K
  refine Wlk.of (fun _ k => XS.icmpYes X1.here hx rfl (pc0 := 16) (pc' := 49) rfl (hb hby dS0_16) rfl (flt (by decide : ¬ ((1 : Int32) < (1 : Int32)))).2.1 (by decide) (by decide) k) ?_
  show Wlk p.tables e below (T1.setTop (mkF m 49 #[.val (.ref cc), .val (.double kk), .second, .val (.int (1 : Int32)), .val (.ref b1), .val (.int (1 : Int32))] [])) K
  refine Wlk.of (fun _ k => XS.aload X1.here hx rfl (hb hby dS0_49) rfl rfl k) ?_
  show Wlk p.tables e below (T1.setTop (mkF m 51 #[.val (.ref cc), .val (.double kk), .second, .val (.int (1 : Int32)), .val (.ref b1), .val (.int (1 : Int32))] [(.ref b1)])) K
  refine Wlk.of (fun _ k => XS.iloadN X1.here hx rfl (hb hby dS0_51) rfl k) ?_
  show Wlk p.tables e below (T1.setTop (mkF m 52 #[.val (.ref cc), .val (.double kk), .second, .val (.int (1 : Int32)), .val (.ref b1), .val (.int (1 : Int32))] [(.int (1 : Int32)), (.ref b1)])) K
  refine Wlk.of (fun _ k => XS.iconst X1.here hx rfl (hb hby dS0_52) k) ?_
  show Wlk p.tables e below (T1.setTop (mkF m 53 #[.val (.ref cc), .val (.double kk), .second, .val (.int (1 : Int32)), .val (.ref b1), .val (.int (1 : Int32))] [(.int (1 : Int32)), (.int (1 : Int32)), (.ref b1)])) K
  refine Wlk.of (fun _ k => XS.isub X1.here hx rfl (hb hby dS0_53) rfl k) ?_
  show Wlk p.tables e below (T1.setTop (mkF m 54 #[.val (.ref cc), .val (.double kk), .second, .val (.int (1 : Int32)), .val (.ref b1), .val (.int (1 : Int32))] [(.int (0 : Int32)), (.ref b1)])) K
  refine Wlk.of (fun _ k => XS.dloadN X1.here hx rfl (hb hby dS0_54) rfl k) ?_
  show Wlk p.tables e below (T1.setTop (mkF m 55 #[.val (.ref cc), .val (.double kk), .second, .val (.int (1 : Int32)), .val (.ref b1), .val (.int (1 : Int32))] [(.double kk), (.int (0 : Int32)), (.ref b1)])) K
  obtain ⟨T5, h5, X5, e5, W5, V5, st5⟩ := stDl X1 hx hZ e1 A_b1 (j := (0 : Int32)) (i := 0) (by decide) (by decide) (show 0 < 1 by decide) (g := (mkF m 55 #[.val (.ref cc), .val (.double kk), .second, .val (.int (1 : Int32)), .val (.ref b1), .val (.int (1 : Int32))] [(.double kk), (.int (0 : Int32)), (.ref b1)])) rfl rfl (hb hby dS0_55)
  refine Wlk.of (fun _ k => st5 _ k) ?_
  have K6 : Keep h0 h5 [] := K4.wr W5 (Or.inr sz_b1)
  have N7 := Fr.snoc X5 N0 g_b1
  have Vw5 : Arl Z h5 b1 .double [(.double kk)] := V5
  show Wlk p.tables e below (T5.setTop (mkF m 56 #[.val (.ref cc), .val (.double kk), .second, .val (.int (1 : Int32)), .val (.ref b1), .val (.int (1 : Int32))] [])) K
  refine Wlk.of (fun _ k => XS.aload X5.here hx rfl (hb hby dS0_56) rfl rfl k) ?_
  show Wlk p.tables e below (T5.setTop (mkF m 58 #[.val (.ref cc), .val (.double kk), .second, .val (.int (1 : Int32)), .val (.ref b1), .val (.int (1 : Int32))] [(.ref b1)])) K
  refine hK (some (.ref b1)) X5 (fun q => by cases q) (fun fs hr => retOut X5 hx hret rfl (Or.inr (Or.inr (Or.inr (Or.inr ⟨rfl, rfl, rfl⟩)))) (hb hby dS0_58) hr) ?_ (by decide) (by decide)
  rw [show T5.heap = h5 from e5]
  exact ⟨b1, rfl, N7, K6, sz_b1, Vw5⟩
theorem pd_44 : parseMethodDescriptor "([DD)[D" = some ⟨[(.array .double), .double], some (.array .double)⟩ := by decide +kernel
theorem dA0_0 : decode prog_4_method_2_code 0 = .ok (.aload_n 0, 1) := by decide +kernel
theorem dA0_1 : decode prog_4_method_2_code 1 = .ok (.aload_n 0, 1) := by decide +kernel
theorem dA0_2 : decode prog_4_method_2_code 2 = .ok (.getfield 7, 3) := by decide +kernel
theorem dA0_5 : decode prog_4_method_2_code 5 = .ok (.dload_n 1, 1) := by decide +kernel
theorem dA0_6 : decode prog_4_method_2_code 6 = .ok (.invokestatic 19, 3) := by decide +kernel
theorem dA0_9 : decode prog_4_method_2_code 9 = .ok (.putfield 7, 3) := by decide +kernel
theorem dA0_12 : decode prog_4_method_2_code 12 = .ok (.aload_n 0, 1) := by decide +kernel
theorem dA0_13 : decode prog_4_method_2_code 13 = .ok (.getfield 13, 3) := by decide +kernel
theorem dA0_16 : decode prog_4_method_2_code 16 = .ok (.aload_n 0, 1) := by decide +kernel
theorem dA0_17 : decode prog_4_method_2_code 17 = .ok (.getfield 23, 3) := by decide +kernel
theorem dA0_20 : decode prog_4_method_2_code 20 = .ok (.dload_n 1, 1) := by decide +kernel
theorem dA0_21 : decode prog_4_method_2_code 21 = .ok (.dastore, 1) := by decide +kernel
theorem dA0_22 : decode prog_4_method_2_code 22 = .ok (.aload_n 0, 1) := by decide +kernel
theorem dA0_23 : decode prog_4_method_2_code 23 = .ok (.getfield 16, 3) := by decide +kernel
theorem dA0_26 : decode prog_4_method_2_code 26 = .ok (.aload_n 0, 1) := by decide +kernel
theorem dA0_27 : decode prog_4_method_2_code 27 = .ok (.getfield 23, 3) := by decide +kernel
theorem dA0_30 : decode prog_4_method_2_code 30 = .ok (.iconst 1, 1) := by decide +kernel
theorem dA0_31 : decode prog_4_method_2_code 31 = .ok (.iadd, 1) := by decide +kernel
theorem dA0_32 : decode prog_4_method_2_code 32 = .ok (.aload_n 0, 1) := by decide +kernel
theorem dA0_33 : decode prog_4_method_2_code 33 = .ok (.getfield 16, 3) := by decide +kernel
theorem dA0_36 : decode prog_4_method_2_code 36 = .ok (.aload_n 0, 1) := by decide +kernel
theorem dA0_37 : decode prog_4_method_2_code 37 = .ok (.getfield 23, 3) := by decide +kernel
theorem dA0_40 : decode prog_4_method_2_code 40 = .ok (.daload, 1) := by decide +kernel
theorem dA0_41 : decode prog_4_method_2_code 41 = .ok (.dconst 1, 1) := by decide +kernel
theorem dA0_42 : decode prog_4_method_2_code 42 = .ok (.dload_n 1, 1) := by decide +kernel
theorem dA0_43 : decode prog_4_method_2_code 43 = .ok (.dload_n 1, 1) := by decide +kernel
theorem dA0_44 : decode prog_4_method_2_code 44 = .ok (.dmul, 1) := by decide +kernel
theorem dA0_45 : decode prog_4_method_2_code 45 = .ok (.dsub, 1) := by decide +kernel
theorem dA0_46 : decode prog_4_method_2_code 46 = .ok (.dmul, 1) := by decide +kernel
theorem dA0_47 : decode prog_4_method_2_code 47 = .ok (.dastore, 1) := by decide +kernel
theorem dA0_48 : decode prog_4_method_2_code 48 = .ok (.aload_n 0, 1) := by decide +kernel
theorem dA0_49 : decode prog_4_method_2_code 49 = .ok (.dup, 1) := by decide +kernel
theorem dA0_50 : decode prog_4_method_2_code 50 = .ok (.getfield 23, 3) := by decide +kernel
theorem dA0_53 : decode prog_4_method_2_code 53 = .ok (.iconst 1, 1) := by decide +kernel
theorem dA0_54 : decode prog_4_method_2_code 54 = .ok (.iadd, 1) := by decide +kernel
theorem dA0_55 : decode prog_4_method_2_code 55 = .ok (.putfield 23, 3) := by decide +kernel
theorem dA0_58 : decode prog_4_method_2_code 58 = .ok (.return_, 1) := by decide +kernel
theorem ef_rmA0 (m : MethodId) (a : Addr) (kk : UInt64) : entryFrame m #[(.ref a), (.double kk)] 3 = mkF m 0 #[.val (.ref a), .val (.double kk), .second] [] := by first | (simp [entryFrame, mkF, argsToLocals, Value.category]; done) | rfl
def Q_rmA0 (Z : State) (a : Addr) (kk : UInt64) (hc : Addr) (rf : Addr) (rv : Addr) (u0 : UInt64) (u1 : UInt64) (u2 : UInt64) (r0 : UInt64) (r1 : UInt64) (r2 : UInt64) (r3 : UInt64) (h0 : Heap) (n0 : Nat) (v : Option Value) (h : Heap) (L : List Loc) : Prop := ∃ nw : Addr, v = none ∧ Fr n0 L ∧ Keep h0 h [a, rf, rv] ∧ h0.size ≤ nw ∧ Fld Z h a "lagwise/estimators/ArRecursion" "highestCoefficients" "[D" (.ref nw) ∧ Fld Z h a "lagwise/estimators/ArRecursion" "reflections" "[D" (.ref rf) ∧ Fld Z h a "lagwise/estimators/ArRecursion" "residualVariances" "[D" (.ref rv) ∧ Fld Z h a "lagwise/estimators/ArRecursion" "highestOrder" "I" (.int (1 : Int32)) ∧ Arl Z h nw .double [(.double kk)] ∧ Arl Z h rf .double [(.double kk), (.double u1), (.double u2)] ∧ Arl Z h rv .double [(.double r0), (.double (FP.dmul r0 (FP.dsub FP.dconst1 (FP.dmul kk kk)))), (.double r2), (.double r3)]
set_option maxRecDepth 65536 in
set_option maxHeartbeats 40000000 in
theorem rmA0 (l : Launch) (Z : State) (a0 : Array Value) (hw : ∀ d ∈ tables_1, d.before a0 Z = true) (a : Addr) (kk : UInt64) (hc : Addr) (rf : Addr) (rv : Addr) (u0 : UInt64) (u1 : UInt64) (u2 : UInt64) (r0 : UInt64) (r1 : UInt64) (r2 : UInt64) (r3 : UInt64) (h0 : Heap) (n0 : Nat) (Z0 : n0 ≤ h0.size) (E_a : Exa Z h0 a "lagwise/estimators/ArRecursion") (F_a_highestCoefficients : Fld Z h0 a "lagwise/estimators/ArRecursion" "highestCoefficients" "[D" (.ref hc)) (F_a_reflections : Fld Z h0 a "lagwise/estimators/ArRecursion" "reflections" "[D" (.ref rf)) (F_a_residualVariances : Fld Z h0 a "lagwise/estimators/ArRecursion" "residualVariances" "[D" (.ref rv)) (F_a_highestOrder : Fld Z h0 a "lagwise/estimators/ArRecursion" "highestOrder" "I" (.int (0 : Int32))) (A_hc : Arl Z h0 hc .double []) (A_rf : Arl Z h0 rf .double [(.double u0), (.double u1), (.double u2)]) (A_rv : Arl Z h0 rv .double [(.double r0), (.double r1), (.double r2), (.double r3)]) (ne_rf_rv : rf ≠ rv) (ne_a_rf : a ≠ rf) (ne_a_rv : a ≠ rv) (g_a : n0 ≤ a) (g_rf : n0 ≤ rf) (g_rv : n0 ≤ rv) (a44 : Fl.NoNaN64 (FP.dmul kk kk)) (a45 : Fl.NoNaN64 (FP.dsub FP.dconst1 (FP.dmul kk kk))) (a46 : Fl.NoNaN64 (FP.dmul r0 (FP.dsub FP.dconst1 (FP.dmul kk kk)))) :
    Ctr l Z h0 (⟨"lagwise/estimators/ArRecursion", "add", "(D)V"⟩ : MethodName) prog_4_method_2_code 3 none [] ({ frames := 1, cells := 1, slots := 1, locals := 18 } : Room) #[(.ref a), (.double kk)] (Q_rmA0 Z a kk hc rf rv u0 u1 u2 r0 r1 r2 r3 h0 n0) := by
  refine Ctr.make (plainFor_of_name pn_22) fun p e s m below meth c s₁ K hret hml hx hby hown hnm hZ X0 e0 hK => ?_
  have hown : s.vm.findClass "lagwise/estimators/ArRecursion" = some m.cls := hown
  have N0 := Fr.nil n0
  have K0 : Keep h0 h0 [a, rf, rv] := Keep.refl _ _
  refine Wlk.of (fun _ k => castTop (ef_rmA0 m a kk) k) ?_
  show Wlk p.tables e below (s₁.setTop (mkF m 0 #[.val (.ref a), .val (.double kk), .second] [])) K
  refine Wlk.of (fun _ k => XS.aloadN X0.here hx rfl (hb hby dA0_0) rfl rfl k) ?_
  show Wlk p.tables e below (s₁.setTop (mkF m 1 #[.val (.ref a), .val (.double kk), .second] [(.ref a)])) K
  refine Wlk.of (fun _ k => XS.aloadN X0.here hx rfl (hb hby dA0_1) rfl rfl k) ?_
  show Wlk p.tables e below (s₁.setTop (mkF m 2 #[.val (.ref a), .val (.double kk), .second] [(.ref a), (.ref a)])) K
  obtain ⟨T1, X1, e1, st1⟩ := getF X0 hx hZ hown (host := "") (Or.inl (hw _ (List.mem_of_getElem? (i := 11) rfl))) Via.refl e0 F_a_highestCoefficients (g := (mkF m 2 #[.val (.ref a), .val (.double kk), .second] [(.ref a), (.ref a)])) rfl rfl (hb hby dA0_2)
  refine Wlk.of (fun _ k => st1 _ k) ?_
  show Wlk p.tables e below (T1.setTop (mkF m 5 #[.val (.ref a), .val (.double kk), .second] [(.ref hc), (.ref a)])) K
  refine Wlk.of (fun _ k => XS.dloadN X1.here hx rfl (hb hby dA0_5) rfl k) ?_
  show Wlk p.tables e below (T1.setTop (mkF m 6 #[.val (.ref a), .val (.double kk), .second] [(.double kk), (.ref hc), (.ref a)])) K
  obtain ⟨v2, T2, L2, X2, q2, st2⟩ := Ctr.static (rmS0 l Z a0 hw hc kk h0 n0 (Nat.le_trans Z0 K0.1) A_hc) X1 hx hZ e1 hown (hw _ (List.mem_of_getElem? (i := 22) rfl)) (hw _ (List.mem_of_getElem? (i := 23) rfl)) (hw _ (List.mem_of_getElem? (i := 3) rfl)) (hw _ (List.mem_of_getElem? (i := 24) rfl)) (by decide) pd_44 (g := (mkF m 6 #[.val (.ref a), .val (.double kk), .second] [(.double kk), (.ref hc), (.ref a)])) rfl (by rw [hml]; rfl) (argsL := [(.ref hc), (.double kk)]) (rest := [(.ref a)]) rfl rfl rfl (W := 1) (by show 2 * 0 + _ ≤ _; exact Nat.le_of_eq rfl) (by decide) (by decide) (hb hby dA0_6) (by decide) (by decide)
  obtain ⟨nw_2, rfl, N2q, K2q, p2_0, p2_1⟩ := q2
  have N3 := Fr.app N0 N2q
  refine Wlk.of (fun _ k => st2 _ k) ?_
  have ne4 : a ≠ nw_2 := Nat.ne_of_lt (Nat.lt_of_lt_of_le E_a.lt p2_0)
  have ne5 : hc ≠ nw_2 := Nat.ne_of_lt (Nat.lt_of_lt_of_le A_hc.lt p2_0)
  have ne6 : rf ≠ nw_2 := Nat.ne_of_lt (Nat.lt_of_lt_of_le A_rf.lt p2_0)
  have ne7 : rv ≠ nw_2 := Nat.ne_of_lt (Nat.lt_of_lt_of_le A_rv.lt p2_0)
  have sz_nw_2 : h0.size ≤ nw_2 := Nat.le_trans K0.1 p2_0
  have g_nw_2 : n0 ≤ nw_2 := Nat.le_trans Z0 sz_nw_2
  have K8 : Keep h0 T2.heap [a, rf, rv] := K0.trans K2q all0
  show Wlk p.tables e below (T2.setTop (mkF m 9 #[.val (.ref a), .val (.double kk), .second] [(.ref nw_2), (.ref a)])) K
  have f9 : Fld Z T2.heap a "lagwise/estimators/ArRecursion" "highestCoefficients" "[D" (.ref hc) := (F_a_highestCoefficients.keep K2q nin0)
  have f10 : Exa Z T2.heap a "lagwise/estimators/ArRecursion" := (E_a.keep K2q)
  obtain ⟨T11, h11, X11, e11, W11, st11⟩ := putF X2 hx hZ hown (host := "") (Or.inl (hw _ (List.mem_of_getElem? (i := 11) rfl))) Via.refl rfl f9 f10 (Or.inl (hw _ (List.mem_of_getElem? (i := 12) rfl))) (hw _ (List.mem_of_getElem? (i := 2) rfl)) (ty := (.array .double)) (by decide) rfl rfl (g := (mkF m 9 #[.val (.ref a), .val (.double kk), .second] [(.ref nw_2), (.ref a)])) rfl rfl (hb hby dA0_9)
  have Fw11 := f9.same W11
  refine Wlk.of (fun _ k => st11 _ k) ?_
  have K12 : Keep h0 h11 [a, rf, rv] := K8.wr W11 (Or.inl (List.mem_of_getElem? (i := 0) rfl))
  have N13 := Fr.snoc X11 N3 g_a
  show Wlk p.tables e below (T11.setTop (mkF m 12 #[.val (.ref a), .val (.double kk), .second] [])) K
  refine Wlk.of (fun _ k => XS.aloadN X11.here hx rfl (hb hby dA0_12) rfl rfl k) ?_
  show Wlk p.tables e below (T11.setTop (mkF m 13 #[.val (.ref a), .val (.double kk), .second] [(.ref a)])) K
  have f14 : Fld Z h11 a "lagwise/estimators/ArRecursion" "reflections" "[D" (.ref rf) := ((F_a_reflections.keep K2q nin0).other W11 (Or.inr (slot_ne (Or.inr (hw _ (List.mem_of_getElem? (i := 14) rfl))) (Or.inl (hw _ (List.mem_of_getElem? (i := 12) rfl))) (by decide) (t := (.array .double)) (t' := (.array .double)) (by decide) (by decide))))
  obtain ⟨T15, X15, e15, st15⟩ := getF X11 hx hZ hown (host := "") (Or.inl (hw _ (List.mem_of_getElem? (i := 13) rfl))) Via.refl e11 f14 (g := (mkF m 13 #[.val (.ref a), .val (.double kk), .second] [(.ref a)])) rfl rfl (hb hby dA0_13)
  refine Wlk.of (fun _ k => st15 _ k) ?_
  show Wlk p.tables e below (T15.setTop (mkF m 16 #[.val (.ref a), .val (.double kk), .second] [(.ref rf)])) K
  refine Wlk.of (fun _ k => XS.aloadN X15.here hx rfl (hb hby dA0_16) rfl rfl k) ?_
  show Wlk p.tables e below (T15.setTop (mkF m 17 #[.val (.ref a), .val (.double kk), .second] [(.ref a), (.ref rf)])) K
  have f16 : Fld Z h11 a "lagwise/estimators/ArRecursion" "highestOrder" "I" (.int (0 : Int32)) := ((F_a_highestOrder.keep K2q nin0).other W11 (Or.inr (slot_ne (Or.inl (hw _ (List.mem_of_getElem? (i := 26) rfl))) (Or.inl (hw _ (List.mem_of_getElem? (i := 12) rfl))) (by decide) (t := .int) (t' := (.array .double)) (by decide) (by decide))))
  obtain ⟨T17, X17, e17, st17⟩ := getF X15 hx hZ hown (host := "") (Or.inl (hw _ (List.mem_of_getElem? (i := 25) rfl))) Via.refl e15 f16 (g := (mkF m 17 #[.val (.ref a), .val (.double kk), .second] [(.ref a), (.ref rf)])) rfl rfl (hb hby dA0_17)
  refine Wlk.of (fun _ k => st17 _ k) ?_
  show Wlk p.tables e below (T17.setTop (mkF m 20 #[.val (.ref a), .val (.double kk), .second] [(.int (0 : Int32)), (.ref rf)])) K
  refine Wlk.of (fun _ k => XS.dloadN X17.here hx rfl (hb hby dA0_20) rfl k) ?_
  show Wlk p.tables e below (T17.setTop (mkF m 21 #[.val (.ref a), .val (.double kk), .second] [(.double kk), (.int (0 : Int32)), (.ref rf)])) K
  have f18 : Arl Z h11 rf .double [(.double u0), (.double u1), (.double u2)] := ((A_rf.keep K2q nin0).other W11 (Ne.symm ne_a_rf))
  obtain ⟨T19, h19, X19, e19, W19, V19, st19⟩ := stDl X17 hx hZ e17 f18 (j := (0 : Int32)) (i := 0) (by decide) (by decide) (show 0 < 3 by decide) (g := (mkF m 21 #[.val (.ref a), .val (.double kk), .second] [(.double kk), (.int (0 : Int32)), (.ref rf)])) rfl rfl (hb hby dA0_21)
  refine Wlk.of (fun _ k => st19 _ k) ?_
  have K20 : Keep h0 h19 [a, rf, rv] := K12.wr W19 (Or.inl (List.mem_of_getElem? (i := 1) rfl))
  have N21 := Fr.snoc X19 N13 g_rf
  have Vw19 : Arl Z h19 rf .double [(.double kk), (.double u1), (.double u2)] := V19
  show Wlk p.tables e below (T19.setTop (mkF m 22 #[.val (.ref a), .val (.double kk), .second] [])) K
  refine Wlk.of (fun _ k => XS.aloadN X19.here hx rfl (hb hby dA0_22) rfl rfl k) ?_
  show Wlk p.tables e below (T19.setTop (mkF m 23 #[.val (.ref a), .val (.double kk), .second] [(.ref a)])) K
  have f22 : Fld Z h19 a "lagwise/estimators/ArRecursion" "residualVariances" "[D" (.ref rv) := (((F_a_residualVariances.keep K2q nin0).other W11 (Or.inr (slot_ne (Or.inr (hw _ (List.mem_of_getElem? (i := 16) rfl))) (Or.inl (hw _ (List.mem_of_getElem? (i := 12) rfl))) (by decide) (t := (.array .double)) (t' := (.array .double)) (by decide) (by decide)))).other W19 (Or.inl ne_a_rf))
  obtain ⟨T23, X23, e23, st23⟩ := getF X19 hx hZ hown (host := "") (Or.inl (hw _ (List.mem_of_getElem? (i := 15) rfl))) Via.refl e19 f22 (g := (mkF m 23 #[.val (.ref a), .val (.double kk), .second] [(.ref a)])) rfl rfl (hb hby dA0_23)
  refine Wlk.of (fun _ k => st23 _ k) ?_
  show Wlk p.tables e below (T23.setTop (mkF m 26 #[.val (.ref a), .val (.double kk), .second] [(.ref rv)])) K
  refine Wlk.of (fun _ k => XS.aloadN X23.here hx rfl (hb hby dA0_26) rfl rfl k) ?_
  show Wlk p.tables e below (T23.setTop (mkF m 27 #[.val (.ref a), .val (.double kk), .second] [(.ref a), (.ref rv)])) K
  have f24 : Fld Z h19 a "lagwise/estimators/ArRecursion" "highestOrder" "I" (.int (0 : Int32)) := (f16.other W19 (Or.inl ne_a_rf))
  obtain ⟨T25, X25, e25, st25⟩ := getF X23 hx hZ hown (host := "") (Or.inl (hw _ (List.mem_of_getElem? (i := 25) rfl))) Via.refl e23 f24 (g := (mkF m 27 #[.val (.ref a), .val (.double kk), .second] [(.ref a), (.ref rv)])) rfl rfl (hb hby dA0_27)
  refine Wlk.of (fun _ k => st25 _ k) ?_
  show Wlk p.tables e below (T25.setTop (mkF m 30 #[.val (.ref a), .val (.double kk), .second] [(.int (0 : Int32)), (.ref rv)])) K
  refine Wlk.of (fun _ k => XS.iconst X25.here hx rfl (hb hby dA0_30) k) ?_
  show Wlk p.tables e below (T25.setTop (mkF m 31 #[.val (.ref a), .val (.double kk), .second] [(.int (1 : Int32)), (.int (0 : Int32)), (.ref rv)])) K
  refine Wlk.of (fun _ k => XS.iadd X25.here hx rfl (hb hby dA0_31) rfl k) ?_
  show Wlk p.tables e below (T25.setTop (mkF m 32 #[.val (.ref a), .val (.double kk), .second] [(.int (1 : Int32)), (.ref rv)])) K
  refine Wlk.of (fun _ k => XS.aloadN X25.here hx rfl (hb hby dA0_32) rfl rfl k) ?_
  show Wlk p.tables e below (T25.setTop (mkF m 33 #[.val (.ref a), .val (.double kk), .second] [(.ref a), (.int (1 : Int32)), (.ref rv)])) K
  obtain ⟨T26, X26, e26, st26⟩ := getF X25 hx hZ hown (host := "") (Or.inl (hw _ (List.mem_of_getElem? (i := 15) rfl))) Via.refl e25 f22 (g := (mkF m 33 #[.val (.ref a), .val (.double kk), .second] [(.ref a), (.int (1 : Int32)), (.ref rv)])) rfl rfl (hb hby dA0_33)
  refine Wlk.of (fun _ k => st26 _ k) ?_
  show Wlk p.tables e below (T26.setTop (mkF m 36 #[.val (.ref a), .val (.double kk), .second] [(.ref rv), (.int (1 : Int32)), (.ref rv)])) K
  refine Wlk.of (fun _ k => XS.aloadN X26.here hx rfl (hb hby dA0_36) rfl rfl k) ?_
  show Wlk p.tables e below (T26.setTop (mkF m 37 #[.val (.ref a), .val (.double kk), .second] [(.ref a), (.ref rv), (.int (1 : Int32)), (.ref rv)])) K
  obtain ⟨T27, X27, e27, st27⟩ := getF X26 hx hZ hown (host := "") (Or.inl (hw _ (List.mem_of_getElem? (i := 25) rfl))) Via.refl e26 f24 (g := (mkF m 37 #[.val (.ref a), .val (.double kk), .second] [(.ref a), (.ref rv), (.int (1 : Int32)), (.ref rv)])) rfl rfl (hb hby dA0_37)
  refine Wlk.of (fun _ k => st27 _ k) ?_
  show Wlk p.tables e below (T27.setTop (mkF m 40 #[.val (.ref a), .val (.double kk), .second] [(.int (0 : Int32)), (.ref rv), (.int (1 : Int32)), (.ref rv)])) K
  have f28 : Arl Z h19 rv .double [(.double r0), (.double r1), (.double r2), (.double r3)] := (((A_rv.keep K2q nin0).other W11 (Ne.symm ne_a_rv)).other W19 (Ne.symm ne_rf_rv))
  refine Wlk.of (fun _ k => ldD X27 hx hZ e27 f28 (j := (0 : Int32)) (i := 0) (by decide) (by decide) rfl (g := (mkF m 40 #[.val (.ref a), .val (.double kk), .second] [(.int (0 : Int32)), (.ref rv), (.int (1 : Int32)), (.ref rv)])) rfl rfl (hb hby dA0_40) _ k) ?_
  show Wlk p.tables e below (T27.setTop (mkF m 41 #[.val (.ref a), .val (.double kk), .second] [(.double r0), (.int (1 : Int32)), (.ref rv)])) K
  refine Wlk.of (fun _ k => XS.dconst1 X27.here hx rfl (hb hby dA0_41) rfl k) ?_
  show Wlk p.tables e below (T27.setTop (mkF m 42 #[.val (.ref a), .val (.double kk), .second] [(.double FP.dconst1), (.double r0), (.int (1 : Int32)), (.ref rv)])) K
  refine Wlk.of (fun _ k => XS.dloadN X27.here hx rfl (hb hby dA0_42) rfl k) ?_
  show Wlk p.tables e below (T27.setTop (mkF m 43 #[.val (.ref a), .val (.double kk), .second] [(.double kk), (.double FP.dconst1), (.double r0), (.int (1 : Int32)), (.ref rv)])) K
  refine Wlk.of (fun _ k => XS.dloadN X27.here hx rfl (hb hby dA0_43) rfl k) ?_
  show Wlk p.tables e below (T27.setTop (mkF m 44 #[.val (.ref a), .val (.double kk), .second] [(.double kk), (.double kk), (.double FP.dconst1), (.double r0), (.int (1 : Int32)), (.ref rv)])) K
  refine Wlk.of (fun _ k => XS.dmulS X27.here hx rfl (hb hby dA0_44) rfl a44 rfl k) ?_
  show Wlk p.tables e below (T27.setTop (mkF m 45 #[.val (.ref a), .val (.double kk), .second] [(.double (FP.dmul kk kk)), (.double FP.dconst1), (.double r0), (.int (1 : Int32)), (.ref rv)])) K
  refine Wlk.of (fun _ k => XS.dsubS X27.here hx rfl (hb hby dA0_45) rfl a45 rfl k) ?_
  show Wlk p.tables e below (T27.setTop (mkF m 46 #[.val (.ref a), .val (.double kk), .second] [(.double (FP.dsub FP.dconst1 (FP.dmul kk kk))), (.double r0), (.int (1 : Int32)), (.ref rv)])) K
  refine Wlk.of (fun _ k => XS.dmulS X27.here hx rfl (hb hby dA0_46) rfl a46 rfl k) ?_
  show Wlk p.tables e below (T27.setTop (mkF m 47 #[.val (.ref a), .val (.double kk), .second] [(.double (FP.dmul r0 (FP.dsub FP.dconst1 (FP.dmul kk kk)))), (.int (1 : Int32)), (.ref rv)])) K
  obtain ⟨T29, h29, X29, e29, W29, V29, st29⟩ := stDl X27 hx hZ e27 f28 (j := (1 : Int32)) (i := 1) (by decide) (by decide) (show 1 < 4 by decide) (g := (mkF m 47 #[.val (.ref a), .val (.double kk), .second] [(.double (FP.dmul r0 (FP.dsub FP.dconst1 (FP.dmul kk kk)))), (.int (1 : Int32)), (.ref rv)])) rfl rfl (hb hby dA0_47)
  refine Wlk.of (fun _ k => st29 _ k) ?_
  have K30 : Keep h0 h29 [a, rf, rv] := K20.wr W29 (Or.inl (List.mem_of_getElem? (i := 2) rfl))
  have N31 := Fr.snoc X29 N21 g_rv
  have Vw29 : Arl Z h29 rv .double [(.double r0), (.double (FP.dmul r0 (FP.dsub FP.dconst1 (FP.dmul kk kk)))), (.double r2), (.double r3)] := V29
  show Wlk p.tables e below (T29.setTop (mkF m 48 #[.val (.ref a), .val (.double kk), .second] [])) K
  refine Wlk.of (fun _ k => XS.aloadN X29.here hx rfl (hb hby dA0_48) rfl rfl k) ?_
  show Wlk p.tables e below (T29.setTop (mkF m 49 #[.val (.ref a), .val (.double kk), .second] [(.ref a)])) K
  refine Wlk.of (fun _ k => XS.dup X29.here hx rfl (hb hby dA0_49) rfl rfl k) ?_
  show Wlk p.tables e below (T29.setTop (mkF m 50 #[.val (.ref a), .val (.double kk), .second] [(.ref a), (.ref a)])) K
  have f32 : Fld Z h29 a "lagwise/estimators/ArRecursion" "highestOrder" "I" (.int (0 : Int32)) := (f24.other W29 (Or.inl ne_a_rv))
  obtain ⟨T33, X33, e33, st33⟩ := getF X29 hx hZ hown (host := "") (Or.inl (hw _ (List.mem_of_getElem? (i := 25) rfl))) Via.refl e29 f32 (g := (mkF m 50 #[.val (.ref a), .val (.double kk), .second] [(.ref a), (.ref a)])) rfl rfl (hb hby dA0_50)
  refine Wlk.of (fun _ k => st33 _ k) ?_
  show Wlk p.tables e below (T33.setTop (mkF m 53 #[.val (.ref a), .val (.double kk), .second] [(.int (0 : Int32)), (.ref a)])) K
  refine Wlk.of (fun _ k => XS.iconst X33.here hx rfl (hb hby dA0_53) k) ?_
  show Wlk p.tables e below (T33.setTop (mkF m 54 #[.val (.ref a), .val (.double kk), .second] [(.int (1 : Int32)), (.int (0 : Int32)), (.ref a)])) K
  refine Wlk.of (fun _ k => XS.iadd X33.here hx rfl (hb hby dA0_54) rfl k) ?_
  show Wlk p.tables e below (T33.setTop (mkF m 55 #[.val (.ref a), .val (.double kk), .second] [(.int (1 : Int32)), (.ref a)])) K
  have f34 : Exa Z h29 a "lagwise/estimators/ArRecursion" := (((f10.wr W11).wr W19).wr W29)
  obtain ⟨T35, h35, X35, e35, W35, st35⟩ := putF X33 hx hZ hown (host := "") (Or.inl (hw _ (List.mem_of_getElem? (i := 25) rfl))) Via.refl e33 f32 f34 (Or.inl (hw _ (List.mem_of_getElem? (i := 26) rfl))) (hw _ (List.mem_of_getElem? (i := 2) rfl)) (ty := .int) (by decide) rfl rfl (g := (mkF m 55 #[.val (.ref a), .val (.double kk), .second] [(.int (1 : Int32)), (.ref a)])) rfl rfl (hb hby dA0_55)
  have Fw35 := f32.same W35
  refine Wlk.of (fun _ k => st35 _ k) ?_
  have K36 : Keep h0 h35 [a, rf, rv] := K30.wr W35 (Or.inl (List.mem_of_getElem? (i := 0) rfl))
  have N37 := Fr.snoc X35 N31 g_a
  show Wlk p.tables e below (T35.setTop (mkF m 58 #[.val (.ref a), .val (.double kk), .second] [])) K
  have f38 : Fld Z h35 a "lagwise/estimators/ArRecursion" "highestCoefficients" "[D" (.ref nw_2) := (((Fw11.other W19 (Or.inl ne_a_rf)).other W29 (Or.inl ne_a_rv)).other W35 (Or.inr (slot_ne (Or.inl (hw _ (List.mem_of_getElem? (i := 12) rfl))) (Or.inl (hw _ (List.mem_of_getElem? (i := 26) rfl))) (by decide) (t := (.array .double)) (t' := .int) (by decide) (by decide))))
  have f39 : Fld Z h35 a "lagwise/estimators/ArRecursion" "reflections" "[D" (.ref rf) := (((f14.other W19 (Or.inl ne_a_rf)).other W29 (Or.inl ne_a_rv)).other W35 (Or.inr (slot_ne (Or.inr (hw _ (List.mem_of_getElem? (i := 14) rfl))) (Or.inl (hw _ (List.mem_of_getElem? (i := 26) rfl))) (by decide) (t := (.array .double)) (t' := .int) (by decide) (by decide))))
  have f40 : Fld Z h35 a "lagwise/estimators/ArRecursion" "residualVariances" "[D" (.ref rv) := ((f22.other W29 (Or.inl ne_a_rv)).other W35 (Or.inr (slot_ne (Or.inr (hw _ (List.mem_of_getElem? (i := 16) rfl))) (Or.inl (hw _ (List.mem_of_getElem? (i := 26) rfl))) (by decide) (t := (.array .double)) (t' := .int) (by decide) (by decide))))
  have f41 : Arl Z h35 nw_2 .double [(.double kk)] := ((((p2_1.other W11 (Ne.symm ne4)).other W19 (Ne.symm ne6)).other W29 (Ne.symm ne7)).other W35 (Ne.symm ne4))
  have f42 : Arl Z h35 rf .double [(.double kk), (.double u1), (.double u2)] := ((Vw19.other W29 ne_rf_rv).other W35 (Ne.symm ne_a_rf))
  have f43 : Arl Z h35 rv .double [(.double r0), (.double (FP.dmul r0 (FP.dsub FP.dconst1 (FP.dmul kk kk)))), (.double r2), (.double r3)] := (Vw29.other W35 (Ne.symm ne_a_rv))
  refine hK none X35 (fun q => rfl) (fun fs hr => X35.returnOut hx hret (hb hby dA0_58) hr) ?_ (by decide) (by decide)
  rw [show T35.heap = h35 from e35]
  exact ⟨nw_2, rfl, N37, K36, sz_nw_2, f38, f39, f40, Fw35, f41, f42, f43⟩
theorem dS1_0 : decode prog_4_method_10_code 0 = .ok (.aload_n 0, 1) := by decide +kernel
theorem dS1_1 : decode prog_4_method_10_code 1 = .ok (.arraylength, 1) := by decide +kernel
theorem dS1_2 : decode prog_4_method_10_code 2 = .ok (.iconst 1, 1) := by decide +kernel
theorem dS1_3 : decode prog_4_method_10_code 3 = .ok (.iadd, 1) := by decide +kernel
theorem dS1_4 : decode prog_4_method_10_code 4 = .ok (.istore_n 3, 1) := by decide +kernel
theorem dS1_5 : decode prog_4_method_10_code 5 = .ok (.iload_n 3, 1) := by decide +kernel
theorem dS1_6 : decode prog_4_method_10_code 6 = .ok (.newarray .double, 2) := by decide +kernel
theorem dS1_8 : decode prog_4_method_10_code 8 = .ok (.astore 4, 2) := by decide +kernel
theorem dS1_10 : decode prog_4_method_10_code 10 = .ok (.iconst 1, 1) := by decide +kernel
theorem dS1_11 : decode prog_4_method_10_code 11 = .ok (.istore 5, 2) := by decide +kernel
theorem dS1_13 : decode prog_4_method_10_code 13 = .ok (.iload 5, 2) := by decide +kernel
theorem dS1_15 : decode prog_4_method_10_code 15 = .ok (.iload_n 3, 1) := by decide +kernel
theorem dS1_16 : decode prog_4_method_10_code 16 = .ok (.if_icmp .ge 33, 3) := by decide +kernel
theorem dS1_19 : decode prog_4_method_10_code 19 = .ok (.aload 4, 2) := by decide +kernel
theorem dS1_21 : decode prog_4_method_10_code 21 = .ok (.iload 5, 2) := by decide +kernel
theorem dS1_23 : decode prog_4_method_10_code 23 = .ok (.iconst 1, 1) := by decide +kernel
theorem dS1_24 : decode prog_4_method_10_code 24 = .ok (.isub, 1) := by decide +kernel
theorem dS1_25 : decode prog_4_method_10_code 25 = .ok (.aload_n 0, 1) := by decide +kernel
theorem dS1_26 : decode prog_4_method_10_code 26 = .ok (.iload 5, 2) := by decide +kernel
theorem dS1_28 : decode prog_4_method_10_code 28 = .ok (.iconst 1, 1) := by decide +kernel
theorem dS1_29 : decode prog_4_method_10_code 29 = .ok (.isub, 1) := by decide +kernel
theorem dS1_30 : decode prog_4_method_10_code 30 = .ok (.daload, 1) := by decide +kernel
theorem dS1_31 : decode prog_4_method_10_code 31 = .ok (.dload_n 1, 1) := by decide +kernel
theorem dS1_32 : decode prog_4_method_10_code 32 = .ok (.aload_n 0, 1) := by decide +kernel
theorem dS1_33 : decode prog_4_method_10_code 33 = .ok (.iload_n 3, 1) := by decide +kernel
theorem dS1_34 : decode prog_4_method_10_code 34 = .ok (.iload 5, 2) := by decide +kernel
theorem dS1_36 : decode prog_4_method_10_code 36 = .ok (.isub, 1) := by decide +kernel
theorem dS1_37 : decode prog_4_method_10_code 37 = .ok (.iconst 1, 1) := by decide +kernel
theorem dS1_38 : decode prog_4_method_10_code 38 = .ok (.isub, 1) := by decide +kernel
theorem dS1_39 : decode prog_4_method_10_code 39 = .ok (.daload, 1) := by decide +kernel
theorem dS1_40 : decode prog_4_method_10_code 40 = .ok (.dmul, 1) := by decide +kernel
theorem dS1_41 : decode prog_4_method_10_code 41 = .ok (.dsub, 1) := by decide +kernel
theorem dS1_42 : decode prog_4_method_10_code 42 = .ok (.dastore, 1) := by decide +kernel
theorem dS1_43 : decode prog_4_method_10_code 43 = .ok (.iinc 5 1, 3) := by decide +kernel
theorem dS1_46 : decode prog_4_method_10_code 46 = .ok (.goto (-33), 3) := by decide +kernel
theorem dS1_49 : decode prog_4_method_10_code 49 = .ok (.aload 4, 2) := by decide +kernel
theorem dS1_51 : decode prog_4_method_10_code 51 = .ok (.iload_n 3, 1) := by decide +kernel
theorem dS1_52 : decode prog_4_method_10_code 52 = .ok (.iconst 1, 1) := by decide +kernel
theorem dS1_53 : decode prog_4_method_10_code 53 = .ok (.isub, 1) := by decide +kernel
theorem dS1_54 : decode prog_4_method_10_code 54 = .ok (.dload_n 1, 1) := by decide +kernel
theorem dS1_55 : decode prog_4_method_10_code 55 = .ok (.dastore, 1) := by decide +kernel
theorem dS1_56 : decode prog_4_method_10_code 56 = .ok (.aload 4, 2) := by decide +kernel
theorem dS1_58 : decode prog_4_method_10_code 58 = .ok (.areturn, 1) := by decide +kernel
theorem ef_rmS1 (m : MethodId) (cc : Addr) (kk : UInt64) : entryFrame m #[(.ref cc), (.double kk)] 6 = mkF m 0 #[.val (.ref cc), .val (.double kk), .second, .unset, .unset, .unset] [] := by first | (simp [entryFrame, mkF, argsToLocals, Value.category]; done) | rfl
def Q_rmS1 (Z : State) (cc : Addr) (kk : UInt64) (c0 : UInt64) (h0 : Heap) (n0 : Nat) (v : Option Value) (h : Heap) (L : List Loc) : Prop := ∃ nw : Addr, v = (some (.ref nw)) ∧ Fr n0 L ∧ Keep h0 h [] ∧ h0.size ≤ nw ∧ Arl Z h nw .double [(.double (FP.dsub c0 (FP.dmul kk c0))), (.double kk)]
set_option maxRecDepth 65536 in
set_option maxHeartbeats 40000000 in
theorem rmS1 (l : Launch) (Z : State) (a0 : Array Value) (hw : ∀ d ∈ tables_1, d.before a0 Z = true) (cc : Addr) (kk : UInt64) (c0 : UInt64) (h0 : Heap) (n0 : Nat) (Z0 : n0 ≤ h0.size) (A_cc : Arl Z h0 cc .double [(.double c0)]) (m40_0 : Fl.NoNaN64 (FP.dmul kk c0)) (m41_0 : Fl.NoNaN64 (FP.dsub c0 (FP.dmul kk c0))) :
    Ctr l Z h0 (⟨"lagwise/estimators/ArRecursion", "stepUp", "([DD)[D"⟩ : MethodName) prog_4_method_10_code 6 (some (.array .double)) [] ({ frames := 0, cells := 1, slots := 2, locals := 0 } : Room) #[(.ref cc), (.double kk)] (Q_rmS1 Z cc kk c0 h0 n0) := by
  refine Ctr.make (plainFor_of_name pn_22) fun p e s m below meth c s₁ K hret hml hx hby hown hnm hZ X0 e0 hK => ?_
  have hown : s.vm.findClass "lagwise/estimators/ArRecursion" = some m.cls := hown
  have N0 := Fr.nil n0
  have K0 : Keep h0 h0 [] := Keep.refl _ _
  refine Wlk.of (fun _ k => castTop (ef_rmS1 m cc kk) k) ?_
  show Wlk p.tables e below (s₁.setTop (mkF m 0 #[.val (.ref cc), .val (.double kk), .second, .unset, .unset, .unset] [])) K
  refine Wlk.of (fun _ k => XS.aloadN X0.here hx rfl (hb hby dS1_0) rfl rfl k) ?_
  show Wlk p.tables e below (s₁.setTop (mkF m 1 #[.val (.ref cc), .val (.double kk), .second, .unset, .unset, .unset] [(.ref cc)])) K
  refine Wlk.of (fun _ k => lenL X0 hx hZ e0 A_cc (n := (1 : Int32)) rfl (g := (mkF m 1 #[.val (.ref cc), .val (.double kk), .second, .unset, .unset, .unset] [(.ref cc)])) rfl rfl (hb hby dS1_1) _ k) ?_
  show Wlk p.tables e below (s₁.setTop (mkF m 2 #[.val (.ref cc), .val (.double kk), .second, .unset, .unset, .unset] [(.int (1 : Int32))])) K
  refine Wlk.of (fun _ k => XS.iconst X0.here hx rfl (hb hby dS1_2) k) ?_
  show Wlk p.tables e below (s₁.setTop (mkF m 3 #[.val (.ref cc), .val (.double kk), .second, .unset, .unset, .unset] [(.int (1 : Int32)), (.int (1 : Int32))])) K
  refine Wlk.of (fun _ k => XS.iadd X0.here hx rfl (hb hby dS1_3) rfl k) ?_
  show Wlk p.tables e below (s₁.setTop (mkF m 4 #[.val (.ref cc), .val (.double kk), .second, .unset, .unset, .unset] [(.int (2 : Int32))])) K
  refine Wlk.of (fun _ k => XS.istoreN X0.here hx rfl (hb hby dS1_4) rfl (l' := #[.val (.ref cc), .val (.double kk), .second, .val (.int (2 : Int32)), .unset, .unset]) rfl k) ?_
  show Wlk p.tables e below (s₁.setTop (mkF m 5 #[.val (.ref cc), .val (.double kk), .second, .val (.int (2 : Int32)), .unset, .unset] [])) K
  refine Wlk.of (fun _ k => XS.iloadN X0.here hx rfl (hb hby dS1_5) rfl k) ?_
  show Wlk p.tables e below (s₁.setTop (mkF m 6 #[.val (.ref cc), .val (.double kk), .second, .val (.int (2 : Int32)), .unset, .unset] [(.int (2 : Int32))])) K
  obtain ⟨T1, h1, X1, e1, E1, A1, st1⟩ := newL X0 hx hZ (hw _ (List.mem_of_getElem? (i := 10) rfl)) e0 (g := (mkF m 6 #[.val (.ref cc), .val (.double kk), .second, .val (.int (2 : Int32)), .unset, .unset] [(.int (2 : Int32))])) rfl (hb hby dS1_6) rfl (by decide) (cap := 2) (by decide) (by decide) (by decide) (by decide)
  obtain ⟨b1, g1⟩ : ∃ z, z = h0.size := ⟨_, rfl⟩
  rw [← g1] at A1 st1
  have ne2 : cc ≠ b1 := Nat.ne_of_lt (Nat.lt_of_lt_of_le A_cc.lt (Nat.le_of_eq g1.symm))
  have sz_b1 : h0.size ≤ b1 := Nat.le_trans K0.1 (Nat.le_of_eq g1.symm)
  have g_b1 : n0 ≤ b1 := Nat.le_trans Z0 sz_b1
  have K4 : Keep h0 h1 [] := K0.ext E1
  have A_b1 : Arl Z h1 b1 .double [(.double (0 : UInt64)), (.double (0 : UInt64))] := A1
  refine Wlk.of (fun _ k => st1 _ k) ?_
  show Wlk p.tables e below (T1.setTop (mkF m 8 #[.val (.ref cc), .val (.double kk), .second, .val (.int (2 : Int32)), .unset, .unset] [(.ref b1)])) K
  refine Wlk.of (fun _ k => XS.astore X1.here hx rfl (hb hby dS1_8) rfl rfl (l' := #[.val (.ref cc), .val (.double kk), .second, .val (.int (2 : Int32)), .val (.ref b1), .unset]) rfl k) ?_
  show Wlk p.tables e below (T1.setTop (mkF m 10 #[.val (.ref cc), .val (.double kk), .second, .val (.int (2 : Int32)), .val (.ref b1), .unset] [])) K
  refine Wlk.of (fun _ k => XS.iconst X1.here hx rfl (hb hby dS1_10) k) ?_
  show Wlk p.tables e below (T1.setTop (mkF m 11 #[.val (.ref cc), .val (.double kk), .second, .val (.int (2 : Int32)), .val (.ref b1), .unset] [(.int (1 : Int32))])) K
  refine Wlk.of (fun _ k => XS.istore X1.here hx rfl (hb hby dS1_11) rfl (l' := #[.val (.ref cc), .val (.double kk), .second, .val (.int (2 : Int32)), .val (.ref b1), .val (.int (1 : Int32))]) rfl k) ?_
  show Wlk p.tables e below (T1.setTop (mkF m 13 #[.val (.ref cc), .val (.double kk), .second, .val (.int (2 : Int32)), .val (.ref b1), .val (.int (1 : Int32))] [])) K
  refine Wlk.of (fun _ k => XS.iload X1.here hx rfl (hb hby dS1_13) rfl k) ?_
  show Wlk p.tables e below (T1.setTop (mkF m 15 #[.val (.ref cc), .val (.double kk), .second, .val (.int (2 : Int32)), .val (.ref b1), .val (.int (1 : Int32))] [(.int (1 : Int32))])) K
  refine Wlk.of (fun _ k => XS.iloadN X1.here hx rfl (hb hby dS1_15) rfl k) ?_
  show Wlk p.tables e below (T1.setTop (mkF m 16 #[.val (.ref cc), .val (.double kk), .second, .val (.int (2 : Int32)), .val (.ref b1), .val (.int (1 : Int32))] [(.int (2 : Int32)), (.int (1 : Int32))])) K
  refine Wlk.of (fun _ k => XS.icmpNo X1.here hx rfl (hb hby dS1_16) rfl (tlt (by decide : (1 : Int32) < (2 : Int32))).2.1 k) ?_
  show Wlk p.tables e below (T1.setTop (mkF m 19 #[.val (.ref cc), .val (.double kk), .second, .val (.int (2 : Int32)), .val (.ref b1), .val (.int (1 : Int32))] [])) K
  refine Wlk.of (fun _ k => XS.aload X1.here hx rfl (hb hby dS1_19) rfl rfl k) ?_
  show Wlk p.tables e below (T1.setTop (mkF m 21 #[.val (.ref cc), .val (.double kk), .second, .val (.int (2 : Int32)), .val (.ref b1), .val (.int (1 : Int32))] [(.ref b1)])) K
  refine Wlk.of (fun _ k => XS.iload X1.here hx rfl (hb hby dS1_21) rfl k) ?_
  show Wlk p.tables e below (T1.setTop (mkF m 23 #[.val (.ref cc), .val (.double kk), .second, .val (.int (2 : Int32)), .val (.ref b1), .val (.int (1 : Int32))] [(.int (1 : Int32)), (.ref b1)])) K
  refine Wlk.of (fun _ k => XS.iconst X1.here hx rfl (hb hby dS1_23) k) ?_
  show Wlk p.tables e below (T1.setTop (mkF m 24 #[.val (.ref cc), .val (.double kk), .second, .val (.int (2 : Int32)), .val (.ref b1), .val (.int (1 : Int32))] [(.int (1 : Int32)), (.int (1 : Int32)), (.ref b1)])) K
  refine Wlk.of (fun _ k => XS.isub X1.here hx rfl (hb hby dS1_24) rfl k) ?_
  show Wlk p.tables e below (T1.setTop (mkF m 25 #[.val (.ref cc), .val (.double kk), .second, .val (.int (2 : Int32)), .val (.ref b1), .val (.int (1 : Int32))] [(.int (0 : Int32)), (.ref b1)])) K
  refine Wlk.of (fun _ k => XS.aloadN X1.here hx rfl (hb hby dS1_25) rfl rfl k) ?_
  show Wlk p.tables e below (T1.setTop (mkF m 26 #[.val (.ref cc), .val (.double kk), .second, .val (.int (2 : Int32)), .val (.ref b1), .val (.int (1 : Int32))] [(.ref cc), (.int (0 : Int32)), (.ref b1)])) K
  refine Wlk.of (fun _ k => XS.iload X1.here hx rfl (hb hby dS1_26) rfl k) ?_
  show Wlk p.tables e below (T1.setTop (mkF m 28 #[.val (.ref cc), .val (.double kk), .second, .val (.int (2 : Int32)), .val (.ref b1), .val (.int (1 : Int32))] [(.int (1 : Int32)), (.ref cc), (.int (0 : Int32)), (.ref b1)])) K
  refine Wlk.of (fun _ k => XS.iconst X1.here hx rfl (hb hby dS1_28) k) ?_
  show Wlk p.tables e below (T1.setTop (mkF m 29 #[.val (.ref cc), .val (.double kk), .second, .val (.int (2 : Int32)), .val (.ref b1), .val (.int (1 : Int32))] [(.int (1 : Int32)), (.int (1 : Int32)), (.ref cc), (.int (0 : Int32)), (.ref b1)])) K
  refine Wlk.of (fun _ k => XS.isub X1.here hx rfl (hb hby dS1_29) rfl k) ?_
  show Wlk p.tables e below (T1.setTop (mkF m 30 #[.val (.ref cc), .val (.double kk), .second, .val (.int (2 : Int32)), .val (.ref b1), .val (.int (1 : Int32))] [(.int (0 : Int32)), (.ref cc), (.int (0 : Int32)), (.ref b1)])) K
  have f5 : Arl Z h1 cc .double [(.double c0)] := (A_cc.ext E1)
  refine Wlk.of (fun _ k => ldD X1 hx hZ e1 f5 (j := (0 : Int32)) (i := 0) (by decide) (by decide) rfl (g := (mkF m 30 #[.val (.ref cc), .val (.double kk), .second, .val (.int (2 : Int32)), .val (.ref b1), .val (.int (1 : Int32))] [(.int (0 : Int32)), (.ref cc), (.int (0 : Int32)), (.ref b1)])) rfl rfl (hb hby dS1_30) _ k) ?_
  show Wlk p.tables e below (T1.setTop (mkF m 31 #[.val (.ref cc), .val (.double kk), .second, .val (.int (2 : Int32)), .val (.ref b1), .val (.int (1 : Int32))] [(.double c0), (.int (0 : Int32)), (.ref b1)])) K
  refine Wlk.of (fun _ k => XS.dloadN X1.here hx rfl (hb hby dS1_31) rfl k) ?_
  show Wlk p.tables e below (T1.setTop (mkF m 32 #[.val (.ref cc), .val (.double kk), .second, .val (.int (2 : Int32)), .val (.ref b1), .val (.int (1 : Int32))] [(.double kk), (.double c0), (.int (0 : Int32)), (.ref b1)])) K
  refine Wlk.of (fun _ k => XS.aloadN X1.here hx rfl (hb hby dS1_32) rfl rfl k) ?_
  show Wlk p.tables e below (T1.setTop (mkF m 33 #[.val (.ref cc), .val (.double kk), .second, .val (.int (2 : Int32)), .val (.ref b1), .val (.int (1 : Int32))] [(.ref cc), (.double kk), (.double c0), (.int (0 : Int32)), (.ref b1)])) K
  refine Wlk.of (fun _ k => XS.iloadN X1.here hx rfl (hb hby dS1_33) rfl k) ?_
  show Wlk p.tables e below (T1.setTop (mkF m 34 #[.val (.ref cc), .val (.double kk), .second, .val (.int (2 : Int32)), .val (.ref b1), .val (.int (1 : Int32))] [(.int (2 : Int32)), (.ref cc), (.double kk), (.double c0), (.int (0 : Int32)), (.ref b1)])) K
  refine Wlk.of (fun _ k => XS.iload X1.here hx rfl (hb hby dS1_34) rfl k) ?_
  show Wlk p.tables e below (T1.setTop (mkF m 36 #[.val (.ref cc), .val (.double kk), .second, .val (.int (2 : Int32)), .val (.ref b1), .val (.int (1 : Int32))] [(.int (1 : Int32)), (.int (2 : Int32)), (.ref cc), (.double kk), (.double c0), (.int (0 : Int32)), (.ref b1)])) K
  refine Wlk.of (fun _ k => XS.isub X1.here hx rfl (hb hby dS1_36) rfl k) ?_
  show Wlk p.tables e below (T1.setTop (mkF m 37 #[.val (.ref cc), .val (.double kk), .second, .val (.int (2 : Int32)), .val (.ref b1), .val (.int (1 : Int32))] [(.int (1 : Int32)), (.ref cc), (.double kk), (.double c0), (.int (0 : Int32)), (.ref b1)])) K
  refine Wlk.of (fun _ k => XS.iconst X1.here hx rfl (hb hby dS1_37) k) ?_
  show Wlk p.tables e below (T1.setTop (mkF m 38 #[.val (.ref cc), .val (.double kk), .second, .val (.int (2 : Int32)), .val (.ref b1), .val (.int (1 : Int32))] [(.int (1 : Int32)), (.int (1 : Int32)), (.ref cc), (.double kk), (.double c0), (.int (0 : Int32)), (.ref b1)])) K
  refine Wlk.of (fun _ k => XS.isub X1.here hx rfl (hb hby dS1_38) rfl k) ?_
  show Wlk p.tables e below (T1.setTop (mkF m 39 #[.val (.ref cc), .val (.double kk), .second, .val (.int (2 : Int32)), .val (.ref b1), .val (.int (1 : Int32))] [(.int (0 : Int32)), (.ref cc), (.double kk), (.double c0), (.int (0 : Int32)), (.ref b1)])) K
  refine Wlk.of (fun _ k => ldD X1 hx hZ e1 f5 (j := (0 : Int32)) (i := 0) (by decide) (by decide) rfl (g := (mkF m 39 #[.val (.ref cc), .val (.double kk), .second, .val (.int (2 : Int32)), .val (.ref b1), .val (.int (1 : Int32))] [(.int (0 : Int32)), (.ref cc), (.double kk), (.double c0), (.int (0 : Int32)), (.ref b1)])) rfl rfl (hb hby dS1_39) _ k) ?_
  show Wlk p.tables e below (T1.setTop (mkF m 40 #[.val (.ref cc), .val (.double kk), .second, .val (.int (2 : Int32)), .val (.ref b1), .val (.int (1 : Int32))] [(.double c0), (.double kk), (.double c0), (.int (0 : Int32)), (.ref b1)])) K
  refine Wlk.of (fun _ k => XS.dmulS X1.here hx rfl (hb hby dS1_40) rfl m40_0 rfl k) ?_
  show Wlk p.tables e below (T1.setTop (mkF m 41 #[.val (.ref cc), .val (.double kk), .second, .val (.int (2 : Int32)), .val (.ref b1), .val (.int (1 : Int32))] [(.double (FP.dmul kk c0)), (.double c0), (.int (0 : Int32)), (.ref b1)])) K
  refine Wlk.of (fun _ k => XS.dsubS X1.here hx rfl (hb hby dS1_41) rfl m41_0 rfl k) ?_
  show Wlk p.tables e below (T1.setTop (mkF m 42 #[.val (.ref cc), .val (.double kk), .second, .val (.int (2 : Int32)), .val (.ref b1), .val (.int (1 : Int32))] [(.double (FP.dsub c0 (FP.dmul kk c0))), (.int (0 : Int32)), (.ref b1)])) K
  obtain ⟨T6, h6, X6, e6, W6, V6, st6⟩ := stDl X1 hx hZ e1 A_b1 (j := (0 : Int32)) (i := 0) (by decide) (by decide) (show 0 < 2 by decide) (g := (mkF m 42 #[.val (.ref cc), .val (.double kk), .second, .val (.int (2 : Int32)), .val (.ref b1), .val (.int (1 : Int32))] [(.double (FP.dsub c0 (FP.dmul kk c0))), (.int (0 : Int32)), (.ref b1)])) rfl rfl (hb hby dS1_42)
  refine Wlk.of (fun _ k => st6 _ k) ?_
  have K7 : Keep h0 h6 [] := K4.wr W6 (Or.inr sz_b1)
  have N8 := Fr.snoc X6 N0 g_b1
  have Vw6 : Arl Z h6 b1 .double [(.double (FP.dsub c0 (FP.dmul kk c0))), (.double (0 : UInt64))] := V6
  show Wlk p.tables e below (T6.setTop (mkF m 43 #[.val (.ref cc), .val (.double kk), .second, .val (.int (2 : Int32)), .val (.ref b1), .val (.int (1 : Int32))] [])) K
  refine Wlk.of (fun _ k => XS.iinc X6.here hx rfl (hb hby dS1_43) rfl (l' := #[.val (.ref cc), .val (.double kk), .second, .val (.int (2 : Int32)), .val (.ref b1), .val (.int (2 : Int32))]) rfl k) ?_
  show Wlk p.tables e below (T6.setTop (mkF m 46 #[.val (.ref cc), .val (.double kk), .second, .val (.int (2 : Int32)), .val (.ref b1), .val (.int (2 : Int32))] [])) K
  refine Wlk.of (fun _ k => XS.goto X6.here hx rfl (pc0 := 46) (pc' := 13) rfl (hb hby dS1_46) (by decide) (by decide) k) ?_
  show Wlk p.tables e below (T6.setTop (mkF m 13 #[.val (.ref cc), .val (.double kk), .second, .val (.int (2 : Int32)), .val (.ref b1), .val (.int (2 : Int32))] [])) K
  refine Wlk.of (fun _ k => XS.iload X6.here hx rfl (hb hby dS1_13) rfl k) ?_
  show Wlk p.tables e below (T6.setTop (mkF m 15 #[.val (.ref cc), .val (.double kk), .second, .val (.int (2 : Int32)), .val (.ref b1), .val (.int (2 : Int32))] [(.int (2 : Int32))])) K
  refine Wlk.of (fun _ k => XS.iloadN X6.here hx rfl (hb hby dS1_15) rfl k) ?_
  show Wlk p.tables e below (T6.setTop (mkF m 16 #[.val (.ref cc), .val (.double kk), .second, .val (.int (2 : Int32)), .val (.ref b1), .val (.int (2 : Int32))] [(.int (2 : Int32)), (.int (2 : Int32))])) K
  refine Wlk.of (fun _ k => XS.icmpYes X6.here hx rfl (pc0 := 16) (pc' := 49) rfl (hb hby dS1_16) rfl (flt (by decide : ¬ ((2 : Int32) < (2 : Int32)))).2.1 (by decide) (by decide) k) ?_
  show Wlk p.tables e below (T6.setTop (mkF m 49 #[.val (.ref cc), .val (.double kk), .second, .val (.int (2 : Int32)), .val (.ref b1), .val (.int (2 : Int32))] [])) K
  refine Wlk.of (fun _ k => XS.aload X6.here hx rfl (hb hby dS1_49) rfl rfl k) ?_
  show Wlk p.tables e below (T6.setTop (mkF m 51 #[.val (.ref cc), .val (.double kk), .second, .val (.int (2 : Int32)), .val (.ref b1), .val (.int (2 : Int32))] [(.ref b1)])) K
  refine Wlk.of (fun _ k => XS.iloadN X6.here hx rfl (hb hby dS1_51) rfl k) ?_
  show Wlk p.tables e below (T6.setTop (mkF m 52 #[.val (.ref cc), .val (.double kk), .second, .val (.int (2 : Int32)), .val (.ref b1), .val (.int (2 : Int32))] [(.int (2 : Int32)), (.ref b1)])) K
  refine Wlk.of (fun _ k => XS.iconst X6.here hx rfl (hb hby dS1_52) k) ?_
  show Wlk p.tables e below (T6.setTop (mkF m 53 #[.val (.ref cc), .val (.double kk), .second, .val (.int (2 : Int32)), .val (.ref b1), .val (.int (2 : Int32))] [(.int (1 : Int32)), (.int (2 : Int32)), (.ref b1)])) K
  refine Wlk.of (fun _ k => XS.isub X6.here hx rfl (hb hby dS1_53) rfl k) ?_
  show Wlk p.tables e below (T6.setTop (mkF m 54 #[.val (.ref cc), .val (.double kk), .second, .val (.int (2 : Int32)), .val (.ref b1), .val (.int (2 : Int32))] [(.int (1 : Int32)), (.ref b1)])) K
  refine Wlk.of (fun _ k => XS.dloadN X6.here hx rfl (hb hby dS1_54) rfl k) ?_
  show Wlk p.tables e below (T6.setTop (mkF m 55 #[.val (.ref cc), .val (.double kk), .second, .val (.int (2 : Int32)), .val (.ref b1), .val (.int (2 : Int32))] [(.double kk), (.int (1 : Int32)), (.ref b1)])) K
  obtain ⟨T9, h9, X9, e9, W9, V9, st9⟩ := stDl X6 hx hZ e6 Vw6 (j := (1 : Int32)) (i := 1) (by decide) (by decide) (show 1 < 2 by decide) (g := (mkF m 55 #[.val (.ref cc), .val (.double kk), .second, .val (.int (2 : Int32)), .val (.ref b1), .val (.int (2 : Int32))] [(.double kk), (.int (1 : Int32)), (.ref b1)])) rfl rfl (hb hby dS1_55)
  refine Wlk.of (fun _ k => st9 _ k) ?_
  have K10 : Keep h0 h9 [] := K7.wr W9 (Or.inr sz_b1)
  have N11 := Fr.snoc X9 N8 g_b1
  have Vw9 : Arl Z h9 b1 .double [(.double (FP.dsub c0 (FP.dmul kk c0))), (.double kk)] := V9
  show Wlk p.tables e below (T9.setTop (mkF m 56 #[.val (.ref cc), .val (.double kk), .second, .val (.int (2 : Int32)), .val (.ref b1), .val (.int (2 : Int32))] [])) K
  refine Wlk.of (fun _ k => XS.aload X9.here hx rfl (hb hby dS1_56) rfl rfl k) ?_
  show Wlk p.tables e below (T9.setTop (mkF m 58 #[.val (.ref cc), .val (.double kk), .second, .val (.int (2 : Int32)), .val (.ref b1), .val (.int (2 : Int32))] [(.ref b1)])) K
  refine hK (some (.ref b1)) X9 (fun q => by cases q) (fun fs hr => retOut X9 hx hret rfl (Or.inr (Or.inr (Or.inr (Or.inr ⟨rfl, rfl, rfl⟩)))) (hb hby dS1_58) hr) ?_ (by decide) (by decide)
  rw [show T9.heap = h9 from e9]
  exact ⟨b1, rfl, N11, K10, sz_b1, Vw9⟩
theorem dA1_0 : decode prog_4_method_2_code 0 = .ok (.aload_n 0, 1) := by decide +kernel
theorem dA1_1 : decode prog_4_method_2_code 1 = .ok (.aload_n 0, 1) := by decide +kernel
theorem dA1_2 : decode prog_4_method_2_code 2 = .ok (.getfield 7, 3) := by decide +kernel
theorem dA1_5 : decode prog_4_method_2_code 5 = .ok (.dload_n 1, 1) := by decide +kernel
theorem dA1_6 : decode prog_4_method_2_code 6 = .ok (.invokestatic 19, 3) := by decide +kernel
theorem dA1_9 : decode prog_4_method_2_code 9 = .ok (.putfield 7, 3) := by decide +kernel
theorem dA1_12 : decode prog_4_method_2_code 12 = .ok (.aload_n 0, 1) := by decide +kernel
theorem dA1_13 : decode prog_4_method_2_code 13 = .ok (.getfield 13, 3) := by decide +kernel
theorem dA1_16 : decode prog_4_method_2_code 16 = .ok (.aload_n 0, 1) := by decide +kernel
theorem dA1_17 : decode prog_4_method_2_code 17 = .ok (.getfield 23, 3) := by decide +kernel
theorem dA1_20 : decode prog_4_method_2_code 20 = .ok (.dload_n 1, 1) := by decide +kernel
theorem dA1_21 : decode prog_4_method_2_code 21 = .ok (.dastore, 1) := by decide +kernel
theorem dA1_22 : decode prog_4_method_2_code 22 = .ok (.aload_n 0, 1) := by decide +kernel
theorem dA1_23 : decode prog_4_method_2_code 23 = .ok (.getfield 16, 3) := by decide +kernel
theorem dA1_26 : decode prog_4_method_2_code 26 = .ok (.aload_n 0, 1) := by decide +kernel
theorem dA1_27 : decode prog_4_method_2_code 27 = .ok (.getfield 23, 3) := by decide +kernel
theorem dA1_30 : decode prog_4_method_2_code 30 = .ok (.iconst 1, 1) := by decide +kernel
theorem dA1_31 : decode prog_4_method_2_code 31 = .ok (.iadd, 1) := by decide +kernel
theorem dA1_32 : decode prog_4_method_2_code 32 = .ok (.aload_n 0, 1) := by decide +kernel
theorem dA1_33 : decode prog_4_method_2_code 33 = .ok (.getfield 16, 3) := by decide +kernel
theorem dA1_36 : decode prog_4_method_2_code 36 = .ok (.aload_n 0, 1) := by decide +kernel
theorem dA1_37 : decode prog_4_method_2_code 37 = .ok (.getfield 23, 3) := by decide +kernel
theorem dA1_40 : decode prog_4_method_2_code 40 = .ok (.daload, 1) := by decide +kernel
theorem dA1_41 : decode prog_4_method_2_code 41 = .ok (.dconst 1, 1) := by decide +kernel
theorem dA1_42 : decode prog_4_method_2_code 42 = .ok (.dload_n 1, 1) := by decide +kernel
theorem dA1_43 : decode prog_4_method_2_code 43 = .ok (.dload_n 1, 1) := by decide +kernel
theorem dA1_44 : decode prog_4_method_2_code 44 = .ok (.dmul, 1) := by decide +kernel
theorem dA1_45 : decode prog_4_method_2_code 45 = .ok (.dsub, 1) := by decide +kernel
theorem dA1_46 : decode prog_4_method_2_code 46 = .ok (.dmul, 1) := by decide +kernel
theorem dA1_47 : decode prog_4_method_2_code 47 = .ok (.dastore, 1) := by decide +kernel
theorem dA1_48 : decode prog_4_method_2_code 48 = .ok (.aload_n 0, 1) := by decide +kernel
theorem dA1_49 : decode prog_4_method_2_code 49 = .ok (.dup, 1) := by decide +kernel
theorem dA1_50 : decode prog_4_method_2_code 50 = .ok (.getfield 23, 3) := by decide +kernel
theorem dA1_53 : decode prog_4_method_2_code 53 = .ok (.iconst 1, 1) := by decide +kernel
theorem dA1_54 : decode prog_4_method_2_code 54 = .ok (.iadd, 1) := by decide +kernel
theorem dA1_55 : decode prog_4_method_2_code 55 = .ok (.putfield 23, 3) := by decide +kernel
theorem dA1_58 : decode prog_4_method_2_code 58 = .ok (.return_, 1) := by decide +kernel
theorem ef_rmA1 (m : MethodId) (a : Addr) (kk : UInt64) : entryFrame m #[(.ref a), (.double kk)] 3 = mkF m 0 #[.val (.ref a), .val (.double kk), .second] [] := by first | (simp [entryFrame, mkF, argsToLocals, Value.category]; done) | rfl
def Q_rmA1 (Z : State) (a : Addr) (kk : UInt64) (hc : Addr) (rf : Addr) (rv : Addr) (c0 : UInt64) (u0 : UInt64) (u1 : UInt64) (u2 : UInt64) (r0 : UInt64) (r1 : UInt64) (r2 : UInt64) (r3 : UInt64) (h0 : Heap) (n0 : Nat) (v : Option Value) (h : Heap) (L : List Loc) : Prop := ∃ nw : Addr, v = none ∧ Fr n0 L ∧ Keep h0 h [a, rf, rv] ∧ h0.size ≤ nw ∧ Fld Z h a "lagwise/estimators/ArRecursion" "highestCoefficients" "[D" (.ref nw) ∧ Fld Z h a "lagwise/estimators/ArRecursion" "reflections" "[D" (.ref rf) ∧ Fld Z h a "lagwise/estimators/ArRecursion" "residualVariances" "[D" (.ref rv) ∧ Fld Z h a "lagwise/estimators/ArRecursion" "highestOrder" "I" (.int (2 : Int32)) ∧ Arl Z h nw .double [(.double (FP.dsub c0 (FP.dmul kk c0))), (.double kk)] ∧ Arl Z h rf .double [(.double u0), (.double kk), (.double u2)] ∧ Arl Z h rv .double [(.double r0), (.double r1), (.double (FP.dmul r1 (FP.dsub FP.dconst1 (FP.dmul kk kk)))), (.double r3)]
set_option maxRecDepth 65536 in
set_option maxHeartbeats 40000000 in
theorem rmA1 (l : Launch) (Z : State) (a0 : Array Value) (hw : ∀ d ∈ tables_1, d.before a0 Z = true) (a : Addr) (kk : UInt64) (hc : Addr) (rf : Addr) (rv : Addr) (c0 : UInt64) (u0 : UInt64) (u1 : UInt64) (u2 : UInt64) (r0 : UInt64) (r1 : UInt64) (r2 : UInt64) (r3 : UInt64) (h0 : Heap) (n0 : Nat) (Z0 : n0 ≤ h0.size) (E_a : Exa Z h0 a "lagwise/estimators/ArRecursion") (F_a_highestCoefficients : Fld Z h0 a "lagwise/estimators/ArRecursion" "highestCoefficients" "[D" (.ref hc)) (F_a_reflections : Fld Z h0 a "lagwise/estimators/ArRecursion" "reflections" "[D" (.ref rf)) (F_a_residualVariances : Fld Z h0 a "lagwise/estimators/ArRecursion" "residualVariances" "[D" (.ref rv)) (F_a_highestOrder : Fld Z h0 a "lagwise/estimators/ArRecursion" "highestOrder" "I" (.int (1 : Int32))) (A_hc : Arl Z h0 hc .double [(.double c0)]) (A_rf : Arl Z h0 rf .double [(.double u0), (.double u1), (.double u2)]) (A_rv : Arl Z h0 rv .double [(.double r0), (.double r1), (.double r2), (.double r3)]) (ne_rf_rv : rf ≠ rv) (ne_a_rf : a ≠ rf) (ne_a_rv : a ≠ rv) (g_a : n0 ≤ a) (g_rf : n0 ≤ rf) (g_rv : n0 ≤ rv) (m40_0 : Fl.NoNaN64 (FP.dmul kk c0)) (m41_0 : Fl.NoNaN64 (FP.dsub c0 (FP.dmul kk c0))) (a44 : Fl.NoNaN64 (FP.dmul kk kk)) (a45 : Fl.NoNaN64 (FP.dsub FP.dconst1 (FP.dmul kk kk))) (a46 : Fl.NoNaN64 (FP.dmul r1 (FP.dsub FP.dconst1 (FP.dmul kk kk)))) :
    Ctr l Z h0 (⟨"lagwise/estimators/ArRecursion", "add", "(D)V"⟩ : MethodName) prog_4_method_2_code 3 none [] ({ frames := 1, cells := 1, slots := 2, locals := 18 } : Room) #[(.ref a), (.double kk)] (Q_rmA1 Z a kk hc rf rv c0 u0 u1 u2 r0 r1 r2 r3 h0 n0) := by
  refine Ctr.make (plainFor_of_name pn_22) fun p e s m below meth c s₁ K hret hml hx hby hown hnm hZ X0 e0 hK => ?_
  have hown : s.vm.findClass "lagwise/estimators/ArRecursion" = some m.cls := hown
  have N0 := Fr.nil n0
  have K0 : Keep h0 h0 [a, rf, rv] := Keep.refl _ _
  refine Wlk.of (fun _ k => castTop (ef_rmA1 m a kk) k) ?_
  show Wlk p.tables e below (s₁.setTop (mkF m 0 #[.val (.ref a), .val (.double kk), .second] [])) K
  refine Wlk.of (fun _ k => XS.aloadN X0.here hx rfl (hb hby dA1_0) rfl rfl k) ?_
  show Wlk p.tables e below (s₁.setTop (mkF m 1 #[.val (.ref a), .val (.double kk), .second] [(.ref a)])) K
  refine Wlk.of (fun _ k => XS.aloadN X0.here hx rfl (hb hby dA1_1) rfl rfl k) ?_
  show Wlk p.tables e below (s₁.setTop (mkF m 2 #[.val (.ref a), .val (.double kk), .second] [(.ref a), (.ref a)])) K
  obtain ⟨T1, X1, e1, st1⟩ := getF X0 hx hZ hown (host := "") (Or.inl (hw _ (List.mem_of_getElem? (i := 11) rfl))) Via.refl e0 F_a_highestCoefficients (g := (mkF m 2 #[.val (.ref a), .val (.double kk), .second] [(.ref a), (.ref a)])) rfl rfl (hb hby dA1_2)
  refine Wlk.of (fun _ k => st1 _ k) ?_
  show Wlk p.tables e below (T1.setTop (mkF m 5 #[.val (.ref a), .val (.double kk), .second] [(.ref hc), (.ref a)])) K
  refine Wlk.of (fun _ k => XS.dloadN X1.here hx rfl (hb hby dA1_5) rfl k) ?_
  show Wlk p.tables e below (T1.setTop (mkF m 6 #[.val (.ref a), .val (.double kk), .second] [(.double kk), (.ref hc), (.ref a)])) K
  obtain ⟨v2, T2, L2, X2, q2, st2⟩ := Ctr.static (rmS1 l Z a0 hw hc kk c0 h0 n0 (Nat.le_trans Z0 K0.1) A_hc m40_0 m41_0) X1 hx hZ e1 hown (hw _ (List.mem_of_getElem? (i := 22) rfl)) (hw _ (List.mem_of_getElem? (i := 23) rfl)) (hw _ (List.mem_of_getElem? (i := 3) rfl)) (hw _ (List.mem_of_getElem? (i := 24) rfl)) (by decide) pd_44 (g := (mkF m 6 #[.val (.ref a), .val (.double kk), .second] [(.double kk), (.ref hc), (.ref a)])) rfl (by rw [hml]; rfl) (argsL := [(.ref hc), (.double kk)]) (rest := [(.ref a)]) rfl rfl rfl (W := 1) (by show 2 * 0 + _ ≤ _; exact Nat.le_of_eq rfl) (by decide) (by decide) (hb hby dA1_6) (by decide) (by decide)
  obtain ⟨nw_2, rfl, N2q, K2q, p2_0, p2_1⟩ := q2
  have N3 := Fr.app N0 N2q
  refine Wlk.of (fun _ k => st2 _ k) ?_
  have ne4 : a ≠ nw_2 := Nat.ne_of_lt (Nat.lt_of_lt_of_le E_a.lt p2_0)
  have ne5 : hc ≠ nw_2 := Nat.ne_of_lt (Nat.lt_of_lt_of_le A_hc.lt p2_0)
  have ne6 : rf ≠ nw_2 := Nat.ne_of_lt (Nat.lt_of_lt_of_le A_rf.lt p2_0)
  have ne7 : rv ≠ nw_2 := Nat.ne_of_lt (Nat.lt_of_lt_of_le A_rv.lt p2_0)
  have sz_nw_2 : h0.size ≤ nw_2 := Nat.le_trans K0.1 p2_0
  have g_nw_2 : n0 ≤ nw_2 := Nat.le_trans Z0 sz_nw_2
  have K8 : Keep h0 T2.heap [a, rf, rv] := K0.trans K2q all0
  show Wlk p.tables e below (T2.setTop (mkF m 9 #[.val (.ref a), .val (.double kk), .second] [(.ref nw_2), (.ref a)])) K
  have f9 : Fld Z T2.heap a "lagwise/estimators/ArRecursion" "highestCoefficients" "[D" (.ref hc) := (F_a_highestCoefficients.keep K2q nin0)
  have f10 : Exa Z T2.heap a "lagwise/estimators/ArRecursion" := (E_a.keep K2q)
  obtain ⟨T11, h11, X11, e11, W11, st11⟩ := putF X2 hx hZ hown (host := "") (Or.inl (hw _ (List.mem_of_getElem? (i := 11) rfl))) Via.refl rfl f9 f10 (Or.inl (hw _ (List.mem_of_getElem? (i := 12) rfl))) (hw _ (List.mem_of_getElem? (i := 2) rfl)) (ty := (.array .double)) (by decide) rfl rfl (g := (mkF m 9 #[.val (.ref a), .val (.double kk), .second] [(.ref nw_2), (.ref a)])) rfl rfl (hb hby dA1_9)
  have Fw11 := f9.same W11
  refine Wlk.of (fun _ k => st11 _ k) ?_
  have K12 : Keep h0 h11 [a, rf, rv] := K8.wr W11 (Or.inl (List.mem_of_getElem? (i := 0) rfl))
  have N13 := Fr.snoc X11 N3 g_a
  show Wlk p.tables e below (T11.setTop (mkF m 12 #[.val (.ref a), .val (.double kk), .second] [])) K
  refine Wlk.of (fun _ k => XS.aloadN X11.here hx rfl (hb hby dA1_12) rfl rfl k) ?_
  show Wlk p.tables e below (T11.setTop (mkF m 13 #[.val (.ref a), .val (.double kk), .second] [(.ref a)])) K
  have f14 : Fld Z h11 a "lagwise/estimators/ArRecursion" "reflections" "[D" (.ref rf) := ((F_a_reflections.keep K2q nin0).other W11 (Or.inr (slot_ne (Or.inr (hw _ (List.mem_of_getElem? (i := 14) rfl))) (Or.inl (hw _ (List.mem_of_getElem? (i := 12) rfl))) (by decide) (t := (.array .double)) (t' := (.array .double)) (by decide) (by decide))))
  obtain ⟨T15, X15, e15, st15⟩ := getF X11 hx hZ hown (host := "") (Or.inl (hw _ (List.mem_of_getElem? (i := 13) rfl))) Via.refl e11 f14 (g := (mkF m 13 #[.val (.ref a), .val (.double kk), .second] [(.ref a)])) rfl rfl (hb hby dA1_13)
  refine Wlk.of (fun _ k => st15 _ k) ?_
  show Wlk p.tables e below (T15.setTop (mkF m 16 #[.val (.ref a), .val (.double kk), .second] [(.ref rf)])) K
  refine Wlk.of (fun _ k => XS.aloadN X15.here hx rfl (hb hby dA1_16) rfl rfl k) ?_
  show Wlk p.tables e below (T15.setTop (mkF m 17 #[.val (.ref a), .val (.double kk), .second] [(.ref a), (.ref rf)])) K
  have f16 : Fld Z h11 a "lagwise/estimators/ArRecursion" "highestOrder" "I" (.int (1 : Int32)) := ((F_a_highestOrder.keep K2q nin0).other W11 (Or.inr (slot_ne (Or.inl (hw _ (List.mem_of_getElem? (i := 26) rfl))) (Or.inl (hw _ (List.mem_of_getElem? (i := 12) rfl))) (by decide) (t := .int) (t' := (.array .double)) (by decide) (by decide))))
  obtain ⟨T17, X17, e17, st17⟩ := getF X15 hx hZ hown (host := "") (Or.inl (hw _ (List.mem_of_getElem? (i := 25) rfl))) Via.refl e15 f16 (g := (mkF m 17 #[.val (.ref a), .val (.double kk), .second] [(.ref a), (.ref rf)])) rfl rfl (hb hby dA1_17)
  refine Wlk.of (fun _ k => st17 _ k) ?_
  show Wlk p.tables e below (T17.setTop (mkF m 20 #[.val (.ref a), .val (.double kk), .second] [(.int (1 : Int32)), (.ref rf)])) K
  refine Wlk.of (fun _ k => XS.dloadN X17.here hx rfl (hb hby dA1_20) rfl k) ?_
  show Wlk p.tables e below (T17.setTop (mkF m 21 #[.val (.ref a), .val (.double kk), .second] [(.double kk), (.int (1 : Int32)), (.ref rf)])) K
  have f18 : Arl Z h11 rf .double [(.double u0), (.double u1), (.double u2)] := ((A_rf.keep K2q nin0).other W11 (Ne.symm ne_a_rf))
  obtain ⟨T19, h19, X19, e19, W19, V19, st19⟩ := stDl X17 hx hZ e17 f18 (j := (1 : Int32)) (i := 1) (by decide) (by decide) (show 1 < 3 by decide) (g := (mkF m 21 #[.val (.ref a), .val (.double kk), .second] [(.double kk), (.int (1 : Int32)), (.ref rf)])) rfl rfl (hb hby dA1_21)
  refine Wlk.of (fun _ k => st19 _ k) ?_
  have K20 : Keep h0 h19 [a, rf, rv] := K12.wr W19 (Or.inl (List.mem_of_getElem? (i := 1) rfl))
  have N21 := Fr.snoc X19 N13 g_rf
  have Vw19 : Arl Z h19 rf .double [(.double u0), (.double kk), (.double u2)] := V19
  show Wlk p.tables e below (T19.setTop (mkF m 22 #[.val (.ref a), .val (.double kk), .second] [])) K
  refine Wlk.of (fun _ k => XS.aloadN X19.here hx rfl (hb hby dA1_22) rfl rfl k) ?_
  show Wlk p.tables e below (T19.setTop (mkF m 23 #[.val (.ref a), .val (.double kk), .second] [(.ref a)])) K
  have f22 : Fld Z h19 a "lagwise/estimators/ArRecursion" "residualVariances" "[D" (.ref rv) := (((F_a_residualVariances.keep K2q nin0).other W11 (Or.inr (slot_ne (Or.inr (hw _ (List.mem_of_getElem? (i := 16) rfl))) (Or.inl (hw _ (List.mem_of_getElem? (i := 12) rfl))) (by decide) (t := (.array .double)) (t' := (.array .double)) (by decide) (by decide)))).other W19 (Or.inl ne_a_rf))
  obtain ⟨T23, X23, e23, st23⟩ := getF X19 hx hZ hown (host := "") (Or.inl (hw _ (List.mem_of_getElem? (i := 15) rfl))) Via.refl e19 f22 (g := (mkF m 23 #[.val (.ref a), .val (.double kk), .second] [(.ref a)])) rfl rfl (hb hby dA1_23)
  refine Wlk.of (fun _ k => st23 _ k) ?_
  show Wlk p.tables e below (T23.setTop (mkF m 26 #[.val (.ref a), .val (.double kk), .second] [(.ref rv)])) K
  refine Wlk.of (fun _ k => XS.aloadN X23.here hx rfl (hb hby dA1_26) rfl rfl k) ?_
  show Wlk p.tables e below (T23.setTop (mkF m 27 #[.val (.ref a), .val (.double kk), .second] [(.ref a), (.ref rv)])) K
  have f24 : Fld Z h19 a "lagwise/estimators/ArRecursion" "highestOrder" "I" (.int (1 : Int32)) := (f16.other W19 (Or.inl ne_a_rf))
  obtain ⟨T25, X25, e25, st25⟩ := getF X23 hx hZ hown (host := "") (Or.inl (hw _ (List.mem_of_getElem? (i := 25) rfl))) Via.refl e23 f24 (g := (mkF m 27 #[.val (.ref a), .val (.double kk), .second] [(.ref a), (.ref rv)])) rfl rfl (hb hby dA1_27)
  refine Wlk.of (fun _ k => st25 _ k) ?_
  show Wlk p.tables e below (T25.setTop (mkF m 30 #[.val (.ref a), .val (.double kk), .second] [(.int (1 : Int32)), (.ref rv)])) K
  refine Wlk.of (fun _ k => XS.iconst X25.here hx rfl (hb hby dA1_30) k) ?_
  show Wlk p.tables e below (T25.setTop (mkF m 31 #[.val (.ref a), .val (.double kk), .second] [(.int (1 : Int32)), (.int (1 : Int32)), (.ref rv)])) K
  refine Wlk.of (fun _ k => XS.iadd X25.here hx rfl (hb hby dA1_31) rfl k) ?_
  show Wlk p.tables e below (T25.setTop (mkF m 32 #[.val (.ref a), .val (.double kk), .second] [(.int (2 : Int32)), (.ref rv)])) K
  refine Wlk.of (fun _ k => XS.aloadN X25.here hx rfl (hb hby dA1_32) rfl rfl k) ?_
  show Wlk p.tables e below (T25.setTop (mkF m 33 #[.val (.ref a), .val (.double kk), .second] [(.ref a), (.int (2 : Int32)), (.ref rv)])) K
  obtain ⟨T26, X26, e26, st26⟩ := getF X25 hx hZ hown (host := "") (Or.inl (hw _ (List.mem_of_getElem? (i := 15) rfl))) Via.refl e25 f22 (g := (mkF m 33 #[.val (.ref a), .val (.double kk), .second] [(.ref a), (.int (2 : Int32)), (.ref rv)])) rfl rfl (hb hby dA1_33)
  refine Wlk.of (fun _ k => st26 _ k) ?_
  show Wlk p.tables e below (T26.setTop (mkF m 36 #[.val (.ref a), .val (.double kk), .second] [(.ref rv), (.int (2 : Int32)), (.ref rv)])) K
  refine Wlk.of (fun _ k => XS.aloadN X26.here hx rfl (hb hby dA1_36) rfl rfl k) ?_
  show Wlk p.tables e below (T26.setTop (mkF m 37 #[.val (.ref a), .val (.double kk), .second] [(.ref a), (.ref rv), (.int (2 : Int32)), (.ref rv)])) K
  obtain ⟨T27, X27, e27, st27⟩ := getF X26 hx hZ hown (host := "") (Or.inl (hw _ (List.mem_of_getElem? (i := 25) rfl))) Via.refl e26 f24 (g := (mkF m 37 #[.val (.ref a), .val (.double kk), .second] [(.ref a), (.ref rv), (.int (2 : Int32)), (.ref rv)])) rfl rfl (hb hby dA1_37)
  refine Wlk.of (fun _ k => st27 _ k) ?_
  show Wlk p.tables e below (T27.setTop (mkF m 40 #[.val (.ref a), .val (.double kk), .second] [(.int (1 : Int32)), (.ref rv), (.int (2 : Int32)), (.ref rv)])) K
  have f28 : Arl Z h19 rv .double [(.double r0), (.double r1), (.double r2), (.double r3)] := (((A_rv.keep K2q nin0).other W11 (Ne.symm ne_a_rv)).other W19 (Ne.symm ne_rf_rv))
  refine Wlk.of (fun _ k => ldD X27 hx hZ e27 f28 (j := (1 : Int32)) (i := 1) (by decide) (by decide) rfl (g := (mkF m 40 #[.val (.ref a), .val (.double kk), .second] [(.int (1 : Int32)), (.ref rv), (.int (2 : Int32)), (.ref rv)])) rfl rfl (hb hby dA1_40) _ k) ?_
  show Wlk p.tables e below (T27.setTop (mkF m 41 #[.val (.ref a), .val (.double kk), .second] [(.double r1), (.int (2 : Int32)), (.ref rv)])) K
  refine Wlk.of (fun _ k => XS.dconst1 X27.here hx rfl (hb hby dA1_41) rfl k) ?_
  show Wlk p.tables e below (T27.setTop (mkF m 42 #[.val (.ref a), .val (.double kk), .second] [(.double FP.dconst1), (.double r1), (.int (2 : Int32)), (.ref rv)])) K
  refine Wlk.of (fun _ k => XS.dloadN X27.here hx rfl (hb hby dA1_42) rfl k) ?_
  show Wlk p.tables e below (T27.setTop (mkF m 43 #[.val (.ref a), .val (.double kk), .second] [(.double kk), (.double FP.dconst1), (.double r1), (.int (2 : Int32)), (.ref rv)])) K
  refine Wlk.of (fun _ k => XS.dloadN X27.here hx rfl (hb hby dA1_43) rfl k) ?_
  show Wlk p.tables e below (T27.setTop (mkF m 44 #[.val (.ref a), .val (.double kk), .second] [(.double kk), (.double kk), (.double FP.dconst1), (.double r1), (.int (2 : Int32)), (.ref rv)])) K
  refine Wlk.of (fun _ k => XS.dmulS X27.here hx rfl (hb hby dA1_44) rfl a44 rfl k) ?_
  show Wlk p.tables e below (T27.setTop (mkF m 45 #[.val (.ref a), .val (.double kk), .second] [(.double (FP.dmul kk kk)), (.double FP.dconst1), (.double r1), (.int (2 : Int32)), (.ref rv)])) K
  refine Wlk.of (fun _ k => XS.dsubS X27.here hx rfl (hb hby dA1_45) rfl a45 rfl k) ?_
  show Wlk p.tables e below (T27.setTop (mkF m 46 #[.val (.ref a), .val (.double kk), .second] [(.double (FP.dsub FP.dconst1 (FP.dmul kk kk))), (.double r1), (.int (2 : Int32)), (.ref rv)])) K
  refine Wlk.of (fun _ k => XS.dmulS X27.here hx rfl (hb hby dA1_46) rfl a46 rfl k) ?_
  show Wlk p.tables e below (T27.setTop (mkF m 47 #[.val (.ref a), .val (.double kk), .second] [(.double (FP.dmul r1 (FP.dsub FP.dconst1 (FP.dmul kk kk)))), (.int (2 : Int32)), (.ref rv)])) K
  obtain ⟨T29, h29, X29, e29, W29, V29, st29⟩ := stDl X27 hx hZ e27 f28 (j := (2 : Int32)) (i := 2) (by decide) (by decide) (show 2 < 4 by decide) (g := (mkF m 47 #[.val (.ref a), .val (.double kk), .second] [(.double (FP.dmul r1 (FP.dsub FP.dconst1 (FP.dmul kk kk)))), (.int (2 : Int32)), (.ref rv)])) rfl rfl (hb hby dA1_47)
  refine Wlk.of (fun _ k => st29 _ k) ?_
  have K30 : Keep h0 h29 [a, rf, rv] := K20.wr W29 (Or.inl (List.mem_of_getElem? (i := 2) rfl))
  have N31 := Fr.snoc X29 N21 g_rv
  have Vw29 : Arl Z h29 rv .double [(.double r0), (.double r1), (.double (FP.dmul r1 (FP.dsub FP.dconst1 (FP.dmul kk kk)))), (.double r3)] := V29
  show Wlk p.tables e below (T29.setTop (mkF m 48 #[.val (.ref a), .val (.double kk), .second] [])) K
  refine Wlk.of (fun _ k => XS.aloadN X29.here hx rfl (hb hby dA1_48) rfl rfl k) ?_
  show Wlk p.tables e below (T29.setTop (mkF m 49 #[.val (.ref a), .val (.double kk), .second] [(.ref a)])) K
  refine Wlk.of (fun _ k => XS.dup X29.here hx rfl (hb hby dA1_49) rfl rfl k) ?_
  show Wlk p.tables e below (T29.setTop (mkF m 50 #[.val (.ref a), .val (.double kk), .second] [(.ref a), (.ref a)])) K
  have f32 : Fld Z h29 a "lagwise/estimators/ArRecursion" "highestOrder" "I" (.int (1 : Int32)) := (f24.other W29 (Or.inl ne_a_rv))
  obtain ⟨T33, X33, e33, st33⟩ := getF X29 hx hZ hown (host := "") (Or.inl (hw _ (List.mem_of_getElem? (i := 25) rfl))) Via.refl e29 f32 (g := (mkF m 50 #[.val (.ref a), .val (.double kk), .second] [(.ref a), (.ref a)])) rfl rfl (hb hby dA1_50)
  refine Wlk.of (fun _ k => st33 _ k) ?_
  show Wlk p.tables e below (T33.setTop (mkF m 53 #[.val (.ref a), .val (.double kk), .second] [(.int (1 : Int32)), (.ref a)])) K
  refine Wlk.of (fun _ k => XS.iconst X33.here hx rfl (hb hby dA1_53) k) ?_
  show Wlk p.tables e below (T33.setTop (mkF m 54 #[.val (.ref a), .val (.double kk), .second] [(.int (1 : Int32)), (.int (1 : Int32)), (.ref a)])) K
  refine Wlk.of (fun _ k => XS.iadd X33.here hx rfl (hb hby dA1_54) rfl k) ?_
  show Wlk p.tables e below (T33.setTop (mkF m 55 #[.val (.ref a), .val (.double kk), .second] [(.int (2 : Int32)), (.ref a)])) K
  have f34 : Exa Z h29 a "lagwise/estimators/ArRecursion" := (((f10.wr W11).wr W19).wr W29)
  obtain ⟨T35, h35, X35, e35, W35, st35⟩ := putF X33 hx hZ hown (host := "") (Or.inl (hw _ (List.mem_of_getElem? (i := 25) rfl))) Via.refl e33 f32 f34 (Or.inl (hw _ (List.mem_of_getElem? (i := 26) rfl))) (hw _ (List.mem_of_getElem? (i := 2) rfl)) (ty := .int) (by decide) rfl rfl (g := (mkF m 55 #[.val (.ref a), .val (.double kk), .second] [(.int (2 : Int32)), (.ref a)])) rfl rfl (hb hby dA1_55)
  have Fw35 := f32.same W35
  refine Wlk.of (fun _ k => st35 _ k) ?_
  have K36 : Keep h0 h35 [a, rf, rv] := K30.wr W35 (Or.inl (List.mem_of_getElem? (i := 0) rfl))
  have N37 := Fr.snoc X35 N31 g_a
  show Wlk p.tables e below (T35.setTop (mkF m 58 #[.val (.ref a), .val (.double kk), .second] [])) K
  have f38 : Fld Z h35 a "lagwise/estimators/ArRecursion" "highestCoefficients" "[D" (.ref nw_2) := (((Fw11.other W19 (Or.inl ne_a_rf)).other W29 (Or.inl ne_a_rv)).other W35 (Or.inr (slot_ne (Or.inl (hw _ (List.mem_of_getElem? (i := 12) rfl))) (Or.inl (hw _ (List.mem_of_getElem? (i := 26) rfl))) (by decide) (t := (.array .double)) (t' := .int) (by decide) (by decide))))
  have f39 : Fld Z h35 a "lagwise/estimators/ArRecursion" "reflections" "[D" (.ref rf) := (((f14.other W19 (Or.inl ne_a_rf)).other W29 (Or.inl ne_a_rv)).other W35 (Or.inr (slot_ne (Or.inr (hw _ (List.mem_of_getElem? (i := 14) rfl))) (Or.inl (hw _ (List.mem_of_getElem? (i := 26) rfl))) (by decide) (t := (.array .double)) (t' := .int) (by decide) (by decide))))
  have f40 : Fld Z h35 a "lagwise/estimators/ArRecursion" "residualVariances" "[D" (.ref rv) := ((f22.other W29 (Or.inl ne_a_rv)).other W35 (Or.inr (slot_ne (Or.inr (hw _ (List.mem_of_getElem? (i := 16) rfl))) (Or.inl (hw _ (List.mem_of_getElem? (i := 26) rfl))) (by decide) (t := (.array .double)) (t' := .int) (by decide) (by decide))))
  have f41 : Arl Z h35 nw_2 .double [(.double (FP.dsub c0 (FP.dmul kk c0))), (.double kk)] := ((((p2_1.other W11 (Ne.symm ne4)).other W19 (Ne.symm ne6)).other W29 (Ne.symm ne7)).other W35 (Ne.symm ne4))
  have f42 : Arl Z h35 rf .double [(.double u0), (.double kk), (.double u2)] := ((Vw19.other W29 ne_rf_rv).other W35 (Ne.symm ne_a_rf))
  have f43 : Arl Z h35 rv .double [(.double r0), (.double r1), (.double (FP.dmul r1 (FP.dsub FP.dconst1 (FP.dmul kk kk)))), (.double r3)] := (Vw29.other W35 (Ne.symm ne_a_rv))
  refine hK none X35 (fun q => rfl) (fun fs hr => X35.returnOut hx hret (hb hby dA1_58) hr) ?_ (by decide) (by decide)
  rw [show T35.heap = h35 from e35]
  exact ⟨nw_2, rfl, N37, K36, sz_nw_2, f38, f39, f40, Fw35, f41, f42, f43⟩
theorem dS2_0 : decode prog_4_method_10_code 0 = .ok (.aload_n 0, 1) := by decide +kernel
theorem dS2_1 : decode prog_4_method_10_code 1 = .ok (.arraylength, 1) := by decide +kernel
theorem dS2_2 : decode prog_4_method_10_code 2 = .ok (.iconst 1, 1) := by decide +kernel
theorem dS2_3 : decode prog_4_method_10_code 3 = .ok (.iadd, 1) := by decide +kernel
theorem dS2_4 : decode prog_4_method_10_code 4 = .ok (.istore_n 3, 1) := by decide +kernel
theorem dS2_5 : decode prog_4_method_10_code 5 = .ok (.iload_n 3, 1) := by decide +kernel
theorem dS2_6 : decode prog_4_method_10_code 6 = .ok (.newarray .double, 2) := by decide +kernel
theorem dS2_8 : decode prog_4_method_10_code 8 = .ok (.astore 4, 2) := by decide +kernel
theorem dS2_10 : decode prog_4_method_10_code 10 = .ok (.iconst 1, 1) := by decide +kernel
theorem dS2_11 : decode prog_4_method_10_code 11 = .ok (.istore 5, 2) := by decide +kernel
theorem dS2_13 : decode prog_4_method_10_code 13 = .ok (.iload 5, 2) := by decide +kernel
theorem dS2_15 : decode prog_4_method_10_code 15 = .ok (.iload_n 3, 1) := by decide +kernel
theorem dS2_16 : decode prog_4_method_10_code 16 = .ok (.if_icmp .ge 33, 3) := by decide +kernel
theorem dS2_19 : decode prog_4_method_10_code 19 = .ok (.aload 4, 2) := by decide +kernel
theorem dS2_21 : decode prog_4_method_10_code 21 = .ok (.iload 5, 2) := by decide +kernel
theorem dS2_23 : decode prog_4_method_10_code 23 = .ok (.iconst 1, 1) := by decide +kernel
theorem dS2_24 : decode prog_4_method_10_code 24 = .ok (.isub, 1) := by decide +kernel
theorem dS2_25 : decode prog_4_method_10_code 25 = .ok (.aload_n 0, 1) := by decide +kernel
theorem dS2_26 : decode prog_4_method_10_code 26 = .ok (.iload 5, 2) := by decide +kernel
theorem dS2_28 : decode prog_4_method_10_code 28 = .ok (.iconst 1, 1) := by decide +kernel
theorem dS2_29 : decode prog_4_method_10_code 29 = .ok (.isub, 1) := by decide +kernel
theorem dS2_30 : decode prog_4_method_10_code 30 = .ok (.daload, 1) := by decide +kernel
theorem dS2_31 : decode prog_4_method_10_code 31 = .ok (.dload_n 1, 1) := by decide +kernel
theorem dS2_32 : decode prog_4_method_10_code 32 = .ok (.aload_n 0, 1) := by decide +kernel
theorem dS2_33 : decode prog_4_method_10_code 33 = .ok (.iload_n 3, 1) := by decide +kernel
theorem dS2_34 : decode prog_4_method_10_code 34 = .ok (.iload 5, 2) := by decide +kernel
theorem dS2_36 : decode prog_4_method_10_code 36 = .ok (.isub, 1) := by decide +kernel
theorem dS2_37 : decode prog_4_method_10_code 37 = .ok (.iconst 1, 1) := by decide +kernel
theorem dS2_38 : decode prog_4_method_10_code 38 = .ok (.isub, 1) := by decide +kernel
theorem dS2_39 : decode prog_4_method_10_code 39 = .ok (.daload, 1) := by decide +kernel
theorem dS2_40 : decode prog_4_method_10_code 40 = .ok (.dmul, 1) := by decide +kernel
theorem dS2_41 : decode prog_4_method_10_code 41 = .ok (.dsub, 1) := by decide +kernel
theorem dS2_42 : decode prog_4_method_10_code 42 = .ok (.dastore, 1) := by decide +kernel
theorem dS2_43 : decode prog_4_method_10_code 43 = .ok (.iinc 5 1, 3) := by decide +kernel
theorem dS2_46 : decode prog_4_method_10_code 46 = .ok (.goto (-33), 3) := by decide +kernel
theorem dS2_49 : decode prog_4_method_10_code 49 = .ok (.aload 4, 2) := by decide +kernel
theorem dS2_51 : decode prog_4_method_10_code 51 = .ok (.iload_n 3, 1) := by decide +kernel
theorem dS2_52 : decode prog_4_method_10_code 52 = .ok (.iconst 1, 1) := by decide +kernel
theorem dS2_53 : decode prog_4_method_10_code 53 = .ok (.isub, 1) := by decide +kernel
theorem dS2_54 : decode prog_4_method_10_code 54 = .ok (.dload_n 1, 1) := by decide +kernel
theorem dS2_55 : decode prog_4_method_10_code 55 = .ok (.dastore, 1) := by decide +kernel
theorem dS2_56 : decode prog_4_method_10_code 56 = .ok (.aload 4, 2) := by decide +kernel
theorem dS2_58 : decode prog_4_method_10_code 58 = .ok (.areturn, 1) := by decide +kernel
theorem ef_rmS2 (m : MethodId) (cc : Addr) (kk : UInt64) : entryFrame m #[(.ref cc), (.double kk)] 6 = mkF m 0 #[.val (.ref cc), .val (.double kk), .second, .unset, .unset, .unset] [] := by first | (simp [entryFrame, mkF, argsToLocals, Value.category]; done) | rfl
def Q_rmS2 (Z : State) (cc : Addr) (kk : UInt64) (c0 : UInt64) (c1 : UInt64) (h0 : Heap) (n0 : Nat) (v : Option Value) (h : Heap) (L : List Loc) : Prop := ∃ nw : Addr, v = (some (.ref nw)) ∧ Fr n0 L ∧ Keep h0 h [] ∧ h0.size ≤ nw ∧ Arl Z h nw .double [(.double (FP.dsub c0 (FP.dmul kk c1))), (.double (FP.dsub c1 (FP.dmul kk c0))), (.double kk)]
set_option maxRecDepth 65536 in
set_option maxHeartbeats 40000000 in
theorem rmS2 (l : Launch) (Z : State) (a0 : Array Value) (hw : ∀ d ∈ tables_1, d.before a0 Z = true) (cc : Addr) (kk : UInt64) (c0 : UInt64) (c1 : UInt64) (h0 : Heap) (n0 : Nat) (Z0 : n0 ≤ h0.size) (A_cc : Arl Z h0 cc .double [(.double c0), (.double c1)]) (m40_0 : Fl.NoNaN64 (FP.dmul kk c1)) (m40_1 : Fl.NoNaN64 (FP.dmul kk c0)) (m41_0 : Fl.NoNaN64 (FP.dsub c0 (FP.dmul kk c1))) (m41_1 : Fl.NoNaN64 (FP.dsub c1 (FP.dmul kk c0))) :
    Ctr l Z h0 (⟨"lagwise/estimators/ArRecursion", "stepUp", "([DD)[D"⟩ : MethodName) prog_4_method_10_code 6 (some (.array .double)) [] ({ frames := 0, cells := 1, slots := 3, locals := 0 } : Room) #[(.ref cc), (.double kk)] (Q_rmS2 Z cc kk c0 c1 h0 n0) := by
  refine Ctr.make (plainFor_of_name pn_22) fun p e s m below meth c s₁ K hret hml hx hby hown hnm hZ X0 e0 hK => ?_
  have hown : s.vm.findClass "lagwise/estimators/ArRecursion" = some m.cls := hown
  have N0 := Fr.nil n0
  have K0 : Keep h0 h0 [] := Keep.refl _ _
  refine Wlk.of (fun _ k => castTop (ef_rmS2 m cc kk) k) ?_
  show Wlk p.tables e below (s₁.setTop (mkF m 0 #[.val (.ref cc), .val (.double kk), .second, .unset, .unset, .unset] [])) K
  refine Wlk.of (fun _ k => XS.aloadN X0.here hx rfl (hb hby dS2_0) rfl rfl k) ?_
  show Wlk p.tables e below (s₁.setTop (mkF m 1 #[.val (.ref cc), .val (.double kk), .second, .unset, .unset, .unset] [(.ref cc)])) K
  refine Wlk.of (fun _ k => lenL X0 hx hZ e0 A_cc (n := (2 : Int32)) rfl (g := (mkF m 1 #[.val (.ref cc), .val (.double kk), .second, .unset, .unset, .unset] [(.ref cc)])) rfl rfl (hb hby dS2_1) _ k) ?_
  show Wlk p.tables e below (s₁.setTop (mkF m 2 #[.val (.ref cc), .val (.double kk), .second, .unset, .unset, .unset] [(.int (2 : Int32))])) K
  refine Wlk.of (fun _ k => XS.iconst X0.here hx rfl (hb hby dS2_2) k) ?_
  show Wlk p.tables e below (s₁.setTop (mkF m 3 #[.val (.ref cc), .val (.double kk), .second, .unset, .unset, .unset] [(.int (1 : Int32)), (.int (2 : Int32))])) K
  refine Wlk.of (fun _ k => XS.iadd X0.here hx rfl (hb hby dS2_3) rfl k) ?_
  show Wlk p.tables e below (s₁.setTop (mkF m 4 #[.val (.ref cc), .val (.double kk), .second, .unset, .unset, .unset] [(.int (3 : Int32))])) K
  refine Wlk.of (fun _ k => XS.istoreN X0.here hx rfl (hb hby dS2_4) rfl (l' := #[.val (.ref cc), .val (.double kk), .second, .val (.int (3 : Int32)), .unset, .unset]) rfl k) ?_
  show Wlk p.tables e below (s₁.setTop (mkF m 5 #[.val (.ref cc), .val (.double kk), .second, .val (.int (3 : Int32)), .unset, .unset] [])) K
  refine Wlk.of (fun _ k => XS.iloadN X0.here hx rfl (hb hby dS2_5) rfl k) ?_
  show Wlk p.tables e below (s₁.setTop (mkF m 6 #[.val (.ref cc), .val (.double kk), .second, .val (.int (3 : Int32)), .unset, .unset] [(.int (3 : Int32))])) K
  obtain ⟨T1, h1, X1, e1, E1, A1, st1⟩ := newL X0 hx hZ (hw _ (List.mem_of_getElem? (i := 10) rfl)) e0 (g := (mkF m 6 #[.val (.ref cc), .val (.double kk), .second, .val (.int (3 : Int32)), .unset, .unset] [(.int (3 : Int32))])) rfl (hb hby dS2_6) rfl (by decide) (cap := 3) (by decide) (by decide) (by decide) (by decide)
  obtain ⟨b1, g1⟩ : ∃ z, z = h0.size := ⟨_, rfl⟩
  rw [← g1] at A1 st1
  have ne2 : cc ≠ b1 := Nat.ne_of_lt (Nat.lt_of_lt_of_le A_cc.lt (Nat.le_of_eq g1.symm))
  have sz_b1 : h0.size ≤ b1 := Nat.le_trans K0.1 (Nat.le_of_eq g1.symm)
  have g_b1 : n0 ≤ b1 := Nat.le_trans Z0 sz_b1
  have K4 : Keep h0 h1 [] := K0.ext E1
  have A_b1 : Arl Z h1 b1 .double [(.double (0 : UInt64)), (.double (0 : UInt64)), (.double (0 : UInt64))] := A1
  refine Wlk.of (fun _ k => st1 _ k) ?_
  show Wlk p.tables e below (T1.setTop (mkF m 8 #[.val (.ref cc), .val (.double kk), .second, .val (.int (3 : Int32)), .unset, .unset] [(.ref b1)])) K
  refine Wlk.of (fun _ k => XS.astore X1.here hx rfl (hb hby dS2_8) rfl rfl (l' := #[.val (.ref cc), .val (.double kk), .second, .val (.int (3 : Int32)), .val (.ref b1), .unset]) rfl k) ?_
  show Wlk p.tables e below (T1.setTop (mkF m 10 #[.val (.ref cc), .val (.double kk), .second, .val (.int (3 : Int32)), .val (.ref b1), .unset] [])) K
  refine Wlk.of (fun _ k => XS.iconst X1.here hx rfl (hb hby dS2_10) k) ?_
  show Wlk p.tables e below (T1.setTop (mkF m 11 #[.val (.ref cc), .val (.double kk), .second, .val (.int (3 : Int32)), .val (.ref b1), .unset] [(.int (1 : Int32))])) K
  refine Wlk.of (fun _ k => XS.istore X1.here hx rfl (hb hby dS2_11) rfl (l' := #[.val (.ref cc), .val (.double kk), .second, .val (.int (3 : Int32)), .val (.ref b1), .val (.int (1 : Int32))]) rfl k) ?_
  show Wlk p.tables e below (T1.setTop (mkF m 13 #[.val (.ref cc), .val (.double kk), .second, .val (.int (3 : Int32)), .val (.ref b1), .val (.int (1 : Int32))] [])) K
  refine Wlk.of (fun _ k => XS.iload X1.here hx rfl (hb hby dS2_13) rfl k) ?_
  show Wlk p.tables e below (T1.setTop (mkF m 15 #[.val (.ref cc), .val (.double kk), .second, .val (.int (3 : Int32)), .val (.ref b1), .val (.int (1 : Int32))] [(.int (1 : Int32))])) K
  refine Wlk.of (fun _ k => XS.iloadN X1.here hx rfl (hb hby dS2_15) rfl k) ?_
  show Wlk p.tables e below (T1.setTop (mkF m 16 #[.val (.ref cc), .val (.double kk), .second, .val (.int (3 : Int32)), .val (.ref b1), .val (.int (1 : Int32))] [(.int (3 : Int32)), (.int (1 : Int32))])) K
  refine Wlk.of (fun _ k => XS.icmpNo X1.here hx rfl (hb hby dS2_16) rfl (tlt (by decide : (1 : Int32) < (3 : Int32))).2.1 k) ?_
  show Wlk p.tables e below (T1.setTop (mkF m 19 #[.val (.ref cc), .val (.double kk), .second, .val (.int (3 : Int32)), .val (.ref b1), .val (.int (1 : Int32))] [])) K
  refine Wlk.of (fun _ k => XS.aload X1.here hx rfl (hb hby dS2_19) rfl rfl k) ?_
  show Wlk p.tables e below (T1.setTop (mkF m 21 #[.val (.ref cc), .val (.double kk), .second, .val (.int (3 : Int32)), .val (.ref b1), .val (.int (1 : Int32))] [(.ref b1)])) K
  refine Wlk.of (fun _ k => XS.iload X1.here hx rfl (hb hby dS2_21) rfl k) ?_
  show Wlk p.tables e below (T1.setTop (mkF m 23 #[.val (.ref cc), .val (.double kk), .second, .val (.int (3 : Int32)), .val (.ref b1), .val (.int (1 : Int32))] [(.int (1 : Int32)), (.ref b1)])) K
  refine Wlk.of (fun _ k => XS.iconst X1.here hx rfl (hb hby dS2_23) k) ?_
  show Wlk p.tables e below (T1.setTop (mkF m 24 #[.val (.ref cc), .val (.double kk), .second, .val (.int (3 : Int32)), .val (.ref b1), .val (.int (1 : Int32))] [(.int (1 : Int32)), (.int (1 : Int32)), (.ref b1)])) K
  refine Wlk.of (fun _ k => XS.isub X1.here hx rfl (hb hby dS2_24) rfl k) ?_
  show Wlk p.tables e below (T1.setTop (mkF m 25 #[.val (.ref cc), .val (.double kk), .second, .val (.int (3 : Int32)), .val (.ref b1), .val (.int (1 : Int32))] [(.int (0 : Int32)), (.ref b1)])) K
  refine Wlk.of (fun _ k => XS.aloadN X1.here hx rfl (hb hby dS2_25) rfl rfl k) ?_
  show Wlk p.tables e below (T1.setTop (mkF m 26 #[.val (.ref cc), .val (.double kk), .second, .val (.int (3 : Int32)), .val (.ref b1), .val (.int (1 : Int32))] [(.ref cc), (.int (0 : Int32)), (.ref b1)])) K
  refine Wlk.of (fun _ k => XS.iload X1.here hx rfl (hb hby dS2_26) rfl k) ?_
  show Wlk p.tables e below (T1.setTop (mkF m 28 #[.val (.ref cc), .val (.double kk), .second, .val (.int (3 : Int32)), .val (.ref b1), .val (.int (1 : Int32))] [(.int (1 : Int32)), (.ref cc), (.int (0 : Int32)), (.ref b1)])) K
  refine Wlk.of (fun _ k => XS.iconst X1.here hx rfl (hb hby dS2_28) k) ?_
  show Wlk p.tables e below (T1.setTop (mkF m 29 #[.val (.ref cc), .val (.double kk), .second, .val (.int (3 : Int32)), .val (.ref b1), .val (.int (1 : Int32))] [(.int (1 : Int32)), (.int (1 : Int32)), (.ref cc), (.int (0 : Int32)), (.ref b1)])) K
  refine Wlk.of (fun _ k => XS.isub X1.here hx rfl (hb hby dS2_29) rfl k) ?_
  show Wlk p.tables e below (T1.setTop (mkF m 30 #[.val (.ref cc), .val (.double kk), .second, .val (.int (3 : Int32)), .val (.ref b1), .val (.int (1 : Int32))] [(.int (0 : Int32)), (.ref cc), (.int (0 : Int32)), (.ref b1)])) K
  have f5 : Arl Z h1 cc .double [(.double c0), (.double c1)] := (A_cc.ext E1)
  refine Wlk.of (fun _ k => ldD X1 hx hZ e1 f5 (j := (0 : Int32)) (i := 0) (by decide) (by decide) rfl (g := (mkF m 30 #[.val (.ref cc), .val (.double kk), .second, .val (.int (3 : Int32)), .val (.ref b1), .val (.int (1 : Int32))] [(.int (0 : Int32)), (.ref cc), (.int (0 : Int32)), (.ref b1)])) rfl rfl (hb hby dS2_30) _ k) ?_
  show Wlk p.tables e below (T1.setTop (mkF m 31 #[.val (.ref cc), .val (.double kk), .second, .val (.int (3 : Int32)), .val (.ref b1), .val (.int (1 : Int32))] [(.double c0), (.int (0 : Int32)), (.ref b1)])) K
  refine Wlk.of (fun _ k => XS.dloadN X1.here hx rfl (hb hby dS2_31) rfl k) ?_
  show Wlk p.tables e below (T1.setTop (mkF m 32 #[.val (.ref cc), .val (.double kk), .second, .val (.int (3 : Int32)), .val (.ref b1), .val (.int (1 : Int32))] [(.double kk), (.double c0), (.int (0 : Int32)), (.ref b1)])) K
  refine Wlk.of (fun _ k => XS.aloadN X1.here hx rfl (hb hby dS2_32) rfl rfl k) ?_
  show Wlk p.tables e below (T1.setTop (mkF m 33 #[.val (.ref cc), .val (.double kk), .second, .val (.int (3 : Int32)), .val (.ref b1), .val (.int (1 : Int32))] [(.ref cc), (.double kk), (.double c0), (.int (0 : Int32)), (.ref b1)])) K
  refine Wlk.of (fun _ k => XS.iloadN X1.here hx rfl (hb hby dS2_33) rfl k) ?_
  show Wlk p.tables e below (T1.setTop (mkF m 34 #[.val (.ref cc), .val (.double kk), .second, .val (.int (3 : Int32)), .val (.ref b1), .val (.int (1 : Int32))] [(.int (3 : Int32)), (.ref cc), (.double kk), (.double c0), (.int (0 : Int32)), (.ref b1)])) K
  refine Wlk.of (fun _ k => XS.iload X1.here hx rfl (hb hby dS2_34) rfl k) ?_
  show Wlk p.tables e below (T1.setTop (mkF m 36 #[.val (.ref cc), .val (.double kk), .second, .val (.int (3 : Int32)), .val (.ref b1), .val (.int (1 : Int32))] [(.int (1 : Int32)), (.int (3 : Int32)), (.ref cc), (.double kk), (.double c0), (.int (0 : Int32)), (.ref b1)])) K
  refine Wlk.of (fun _ k => XS.isub X1.here hx rfl (hb hby dS2_36) rfl k) ?_
  show Wlk p.tables e below (T1.setTop (mkF m 37 #[.val (.ref cc), .val (.double kk), .second, .val (.int (3 : Int32)), .val (.ref b1), .val (.int (1 : Int32))] [(.int (2 : Int32)), (.ref cc), (.double kk), (.double c0), (.int (0 : Int32)), (.ref b1)])) K
  refine Wlk.of (fun _ k => XS.iconst X1.here hx rfl (hb hby dS2_37) k) ?_
  show Wlk p.tables e below (T1.setTop (mkF m 38 #[.val (.ref cc), .val (.double kk), .second, .val (.int (3 : Int32)), .val (.ref b1), .val (.int (1 : Int32))] [(.int (1 : Int32)), (.int (2 : Int32)), (.ref cc), (.double kk), (.double c0), (.int (0 : Int32)), (.ref b1)])) K
  refine Wlk.of (fun _ k => XS.isub X1.here hx rfl (hb hby dS2_38) rfl k) ?_
  show Wlk p.tables e below (T1.setTop (mkF m 39 #[.val (.ref cc), .val (.double kk), .second, .val (.int (3 : Int32)), .val (.ref b1), .val (.int (1 : Int32))] [(.int (1 : Int32)), (.ref cc), (.double kk), (.double c0), (.int (0 : Int32)), (.ref b1)])) K
  refine Wlk.of (fun _ k => ldD X1 hx hZ e1 f5 (j := (1 : Int32)) (i := 1) (by decide) (by decide) rfl (g := (mkF m 39 #[.val (.ref cc), .val (.double kk), .second, .val (.int (3 : Int32)), .val (.ref b1), .val (.int (1 : Int32))] [(.int (1 : Int32)), (.ref cc), (.double kk), (.double c0), (.int (0 : Int32)), (.ref b1)])) rfl rfl (hb hby dS2_39) _ k) ?_
  show Wlk p.tables e below (T1.setTop (mkF m 40 #[.val (.ref cc), .val (.double kk), .second, .val (.int (3 : Int32)), .val (.ref b1), .val (.int (1 : Int32))] [(.double c1), (.double kk), (.double c0), (.int (0 : Int32)), (.ref b1)])) K
  refine Wlk.of (fun _ k => XS.dmulS X1.here hx rfl (hb hby dS2_40) rfl m40_0 rfl k) ?_
  show Wlk p.tables e below (T1.setTop (mkF m 41 #[.val (.ref cc), .val (.double kk), .second, .val (.int (3 : Int32)), .val (.ref b1), .val (.int (1 : Int32))] [(.double (FP.dmul kk c1)), (.double c0), (.int (0 : Int32)), (.ref b1)])) K
  refine Wlk.of (fun _ k => XS.dsubS X1.here hx rfl (hb hby dS2_41) rfl m41_0 rfl k) ?_
  show Wlk p.tables e below (T1.setTop (mkF m 42 #[.val (.ref cc), .val (.double kk), .second, .val (.int (3 : Int32)), .val (.ref b1), .val (.int (1 : Int32))] [(.double (FP.dsub c0 (FP.dmul kk c1))), (.int (0 : Int32)), (.ref b1)])) K
  obtain ⟨T6, h6, X6, e6, W6, V6, st6⟩ := stDl X1 hx hZ e1 A_b1 (j := (0 : Int32)) (i := 0) (by decide) (by decide) (show 0 < 3 by decide) (g := (mkF m 42 #[.val (.ref cc), .val (.double kk), .second, .val (.int (3 : Int32)), .val (.ref b1), .val (.int (1 : Int32))] [(.double (FP.dsub c0 (FP.dmul kk c1))), (.int (0 : Int32)), (.ref b1)])) rfl rfl (hb hby dS2_42)
  refine Wlk.of (fun _ k => st6 _ k) ?_
  have K7 : Keep h0 h6 [] := K4.wr W6 (Or.inr sz_b1)
  have N8 := Fr.snoc X6 N0 g_b1
  have Vw6 : Arl Z h6 b1 .double [(.double (FP.dsub c0 (FP.dmul kk c1))), (.double (0 : UInt64)), (.double (0 : UInt64))] := V6
  show Wlk p.tables e below (T6.setTop (mkF m 43 #[.val (.ref cc), .val (.double kk), .second, .val (.int (3 : Int32)), .val (.ref b1), .val (.int (1 : Int32))] [])) K
  refine Wlk.of (fun _ k => XS.iinc X6.here hx rfl (hb hby dS2_43) rfl (l' := #[.val (.ref cc), .val (.double kk), .second, .val (.int (3 : Int32)), .val (.ref b1), .val (.int (2 : Int32))]) rfl k) ?_
  show Wlk p.tables e below (T6.setTop (mkF m 46 #[.val (.ref cc), .val (.double kk), .second, .val (.int (3 : Int32)), .val (.ref b1), .val (.int (2 : Int32))] [])) K
  refine Wlk.of (fun _ k => XS.goto X6.here hx rfl (pc0 := 46) (pc' := 13) rfl (hb hby dS2_46) (by decide) (by decide) k) ?_
  show Wlk p.tables e below (T6.setTop (mkF m 13 #[.val (.ref cc), .val (.double kk), .second, .val (.int (3 : Int32)), .val (.ref b1), .val (.int (2 : Int32))] [])) K
  refine Wlk.of (fun _ k => XS.iload X6.here hx rfl (hb hby dS2_13) rfl k) ?_
  show Wlk p.tables e below (T6.setTop (mkF m 15 #[.val (.ref cc), .val (.double kk), .second, .val (.int (3 : Int32)), .val (.ref b1), .val (.int (2 : Int32))] [(.int (2 : Int32))])) K
  refine Wlk.of (fun _ k => XS.iloadN X6.here hx rfl (hb hby dS2_15) rfl k) ?_
  show Wlk p.tables e below (T6.setTop (mkF m 16 #[.val (.ref cc), .val (.double kk), .second, .val (.int (3 : Int32)), .val (.ref b1), .val (.int (2 : Int32))] [(.int (3 : Int32)), (.int (2 : Int32))])) K
  refine Wlk.of (fun _ k => XS.icmpNo X6.here hx rfl (hb hby dS2_16) rfl (tlt (by decide : (2 : Int32) < (3 : Int32))).2.1 k) ?_
  show Wlk p.tables e below (T6.setTop (mkF m 19 #[.val (.ref cc), .val (.double kk), .second, .val (.int (3 : Int32)), .val (.ref b1), .val (.int (2 : Int32))] [])) K
  refine Wlk.of (fun _ k => XS.aload X6.here hx rfl (hb hby dS2_19) rfl rfl k) ?_
  show Wlk p.tables e below (T6.setTop (mkF m 21 #[.val (.ref cc), .val (.double kk), .second, .val (.int (3 : Int32)), .val (.ref b1), .val (.int (2 : Int32))] [(.ref b1)])) K
  refine Wlk.of (fun _ k => XS.iload X6.here hx rfl (hb hby dS2_21) rfl k) ?_
  show Wlk p.tables e below (T6.setTop (mkF m 23 #[.val (.ref cc), .val (.double kk), .second, .val (.int (3 : Int32)), .val (.ref b1), .val (.int (2 : Int32))] [(.int (2 : Int32)), (.ref b1)])) K
  refine Wlk.of (fun _ k => XS.iconst X6.here hx rfl (hb hby dS2_23) k) ?_
  show Wlk p.tables e below (T6.setTop (mkF m 24 #[.val (.ref cc), .val (.double kk), .second, .val (.int (3 : Int32)), .val (.ref b1), .val (.int (2 : Int32))] [(.int (1 : Int32)), (.int (2 : Int32)), (.ref b1)])) K
  refine Wlk.of (fun _ k => XS.isub X6.here hx rfl (hb hby dS2_24) rfl k) ?_
  show Wlk p.tables e below (T6.setTop (mkF m 25 #[.val (.ref cc), .val (.double kk), .second, .val (.int (3 : Int32)), .val (.ref b1), .val (.int (2 : Int32))] [(.int (1 : Int32)), (.ref b1)])) K
  refine Wlk.of (fun _ k => XS.aloadN X6.here hx rfl (hb hby dS2_25) rfl rfl k) ?_
  show Wlk p.tables e below (T6.setTop (mkF m 26 #[.val (.ref cc), .val (.double kk), .second, .val (.int (3 : Int32)), .val (.ref b1), .val (.int (2 : Int32))] [(.ref cc), (.int (1 : Int32)), (.ref b1)])) K
  refine Wlk.of (fun _ k => XS.iload X6.here hx rfl (hb hby dS2_26) rfl k) ?_
  show Wlk p.tables e below (T6.setTop (mkF m 28 #[.val (.ref cc), .val (.double kk), .second, .val (.int (3 : Int32)), .val (.ref b1), .val (.int (2 : Int32))] [(.int (2 : Int32)), (.ref cc), (.int (1 : Int32)), (.ref b1)])) K
  refine Wlk.of (fun _ k => XS.iconst X6.here hx rfl (hb hby dS2_28) k) ?_
  show Wlk p.tables e below (T6.setTop (mkF m 29 #[.val (.ref cc), .val (.double kk), .second, .val (.int (3 : Int32)), .val (.ref b1), .val (.int (2 : Int32))] [(.int (1 : Int32)), (.int (2 : Int32)), (.ref cc), (.int (1 : Int32)), (.ref b1)])) K
  refine Wlk.of (fun _ k => XS.isub X6.here hx rfl (hb hby dS2_29) rfl k) ?_
  show Wlk p.tables e below (T6.setTop (mkF m 30 #[.val (.ref cc), .val (.double kk), .second, .val (.int (3 : Int32)), .val (.ref b1), .val (.int (2 : Int32))] [(.int (1 : Int32)), (.ref cc), (.int (1 : Int32)), (.ref b1)])) K
  have f9 : Arl Z h6 cc .double [(.double c0), (.double c1)] := (f5.other W6 ne2)
  refine Wlk.of (fun _ k => ldD X6 hx hZ e6 f9 (j := (1 : Int32)) (i := 1) (by decide) (by decide) rfl (g := (mkF m 30 #[.val (.ref cc), .val (.double kk), .second, .val (.int (3 : Int32)), .val (.ref b1), .val (.int (2 : Int32))] [(.int (1 : Int32)), (.ref cc), (.int (1 : Int32)), (.ref b1)])) rfl rfl (hb hby dS2_30) _ k) ?_
  show Wlk p.tables e below (T6.setTop (mkF m 31 #[.val (.ref cc), .val (.double kk), .second, .val (.int (3 : Int32)), .val (.ref b1), .val (.int (2 : Int32))] [(.double c1), (.int (1 : Int32)), (.ref b1)])) K
  refine Wlk.of (fun _ k => XS.dloadN X6.here hx rfl (hb hby dS2_31) rfl k) ?_
  show Wlk p.tables e below (T6.setTop (mkF m 32 #[.val (.ref cc), .val (.double kk), .second, .val (.int (3 : Int32)), .val (.ref b1), .val (.int (2 : Int32))] [(.double kk), (.double c1), (.int (1 : Int32)), (.ref b1)])) K
  refine Wlk.of (fun _ k => XS.aloadN X6.here hx rfl (hb hby dS2_32) rfl rfl k) ?_
  show Wlk p.tables e below (T6.setTop (mkF m 33 #[.val (.ref cc), .val (.double kk), .second, .val (.int (3 : Int32)), .val (.ref b1), .val (.int (2 : Int32))] [(.ref cc), (.double kk), (.double c1), (.int (1 : Int32)), (.ref b1)])) K
  refine Wlk.of (fun _ k => XS.iloadN X6.here hx rfl (hb hby dS2_33) rfl k) ?_
  show Wlk p.tables e below (T6.setTop (mkF m 34 #[.val (.ref cc), .val (.double kk), .second, .val (.int (3 : Int32)), .val (.ref b1), .val (.int (2 : Int32))] [(.int (3 : Int32)), (.ref cc), (.double kk), (.double c1), (.int (1 : Int32)), (.ref b1)])) K
  refine Wlk.of (fun _ k => XS.iload X6.here hx rfl (hb hby dS2_34) rfl k) ?_
  show Wlk p.tables e below (T6.setTop (mkF m 36 #[.val (.ref cc), .val (.double kk), .second, .val (.int (3 : Int32)), .val (.ref b1), .val (.int (2 : Int32))] [(.int (2 : Int32)), (.int (3 : Int32)), (.ref cc), (.double kk), (.double c1), (.int (1 : Int32)), (.ref b1)])) K
  refine Wlk.of (fun _ k => XS.isub X6.here hx rfl (hb hby dS2_36) rfl k) ?_
  show Wlk p.tables e below (T6.setTop (mkF m 37 #[.val (.ref cc), .val (.double kk), .second, .val (.int (3 : Int32)), .val (.ref b1), .val (.int (2 : Int32))] [(.int (1 : Int32)), (.ref cc), (.double kk), (.double c1), (.int (1 : Int32)), (.ref b1)])) K
  refine Wlk.of (fun _ k => XS.iconst X6.here hx rfl (hb hby dS2_37) k) ?_
  show Wlk p.tables e below (T6.setTop (mkF m 38 #[.val (.ref cc), .val (.double kk), .second, .val (.int (3 : Int32)), .val (.ref b1), .val (.int (2 : Int32))] [(.int (1 : Int32)), (.int (1 : Int32)), (.ref cc), (.double kk), (.double c1), (.int (1 : Int32)), (.ref b1)])) K
  refine Wlk.of (fun _ k => XS.isub X6.here hx rfl (hb hby dS2_38) rfl k) ?_
  show Wlk p.tables e below (T6.setTop (mkF m 39 #[.val (.ref cc), .val (.double kk), .second, .val (.int (3 : Int32)), .val (.ref b1), .val (.int (2 : Int32))] [(.int (0 : Int32)), (.ref cc), (.double kk), (.double c1), (.int (1 : Int32)), (.ref b1)])) K
  refine Wlk.of (fun _ k => ldD X6 hx hZ e6 f9 (j := (0 : Int32)) (i := 0) (by decide) (by decide) rfl (g := (mkF m 39 #[.val (.ref cc), .val (.double kk), .second, .val (.int (3 : Int32)), .val (.ref b1), .val (.int (2 : Int32))] [(.int (0 : Int32)), (.ref cc), (.double kk), (.double c1), (.int (1 : Int32)), (.ref b1)])) rfl rfl (hb hby dS2_39) _ k) ?_
  show Wlk p.tables e below (T6.setTop (mkF m 40 #[.val (.ref cc), .val (.double kk), .second, .val (.int (3 : Int32)), .val (.ref b1), .val (.int (2 : Int32))] [(.double c0), (.double kk), (.double c1), (.int (1 : Int32)), (.ref b1)])) K
  refine Wlk.of (fun _ k => XS.dmulS X6.here hx rfl (hb hby dS2_40) rfl m40_1 rfl k) ?_
  show Wlk p.tables e below (T6.setTop (mkF m 41 #[.val (.ref cc), .val (.double kk), .second, .val (.int (3 : Int32)), .val (.ref b1), .val (.int (2 : Int32))] [(.double (FP.dmul kk c0)), (.double c1), (.int (1 : Int32)), (.ref b1)])) K
  refine Wlk.of (fun _ k => XS.dsubS X6.here hx rfl (hb hby dS2_41) rfl m41_1 rfl k) ?_
  show Wlk p.tables e below (T6.setTop (mkF m 42 #[.val (.ref cc), .val (.double kk), .second, .val (.int (3 : Int32)), .val (.ref b1), .val (.int (2 : Int32))] [(.double (FP.dsub c1 (FP.dmul kk c0))), (.int (1 : Int32)), (.ref b1)])) K
  obtain ⟨T10, h10, X10, e10, W10, V10, st10⟩ := stDl X6 hx hZ e6 Vw6 (j := (1 : Int32)) (i := 1) (by decide) (by decide) (show 1 < 3 by decide) (g := (mkF m 42 #[.val (.ref cc), .val (.double kk), .second, .val (.int (3 : Int32)), .val (.ref b1), .val (.int (2 : Int32))] [(.double (FP.dsub c1 (FP.dmul kk c0))), (.int (1 : Int32)), (.ref b1)])) rfl rfl (hb hby dS2_42)
  refine Wlk.of (fun _ k => st10 _ k) ?_
  have K11 : Keep h0 h10 [] := K7.wr W10 (Or.inr sz_b1)
  have N12 := Fr.snoc X10 N8 g_b1
  have Vw10 : Arl Z h10 b1 .double [(.double (FP.dsub c0 (FP.dmul kk c1))), (.double (FP.dsub c1 (FP.dmul kk c0))), (.double (0 : UInt64))] := V10
  show Wlk p.tables e below (T10.setTop (mkF m 43 #[.val (.ref cc), .val (.double kk), .second, .val (.int (3 : Int32)), .val (.ref b1), .val (.int (2 : Int32))] [])) K
  refine Wlk.of (fun _ k => XS.iinc X10.here hx rfl (hb hby dS2_43) rfl (l' := #[.val (.ref cc), .val (.double kk), .second, .val (.int (3 : Int32)), .val (.ref b1), .val (.int (3 : Int32))]) rfl k) ?_
  show Wlk p.tables e below (T10.setTop (mkF m 46 #[.val (.ref cc), .val (.double kk), .second, .val (.int (3 : Int32)), .val (.ref b1), .val (.int (3 : Int32))] [])) K
  refine Wlk.of (fun _ k => XS.goto X10.here hx rfl (pc0 := 46) (pc' := 13) rfl (hb hby dS2_46) (by decide) (by decide) k) ?_
  show Wlk p.tables e below (T10.setTop (mkF m 13 #[.val (.ref cc), .val (.double kk), .second, .val (.int (3 : Int32)), .val (.ref b1), .val (.int (3 : Int32))] [])) K
  refine Wlk.of (fun _ k => XS.iload X10.here hx rfl (hb hby dS2_13) rfl k) ?_
  show Wlk p.tables e below (T10.setTop (mkF m 15 #[.val (.ref cc), .val (.double kk), .second, .val (.int (3 : Int32)), .val (.ref b1), .val (.int (3 : Int32))] [(.int (3 : Int32))])) K
  refine Wlk.of (fun _ k => XS.iloadN X10.here hx rfl (hb hby dS2_15) rfl k) ?_
  show Wlk p.tables e below (T10.setTop (mkF m 16 #[.val (.ref cc), .val (.double kk), .second, .val (.int (3 : Int32)), .val (.ref b1), .val (.int (3 : Int32))] [(.int (3 : Int32)), (.int (3 : Int32))])) K
  refine Wlk.of (fun _ k => XS.icmpYes X10.here hx rfl (pc0 := 16) (pc' := 49) rfl (hb hby dS2_16) rfl (flt (by decide : ¬ ((3 : Int32) < (3 : Int32)))).2.1 (by decide) (by decide) k) ?_
  show Wlk p.tables e below (T10.setTop (mkF m 49 #[.val (.ref cc), .val (.double kk), .second, .val (.int (3 : Int32)), .val (.ref b1), .val (.int (3 : Int32))] [])) K
  refine Wlk.of (fun _ k => XS.aload X10.here hx rfl (hb hby dS2_49) rfl rfl k) ?_
  show Wlk p.tables e below (T10.setTop (mkF m 51 #[.val (.ref cc), .val (.double kk), .second, .val (.int (3 : Int32)), .val (.ref b1), .val (.int (3 : Int32))] [(.ref b1)])) K
  refine Wlk.of (fun _ k => XS.iloadN X10.here hx rfl (hb hby dS2_51) rfl k) ?_
  show Wlk p.tables e below (T10.setTop (mkF m 52 #[.val (.ref cc), .val (.double kk), .second, .val (.int (3 : Int32)), .val (.ref b1), .val (.int (3 : Int32))] [(.int (3 : Int32)), (.ref b1)])) K
  refine Wlk.of (fun _ k => XS.iconst X10.here hx rfl (hb hby dS2_52) k) ?_
  show Wlk p.tables e below (T10.setTop (mkF m 53 #[.val (.ref cc), .val (.double kk), .second, .val (.int (3 : Int32)), .val (.ref b1), .val (.int (3 : Int32))] [(.int (1 : Int32)), (.int (3 : Int32)), (.ref b1)])) K
  refine Wlk.of (fun _ k => XS.isub X10.here hx rfl (hb hby dS2_53) rfl k) ?_
  show Wlk p.tables e below (T10.setTop (mkF m 54 #[.val (.ref cc), .val (.double kk), .second, .val (.int (3 : Int32)), .val (.ref b1), .val (.int (3 : Int32))] [(.int (2 : Int32)), (.ref b1)])) K
  refine Wlk.of (fun _ k => XS.dloadN X10.here hx rfl (hb hby dS2_54) rfl k) ?_
  show Wlk p.tables e below (T10.setTop (mkF m 55 #[.val (.ref cc), .val (.double kk), .second, .val (.int (3 : Int32)), .val (.ref b1), .val (.int (3 : Int32))] [(.double kk), (.int (2 : Int32)), (.ref b1)])) K
  obtain ⟨T13, h13, X13, e13, W13, V13, st13⟩ := stDl X10 hx hZ e10 Vw10 (j := (2 : Int32)) (i := 2) (by decide) (by decide) (show 2 < 3 by decide) (g := (mkF m 55 #[.val (.ref cc), .val (.double kk), .second, .val (.int (3 : Int32)), .val (.ref b1), .val (.int (3 : Int32))] [(.double kk), (.int (2 : Int32)), (.ref b1)])) rfl rfl (hb hby dS2_55)
  refine Wlk.of (fun _ k => st13 _ k) ?_
  have K14 : Keep h0 h13 [] := K11.wr W13 (Or.inr sz_b1)
  have N15 := Fr.snoc X13 N12 g_b1
  have Vw13 : Arl Z h13 b1 .double [(.double (FP.dsub c0 (FP.dmul kk c1))), (.double (FP.dsub c1 (FP.dmul kk c0))), (.double kk)] := V13
  show Wlk p.tables e below (T13.setTop (mkF m 56 #[.val (.ref cc), .val (.double kk), .second, .val (.int (3 : Int32)), .val (.ref b1), .val (.int (3 : Int32))] [])) K
  refine Wlk.of (fun _ k => XS.aload X13.here hx rfl (hb hby dS2_56) rfl rfl k) ?_
  show Wlk p.tables e below (T13.setTop (mkF m 58 #[.val (.ref cc), .val (.double kk), .second, .val (.int (3 : Int32)), .val (.ref b1), .val (.int (3 : Int32))] [(.ref b1)])) K
  refine hK (some (.ref b1)) X13 (fun q => by cases q) (fun fs hr => retOut X13 hx hret rfl (Or.inr (Or.inr (Or.inr (Or.inr ⟨rfl, rfl, rfl⟩)))) (hb hby dS2_58) hr) ?_ (by decide) (by decide)
  rw [show T13.heap = h13 from e13]
  exact ⟨b1, rfl, N15, K14, sz_b1, Vw13⟩
theorem dA2_0 : decode prog_4_method_2_code 0 = .ok (.aload_n 0, 1) := by decide +kernel
theorem dA2_1 : decode prog_4_method_2_code 1 = .ok (.aload_n 0, 1) := by decide +kernel
theorem dA2_2 : decode prog_4_method_2_code 2 = .ok (.getfield 7, 3) := by decide +kernel
theorem dA2_5 : decode prog_4_method_2_code 5 = .ok (.dload_n 1, 1) := by decide +kernel
theorem dA2_6 : decode prog_4_method_2_code 6 = .ok (.invokestatic 19, 3) := by decide +kernel
theorem dA2_9 : decode prog_4_method_2_code 9 = .ok (.putfield 7, 3) := by decide +kernel
theorem dA2_12 : decode prog_4_method_2_code 12 = .ok (.aload_n 0, 1) := by decide +kernel
theorem dA2_13 : decode prog_4_method_2_code 13 = .ok (.getfield 13, 3) := by decide +kernel
theorem dA2_16 : decode prog_4_method_2_code 16 = .ok (.aload_n 0, 1) := by decide +kernel
theorem dA2_17 : decode prog_4_method_2_code 17 = .ok (.getfield 23, 3) := by decide +kernel
theorem dA2_20 : decode prog_4_method_2_code 20 = .ok (.dload_n 1, 1) := by decide +kernel
theorem dA2_21 : decode prog_4_method_2_code 21 = .ok (.dastore, 1) := by decide +kernel
theorem dA2_22 : decode prog_4_method_2_code 22 = .ok (.aload_n 0, 1) := by decide +kernel
theorem dA2_23 : decode prog_4_method_2_code 23 = .ok (.getfield 16, 3) := by decide +kernel
theorem dA2_26 : decode prog_4_method_2_code 26 = .ok (.aload_n 0, 1) := by decide +kernel
theorem dA2_27 : decode prog_4_method_2_code 27 = .ok (.getfield 23, 3) := by decide +kernel
theorem dA2_30 : decode prog_4_method_2_code 30 = .ok (.iconst 1, 1) := by decide +kernel
theorem dA2_31 : decode prog_4_method_2_code 31 = .ok (.iadd, 1) := by decide +kernel
theorem dA2_32 : decode prog_4_method_2_code 32 = .ok (.aload_n 0, 1) := by decide +kernel
theorem dA2_33 : decode prog_4_method_2_code 33 = .ok (.getfield 16, 3) := by decide +kernel
theorem dA2_36 : decode prog_4_method_2_code 36 = .ok (.aload_n 0, 1) := by decide +kernel
theorem dA2_37 : decode prog_4_method_2_code 37 = .ok (.getfield 23, 3) := by decide +kernel
theorem dA2_40 : decode prog_4_method_2_code 40 = .ok (.daload, 1) := by decide +kernel
theorem dA2_41 : decode prog_4_method_2_code 41 = .ok (.dconst 1, 1) := by decide +kernel
theorem dA2_42 : decode prog_4_method_2_code 42 = .ok (.dload_n 1, 1) := by decide +kernel
theorem dA2_43 : decode prog_4_method_2_code 43 = .ok (.dload_n 1, 1) := by decide +kernel
theorem dA2_44 : decode prog_4_method_2_code 44 = .ok (.dmul, 1) := by decide +kernel
theorem dA2_45 : decode prog_4_method_2_code 45 = .ok (.dsub, 1) := by decide +kernel
theorem dA2_46 : decode prog_4_method_2_code 46 = .ok (.dmul, 1) := by decide +kernel
theorem dA2_47 : decode prog_4_method_2_code 47 = .ok (.dastore, 1) := by decide +kernel
theorem dA2_48 : decode prog_4_method_2_code 48 = .ok (.aload_n 0, 1) := by decide +kernel
theorem dA2_49 : decode prog_4_method_2_code 49 = .ok (.dup, 1) := by decide +kernel
theorem dA2_50 : decode prog_4_method_2_code 50 = .ok (.getfield 23, 3) := by decide +kernel
theorem dA2_53 : decode prog_4_method_2_code 53 = .ok (.iconst 1, 1) := by decide +kernel
theorem dA2_54 : decode prog_4_method_2_code 54 = .ok (.iadd, 1) := by decide +kernel
theorem dA2_55 : decode prog_4_method_2_code 55 = .ok (.putfield 23, 3) := by decide +kernel
theorem dA2_58 : decode prog_4_method_2_code 58 = .ok (.return_, 1) := by decide +kernel
theorem ef_rmA2 (m : MethodId) (a : Addr) (kk : UInt64) : entryFrame m #[(.ref a), (.double kk)] 3 = mkF m 0 #[.val (.ref a), .val (.double kk), .second] [] := by first | (simp [entryFrame, mkF, argsToLocals, Value.category]; done) | rfl
def Q_rmA2 (Z : State) (a : Addr) (kk : UInt64) (hc : Addr) (rf : Addr) (rv : Addr) (c0 : UInt64) (c1 : UInt64) (u0 : UInt64) (u1 : UInt64) (u2 : UInt64) (r0 : UInt64) (r1 : UInt64) (r2 : UInt64) (r3 : UInt64) (h0 : Heap) (n0 : Nat) (v : Option Value) (h : Heap) (L : List Loc) : Prop := ∃ nw : Addr, v = none ∧ Fr n0 L ∧ Keep h0 h [a, rf, rv] ∧ h0.size ≤ nw ∧ Fld Z h a "lagwise/estimators/ArRecursion" "highestCoefficients" "[D" (.ref nw) ∧ Fld Z h a "lagwise/estimators/ArRecursion" "reflections" "[D" (.ref rf) ∧ Fld Z h a "lagwise/estimators/ArRecursion" "residualVariances" "[D" (.ref rv) ∧ Fld Z h a "lagwise/estimators/ArRecursion" "highestOrder" "I" (.int (3 : Int32)) ∧ Arl Z h nw .double [(.double (FP.dsub c0 (FP.dmul kk c1))), (.double (FP.dsub c1 (FP.dmul kk c0))), (.double kk)] ∧ Arl Z h rf .double [(.double u0), (.double u1), (.double kk)] ∧ Arl Z h rv .double [(.double r0), (.double r1), (.double r2), (.double (FP.dmul r2 (FP.dsub FP.dconst1 (FP.dmul kk kk))))]
set_option maxRecDepth 65536 in
set_option maxHeartbeats 40000000 in
theorem rmA2 (l : Launch) (Z : State) (a0 : Array Value) (hw : ∀ d ∈ tables_1, d.before a0 Z = true) (a : Addr) (kk : UInt64) (hc : Addr) (rf : Addr) (rv : Addr) (c0 : UInt64) (c1 : UInt64) (u0 : UInt64) (u1 : UInt64) (u2 : UInt64) (r0 : UInt64) (r1 : UInt64) (r2 : UInt64) (r3 : UInt64) (h0 : Heap) (n0 : Nat) (Z0 : n0 ≤ h0.size) (E_a : Exa Z h0 a "lagwise/estimators/ArRecursion") (F_a_highestCoefficients : Fld Z h0 a "lagwise/estimators/ArRecursion" "highestCoefficients" "[D" (.ref hc)) (F_a_reflections : Fld Z h0 a "lagwise/estimators/ArRecursion" "reflections" "[D" (.ref rf)) (F_a_residualVariances : Fld Z h0 a "lagwise/estimators/ArRecursion" "residualVariances" "[D" (.ref rv)) (F_a_highestOrder : Fld Z h0 a "lagwise/estimators/ArRecursion" "highestOrder" "I" (.int (2 : Int32))) (A_hc : Arl Z h0 hc .double [(.double c0), (.double c1)]) (A_rf : Arl Z h0 rf .double [(.double u0), (.double u1), (.double u2)]) (A_rv : Arl Z h0 rv .double [(.double r0), (.double r1), (.double r2), (.double r3)]) (ne_rf_rv : rf ≠ rv) (ne_a_rf : a ≠ rf) (ne_a_rv : a ≠ rv) (g_a : n0 ≤ a) (g_rf : n0 ≤ rf) (g_rv : n0 ≤ rv) (m40_0 : Fl.NoNaN64 (FP.dmul kk c1)) (m40_1 : Fl.NoNaN64 (FP.dmul kk c0)) (m41_0 : Fl.NoNaN64 (FP.dsub c0 (FP.dmul kk c1))) (m41_1 : Fl.NoNaN64 (FP.dsub c1 (FP.dmul kk c0))) (a44 : Fl.NoNaN64 (FP.dmul kk kk)) (a45 : Fl.NoNaN64 (FP.dsub FP.dconst1 (FP.dmul kk kk))) (a46 : Fl.NoNaN64 (FP.dmul r2 (FP.dsub FP.dconst1 (FP.dmul kk kk)))) :
    Ctr l Z h0 (⟨"lagwise/estimators/ArRecursion", "add", "(D)V"⟩ : MethodName) prog_4_method_2_code 3 none [] ({ frames := 1, cells := 1, slots := 3, locals := 18 } : Room) #[(.ref a), (.double kk)] (Q_rmA2 Z a kk hc rf rv c0 c1 u0 u1 u2 r0 r1 r2 r3 h0 n0) := by
  refine Ctr.make (plainFor_of_name pn_22) fun p e s m below meth c s₁ K hret hml hx hby hown hnm hZ X0 e0 hK => ?_
  have hown : s.vm.findClass "lagwise/estimators/ArRecursion" = some m.cls := hown
  have N0 := Fr.nil n0
  have K0 : Keep h0 h0 [a, rf, rv] := Keep.refl _ _
  refine Wlk.of (fun _ k => castTop (ef_rmA2 m a kk) k) ?_
  show Wlk p.tables e below (s₁.setTop (mkF m 0 #[.val (.ref a), .val (.double kk), .second] [])) K
  refine Wlk.of (fun _ k => XS.aloadN X0.here hx rfl (hb hby dA2_0) rfl rfl k) ?_
  show Wlk p.tables e below (s₁.setTop (mkF m 1 #[.val (.ref a), .val (.double kk), .second] [(.ref a)])) K
  refine Wlk.of (fun _ k => XS.aloadN X0.here hx rfl (hb hby dA2_1) rfl rfl k) ?_
  show Wlk p.tables e below (s₁.setTop (mkF m 2 #[.val (.ref a), .val (.double kk), .second] [(.ref a), (.ref a)])) K
  obtain ⟨T1, X1, e1, st1⟩ := getF X0 hx hZ hown (host := "") (Or.inl (hw _ (List.mem_of_getElem? (i := 11) rfl))) Via.refl e0 F_a_highestCoefficients (g := (mkF m 2 #[.val (.ref a), .val (.double kk), .second] [(.ref a), (.ref a)])) rfl rfl (hb hby dA2_2)
  refine Wlk.of (fun _ k => st1 _ k) ?_
  show Wlk p.tables e below (T1.setTop (mkF m 5 #[.val (.ref a), .val (.double kk), .second] [(.ref hc), (.ref a)])) K
  refine Wlk.of (fun _ k => XS.dloadN X1.here hx rfl (hb hby dA2_5) rfl k) ?_
  show Wlk p.tables e below (T1.setTop (mkF m 6 #[.val (.ref a), .val (.double kk), .second] [(.double kk), (.ref hc), (.ref a)])) K
  obtain ⟨v2, T2, L2, X2, q2, st2⟩ := Ctr.static (rmS2 l Z a0 hw hc kk c0 c1 h0 n0 (Nat.le_trans Z0 K0.1) A_hc m40_0 m40_1 m41_0 m41_1) X1 hx hZ e1 hown (hw _ (List.mem_of_getElem? (i := 22) rfl)) (hw _ (List.mem_of_getElem? (i := 23) rfl)) (hw _ (List.mem_of_getElem? (i := 3) rfl)) (hw _ (List.mem_of_getElem? (i := 24) rfl)) (by decide) pd_44 (g := (mkF m 6 #[.val (.ref a), .val (.double kk), .second] [(.double kk), (.ref hc), (.ref a)])) rfl (by rw [hml]; rfl) (argsL := [(.ref hc), (.double kk)]) (rest := [(.ref a)]) rfl rfl rfl (W := 1) (by show 2 * 0 + _ ≤ _; exact Nat.le_of_eq rfl) (by decide) (by decide) (hb hby dA2_6) (by decide) (by decide)
  obtain ⟨nw_2, rfl, N2q, K2q, p2_0, p2_1⟩ := q2
  have N3 := Fr.app N0 N2q
  refine Wlk.of (fun _ k => st2 _ k) ?_
  have ne4 : a ≠ nw_2 := Nat.ne_of_lt (Nat.lt_of_lt_of_le E_a.lt p2_0)
  have ne5 : hc ≠ nw_2 := Nat.ne_of_lt (Nat.lt_of_lt_of_le A_hc.lt p2_0)
  have ne6 : rf ≠ nw_2 := Nat.ne_of_lt (Nat.lt_of_lt_of_le A_rf.lt p2_0)
  have ne7 : rv ≠ nw_2 := Nat.ne_of_lt (Nat.lt_of_lt_of_le A_rv.lt p2_0)
  have sz_nw_2 : h0.size ≤ nw_2 := Nat.le_trans K0.1 p2_0
  have g_nw_2 : n0 ≤ nw_2 := Nat.le_trans Z0 sz_nw_2
  have K8 : Keep h0 T2.heap [a, rf, rv] := K0.trans K2q all0
  show Wlk p.tables e below (T2.setTop (mkF m 9 #[.val (.ref a), .val (.double kk), .second] [(.ref nw_2), (.ref a)])) K
  have f9 : Fld Z T2.heap a "lagwise/estimators/ArRecursion" "highestCoefficients" "[D" (.ref hc) := (F_a_highestCoefficients.keep K2q nin0)
  have f10 : Exa Z T2.heap a "lagwise/estimators/ArRecursion" := (E_a.keep K2q)
  obtain ⟨T11, h11, X11, e11, W11, st11⟩ := putF X2 hx hZ hown (host := "") (Or.inl (hw _ (List.mem_of_getElem? (i := 11) rfl))) Via.refl rfl f9 f10 (Or.inl (hw _ (List.mem_of_getElem? (i := 12) rfl))) (hw _ (List.mem_of_getElem? (i := 2) rfl)) (ty := (.array .double)) (by decide) rfl rfl (g := (mkF m 9 #[.val (.ref a), .val (.double kk), .second] [(.ref nw_2), (.ref a)])) rfl rfl (hb hby dA2_9)
  have Fw11 := f9.same W11
  refine Wlk.of (fun _ k => st11 _ k) ?_
  have K12 : Keep h0 h11 [a, rf, rv] := K8.wr W11 (Or.inl (List.mem_of_getElem? (i := 0) rfl))
  have N13 := Fr.snoc X11 N3 g_a
  show Wlk p.tables e below (T11.setTop (mkF m 12 #[.val (.ref a), .val (.double kk), .second] [])) K
  refine Wlk.of (fun _ k => XS.aloadN X11.here hx rfl (hb hby dA2_12) rfl rfl k) ?_
  show Wlk p.tables e below (T11.setTop (mkF m 13 #[.val (.ref a), .val (.double kk), .second] [(.ref a)])) K
  have f14 : Fld Z h11 a "lagwise/estimators/ArRecursion" "reflections" "[D" (.ref rf) := ((F_a_reflections.keep K2q nin0).other W11 (Or.inr (slot_ne (Or.inr (hw _ (List.mem_of_getElem? (i := 14) rfl))) (Or.inl (hw _ (List.mem_of_getElem? (i := 12) rfl))) (by decide) (t := (.array .double)) (t' := (.array .double)) (by decide) (by decide))))
  obtain ⟨T15, X15, e15, st15⟩ := getF X11 hx hZ hown (host := "") (Or.inl (hw _ (List.mem_of_getElem? (i := 13) rfl))) Via.refl e11 f14 (g := (mkF m 13 #[.val (.ref a), .val (.double kk), .second] [(.ref a)])) rfl rfl (hb hby dA2_13)
  refine Wlk.of (fun _ k => st15 _ k) ?_
  show Wlk p.tables e below (T15.setTop (mkF m 16 #[.val (.ref a), .val (.double kk), .second] [(.ref rf)])) K
  refine Wlk.of (fun _ k => XS.aloadN X15.here hx rfl (hb hby dA2_16) rfl rfl k) ?_
  show Wlk p.tables e below (T15.setTop (mkF m 17 #[.val (.ref a), .val (.double kk), .second] [(.ref a), (.ref rf)])) K
  have f16 : Fld Z h11 a "lagwise/estimators/ArRecursion" "highestOrder" "I" (.int (2 : Int32)) := ((F_a_highestOrder.keep K2q nin0).other W11 (Or.inr (slot_ne (Or.inl (hw _ (List.mem_of_getElem? (i := 26) rfl))) (Or.inl (hw _ (List.mem_of_getElem? (i := 12) rfl))) (by decide) (t := .int) (t' := (.array .double)) (by decide) (by decide))))
  obtain ⟨T17, X17, e17, st17⟩ := getF X15 hx hZ hown (host := "") (Or.inl (hw _ (List.mem_of_getElem? (i := 25) rfl))) Via.refl e15 f16 (g := (mkF m 17 #[.val (.ref a), .val (.double kk), .second] [(.ref a), (.ref rf)])) rfl rfl (hb hby dA2_17)
  refine Wlk.of (fun _ k => st17 _ k) ?_
  show Wlk p.tables e below (T17.setTop (mkF m 20 #[.val (.ref a), .val (.double kk), .second] [(.int (2 : Int32)), (.ref rf)])) K
  refine Wlk.of (fun _ k => XS.dloadN X17.here hx rfl (hb hby dA2_20) rfl k) ?_
  show Wlk p.tables e below (T17.setTop (mkF m 21 #[.val (.ref a), .val (.double kk), .second] [(.double kk), (.int (2 : Int32)), (.ref rf)])) K
  have f18 : Arl Z h11 rf .double [(.double u0), (.double u1), (.double u2)] := ((A_rf.keep K2q nin0).other W11 (Ne.symm ne_a_rf))
  obtain ⟨T19, h19, X19, e19, W19, V19, st19⟩ := stDl X17 hx hZ e17 f18 (j := (2 : Int32)) (i := 2) (by decide) (by decide) (show 2 < 3 by decide) (g := (mkF m 21 #[.val (.ref a), .val (.double kk), .second] [(.double kk), (.int (2 : Int32)), (.ref rf)])) rfl rfl (hb hby dA2_21)
  refine Wlk.of (fun _ k => st19 _ k) ?_
  have K20 : Keep h0 h19 [a, rf, rv] := K12.wr W19 (Or.inl (List.mem_of_getElem? (i := 1) rfl))
  have N21 := Fr.snoc X19 N13 g_rf
  have Vw19 : Arl Z h19 rf .double [(.double u0), (.double u1), (.double kk)] := V19
  show Wlk p.tables e below (T19.setTop (mkF m 22 #[.val (.ref a), .val (.double kk), .second] [])) K
  refine Wlk.of (fun _ k => XS.aloadN X19.here hx rfl (hb hby dA2_22) rfl rfl k) ?_
  show Wlk p.tables e below (T19.setTop (mkF m 23 #[.val (.ref a), .val (.double kk), .second] [(.ref a)])) K
  have f22 : Fld Z h19 a "lagwise/estimators/ArRecursion" "residualVariances" "[D" (.ref rv) := (((F_a_residualVariances.keep K2q nin0).other W11 (Or.inr (slot_ne (Or.inr (hw _ (List.mem_of_getElem? (i := 16) rfl))) (Or.inl (hw _ (List.mem_of_getElem? (i := 12) rfl))) (by decide) (t := (.array .double)) (t' := (.array .double)) (by decide) (by decide)))).other W19 (Or.inl ne_a_rf))
  obtain ⟨T23, X23, e23, st23⟩ := getF X19 hx hZ hown (host := "") (Or.inl (hw _ (List.mem_of_getElem? (i := 15) rfl))) Via.refl e19 f22 (g := (mkF m 23 #[.val (.ref a), .val (.double kk), .second] [(.ref a)])) rfl rfl (hb hby dA2_23)
  refine Wlk.of (fun _ k => st23 _ k) ?_
  show Wlk p.tables e below (T23.setTop (mkF m 26 #[.val (.ref a), .val (.double kk), .second] [(.ref rv)])) K
  refine Wlk.of (fun _ k => XS.aloadN X23.here hx rfl (hb hby dA2_26) rfl rfl k) ?_
  show Wlk p.tables e below (T23.setTop (mkF m 27 #[.val (.ref a), .val (.double kk), .second] [(.ref a), (.ref rv)])) K
  have f24 : Fld Z h19 a "lagwise/estimators/ArRecursion" "highestOrder" "I" (.int (2 : Int32)) := (f16.other W19 (Or.inl ne_a_rf))
  obtain ⟨T25, X25, e25, st25⟩ := getF X23 hx hZ hown (host := "") (Or.inl (hw _ (List.mem_of_getElem? (i := 25) rfl))) Via.refl e23 f24 (g := (mkF m 27 #[.val (.ref a), .val (.double kk), .second] [(.ref a), (.ref rv)])) rfl rfl (hb hby dA2_27)
  refine Wlk.of (fun _ k => st25 _ k) ?_
  show Wlk p.tables e below (T25.setTop (mkF m 30 #[.val (.ref a), .val (.double kk), .second] [(.int (2 : Int32)), (.ref rv)])) K
  refine Wlk.of (fun _ k => XS.iconst X25.here hx rfl (hb hby dA2_30) k) ?_
  show Wlk p.tables e below (T25.setTop (mkF m 31 #[.val (.ref a), .val (.double kk), .second] [(.int (1 : Int32)), (.int (2 : Int32)), (.ref rv)])) K
  refine Wlk.of (fun _ k => XS.iadd X25.here hx rfl (hb hby dA2_31) rfl k) ?_
  show Wlk p.tables e below (T25.setTop (mkF m 32 #[.val (.ref a), .val (.double kk), .second] [(.int (3 : Int32)), (.ref rv)])) K
  refine Wlk.of (fun _ k => XS.aloadN X25.here hx rfl (hb hby dA2_32) rfl rfl k) ?_
  show Wlk p.tables e below (T25.setTop (mkF m 33 #[.val (.ref a), .val (.double kk), .second] [(.ref a), (.int (3 : Int32)), (.ref rv)])) K
  obtain ⟨T26, X26, e26, st26⟩ := getF X25 hx hZ hown (host := "") (Or.inl (hw _ (List.mem_of_getElem? (i := 15) rfl))) Via.refl e25 f22 (g := (mkF m 33 #[.val (.ref a), .val (.double kk), .second] [(.ref a), (.int (3 : Int32)), (.ref rv)])) rfl rfl (hb hby dA2_33)
  refine Wlk.of (fun _ k => st26 _ k) ?_
  show Wlk p.tables e below (T26.setTop (mkF m 36 #[.val (.ref a), .val (.double kk), .second] [(.ref rv), (.int (3 : Int32)), (.ref rv)])) K
  refine Wlk.of (fun _ k => XS.aloadN X26.here hx rfl (hb hby dA2_36) rfl rfl k) ?_
  show Wlk p.tables e below (T26.setTop (mkF m 37 #[.val (.ref a), .val (.double kk), .second] [(.ref a), (.ref rv), (.int (3 : Int32)), (.ref rv)])) K
  obtain ⟨T27, X27, e27, st27⟩ := getF X26 hx hZ hown (host := "") (Or.inl (hw _ (List.mem_of_getElem? (i := 25) rfl))) Via.refl e26 f24 (g := (mkF m 37 #[.val (.ref a), .val (.double kk), .second] [(.ref a), (.ref rv), (.int (3 : Int32)), (.ref rv)])) rfl rfl (hb hby dA2_37)
  refine Wlk.of (fun _ k => st27 _ k) ?_
  show Wlk p.tables e below (T27.setTop (mkF m 40 #[.val (.ref a), .val (.double kk), .second] [(.int (2 : Int32)), (.ref rv), (.int (3 : Int32)), (.ref rv)])) K
  have f28 : Arl Z h19 rv .double [(.double r0), (.double r1), (.double r2), (.double r3)] := (((A_rv.keep K2q nin0).other W11 (Ne.symm ne_a_rv)).other W19 (Ne.symm ne_rf_rv))
  refine Wlk.of (fun _ k => ldD X27 hx hZ e27 f28 (j := (2 : Int32)) (i := 2) (by decide) (by decide) rfl (g := (mkF m 40 #[.val (.ref a), .val (.double kk), .second] [(.int (2 : Int32)), (.ref rv), (.int (3 : Int32)), (.ref rv)])) rfl rfl (hb hby dA2_40) _ k) ?_
  show Wlk p.tables e below (T27.setTop (mkF m 41 #[.val (.ref a), .val (.double kk), .second] [(.double r2), (.int (3 : Int32)), (.ref rv)])) K
  refine Wlk.of (fun _ k => XS.dconst1 X27.here hx rfl (hb hby dA2_41) rfl k) ?_
  show Wlk p.tables e below (T27.setTop (mkF m 42 #[.val (.ref a), .val (.double kk), .second] [(.double FP.dconst1), (.double r2), (.int (3 : Int32)), (.ref rv)])) K
  refine Wlk.of (fun _ k => XS.dloadN X27.here hx rfl (hb hby dA2_42) rfl k) ?_
  show Wlk p.tables e below (T27.setTop (mkF m 43 #[.val (.ref a), .val (.double kk), .second] [(.double kk), (.double FP.dconst1), (.double r2), (.int (3 : Int32)), (.ref rv)])) K
  refine Wlk.of (fun _ k => XS.dloadN X27.here hx rfl (hb hby dA2_43) rfl k) ?_
  show Wlk p.tables e below (T27.setTop (mkF m 44 #[.val (.ref a), .val (.double kk), .second] [(.double kk), (.double kk), (.double FP.dconst1), (.double r2), (.int (3 : Int32)), (.ref rv)])) K
  refine Wlk.of (fun _ k => XS.dmulS X27.here hx rfl (hb hby dA2_44) rfl a44 rfl k) ?_
  show Wlk p.tables e below (T27.setTop (mkF m 45 #[.val (.ref a), .val (.double kk), .second] [(.double (FP.dmul kk kk)), (.double FP.dconst1), (.double r2), (.int (3 : Int32)), (.ref rv)])) K
  refine Wlk.of (fun _ k => XS.dsubS X27.here hx rfl (hb hby dA2_45) rfl a45 rfl k) ?_
  show Wlk p.tables e below (T27.setTop (mkF m 46 #[.val (.ref a), .val (.double kk), .second] [(.double (FP.dsub FP.dconst1 (FP.dmul kk kk))), (.double r2), (.int (3 : Int32)), (.ref rv)])) K
  refine Wlk.of (fun _ k => XS.dmulS X27.here hx rfl (hb hby dA2_46) rfl a46 rfl k) ?_
  show Wlk p.tables e below (T27.setTop (mkF m 47 #[.val (.ref a), .val (.double kk), .second] [(.double (FP.dmul r2 (FP.dsub FP.dconst1 (FP.dmul kk kk)))), (.int (3 : Int32)), (.ref rv)])) K
  obtain ⟨T29, h29, X29, e29, W29, V29, st29⟩ := stDl X27 hx hZ e27 f28 (j := (3 : Int32)) (i := 3) (by decide) (by decide) (show 3 < 4 by decide) (g := (mkF m 47 #[.val (.ref a), .val (.double kk), .second] [(.double (FP.dmul r2 (FP.dsub FP.dconst1 (FP.dmul kk kk)))), (.int (3 : Int32)), (.ref rv)])) rfl rfl (hb hby dA2_47)
  refine Wlk.of (fun _ k => st29 _ k) ?_
  have K30 : Keep h0 h29 [a, rf, rv] := K20.wr W29 (Or.inl (List.mem_of_getElem? (i := 2) rfl))
  have N31 := Fr.snoc X29 N21 g_rv
  have Vw29 : Arl Z h29 rv .double [(.double r0), (.double r1), (.double r2), (.double (FP.dmul r2 (FP.dsub FP.dconst1 (FP.dmul kk kk))))] := V29
  show Wlk p.tables e below (T29.setTop (mkF m 48 #[.val (.ref a), .val (.double kk), .second] [])) K
  refine Wlk.of (fun _ k => XS.aloadN X29.here hx rfl (hb hby dA2_48) rfl rfl k) ?_
  show Wlk p.tables e below (T29.setTop (mkF m 49 #[.val (.ref a), .val (.double kk), .second] [(.ref a)])) K
  refine Wlk.of (fun _ k => XS.dup X29.here hx rfl (hb hby dA2_49) rfl rfl k) ?_
  show Wlk p.tables e below (T29.setTop (mkF m 50 #[.val (.ref a), .val (.double kk), .second] [(.ref a), (.ref a)])) K
  have f32 : Fld Z h29 a "lagwise/estimators/ArRecursion" "highestOrder" "I" (.int (2 : Int32)) := (f24.other W29 (Or.inl ne_a_rv))
  obtain ⟨T33, X33, e33, st33⟩ := getF X29 hx hZ hown (host := "") (Or.inl (hw _ (List.mem_of_getElem? (i := 25) rfl))) Via.refl e29 f32 (g := (mkF m 50 #[.val (.ref a), .val (.double kk), .second] [(.ref a), (.ref a)])) rfl rfl (hb hby dA2_50)
  refine Wlk.of (fun _ k => st33 _ k) ?_
  show Wlk p.tables e below (T33.setTop (mkF m 53 #[.val (.ref a), .val (.double kk), .second] [(.int (2 : Int32)), (.ref a)])) K
  refine Wlk.of (fun _ k => XS.iconst X33.here hx rfl (hb hby dA2_53) k) ?_
  show Wlk p.tables e below (T33.setTop (mkF m 54 #[.val (.ref a), .val (.double kk), .second] [(.int (1 : Int32)), (.int (2 : Int32)), (.ref a)])) K
  refine Wlk.of (fun _ k => XS.iadd X33.here hx rfl (hb hby dA2_54) rfl k) ?_
  show Wlk p.tables e below (T33.setTop (mkF m 55 #[.val (.ref a), .val (.double kk), .second] [(.int (3 : Int32)), (.ref a)])) K
  have f34 : Exa Z h29 a "lagwise/estimators/ArRecursion" := (((f10.wr W11).wr W19).wr W29)
  obtain ⟨T35, h35, X35, e35, W35, st35⟩ := putF X33 hx hZ hown (host := "") (Or.inl (hw _ (List.mem_of_getElem? (i := 25) rfl))) Via.refl e33 f32 f34 (Or.inl (hw _ (List.mem_of_getElem? (i := 26) rfl))) (hw _ (List.mem_of_getElem? (i := 2) rfl)) (ty := .int) (by decide) rfl rfl (g := (mkF m 55 #[.val (.ref a), .val (.double kk), .second] [(.int (3 : Int32)), (.ref a)])) rfl rfl (hb hby dA2_55)
  have Fw35 := f32.same W35
  refine Wlk.of (fun _ k => st35 _ k) ?_
  have K36 : Keep h0 h35 [a, rf, rv] := K30.wr W35 (Or.inl (List.mem_of_getElem? (i := 0) rfl))
  have N37 := Fr.snoc X35 N31 g_a
  show Wlk p.tables e below (T35.setTop (mkF m 58 #[.val (.ref a), .val (.double kk), .second] [])) K
  have f38 : Fld Z h35 a "lagwise/estimators/ArRecursion" "highestCoefficients" "[D" (.ref nw_2) := (((Fw11.other W19 (Or.inl ne_a_rf)).other W29 (Or.inl ne_a_rv)).other W35 (Or.inr (slot_ne (Or.inl (hw _ (List.mem_of_getElem? (i := 12) rfl))) (Or.inl (hw _ (List.mem_of_getElem? (i := 26) rfl))) (by decide) (t := (.array .double)) (t' := .int) (by decide) (by decide))))
  have f39 : Fld Z h35 a "lagwise/estimators/ArRecursion" "reflections" "[D" (.ref rf) := (((f14.other W19 (Or.inl ne_a_rf)).other W29 (Or.inl ne_a_rv)).other W35 (Or.inr (slot_ne (Or.inr (hw _ (List.mem_of_getElem? (i := 14) rfl))) (Or.inl (hw _ (List.mem_of_getElem? (i := 26) rfl))) (by decide) (t := (.array .double)) (t' := .int) (by decide) (by decide))))
  have f40 : Fld Z h35 a "lagwise/estimators/ArRecursion" "residualVariances" "[D" (.ref rv) := ((f22.other W29 (Or.inl ne_a_rv)).other W35 (Or.inr (slot_ne (Or.inr (hw _ (List.mem_of_getElem? (i := 16) rfl))) (Or.inl (hw _ (List.mem_of_getElem? (i := 26) rfl))) (by decide) (t := (.array .double)) (t' := .int) (by decide) (by decide))))
  have f41 : Arl Z h35 nw_2 .double [(.double (FP.dsub c0 (FP.dmul kk c1))), (.double (FP.dsub c1 (FP.dmul kk c0))), (.double kk)] := ((((p2_1.other W11 (Ne.symm ne4)).other W19 (Ne.symm ne6)).other W29 (Ne.symm ne7)).other W35 (Ne.symm ne4))
  have f42 : Arl Z h35 rf .double [(.double u0), (.double u1), (.double kk)] := ((Vw19.other W29 ne_rf_rv).other W35 (Ne.symm ne_a_rf))
  have f43 : Arl Z h35 rv .double [(.double r0), (.double r1), (.double r2), (.double (FP.dmul r2 (FP.dsub FP.dconst1 (FP.dmul kk kk))))] := (Vw29.other W35 (Ne.symm ne_a_rv))
  refine hK none X35 (fun q => rfl) (fun fs hr => X35.returnOut hx hret (hb hby dA2_58) hr) ?_ (by decide) (by decide)
  rw [show T35.heap = h35 from e35]
  exact ⟨nw_2, rfl, N37, K36, sz_nw_2, f38, f39, f40, Fw35, f41, f42, f43⟩
theorem d5_0 : decode prog_4_method_3_code 0 = .ok (.aload_n 0, 1) := by decide +kernel
theorem d5_1 : decode prog_4_method_3_code 1 = .ok (.getfield 7, 3) := by decide +kernel
theorem d5_4 : decode prog_4_method_3_code 4 = .ok (.areturn, 1) := by decide +kernel
theorem ef_rmH (m : MethodId) (a : Addr) : entryFrame m #[(.ref a)] 1 = mkF m 0 #[.val (.ref a)] [] := by first | (simp [entryFrame, mkF, argsToLocals, Value.category]; done) | rfl
def Q_rmH (Z : State) (a : Addr) (hc : Addr) (h0 : Heap) (n0 : Nat) (v : Option Value) (h : Heap) (L : List Loc) : Prop := v = (some (.ref hc)) ∧ Fr n0 L ∧ h = h0
set_option maxRecDepth 65536 in
set_option maxHeartbeats 40000000 in
theorem rmH (l : Launch) (Z : State) (a0 : Array Value) (hw : ∀ d ∈ tables_1, d.before a0 Z = true) (a : Addr) (hc : Addr) (h0 : Heap) (n0 : Nat) (Z0 : n0 ≤ h0.size) (F_a_highestCoefficients : Fld Z h0 a "lagwise/estimators/ArRecursion" "highestCoefficients" "[D" (.ref hc)) :
    Ctr l Z h0 (⟨"lagwise/estimators/ArRecursion", "highestCoefficients", "()[D"⟩ : MethodName) prog_4_method_3_code 1 (some (.array .double)) [] ({ frames := 0, cells := 0, slots := 0, locals := 0 } : Room) #[(.ref a)] (Q_rmH Z a hc h0 n0) := by
  refine Ctr.make (plainFor_of_name pn_22) fun p e s m below meth c s₁ K hret hml hx hby hown hnm hZ X0 e0 hK => ?_
  have hown : s.vm.findClass "lagwise/estimators/ArRecursion" = some m.cls := hown
  have N0 := Fr.nil n0
  have K0 : Keep h0 h0 [] := Keep.refl _ _
  refine Wlk.of (fun _ k => castTop (ef_rmH m a) k) ?_
  show Wlk p.tables e below (s₁.setTop (mkF m 0 #[.val (.ref a)] [])) K
  refine Wlk.of (fun _ k => XS.aloadN X0.here hx rfl (hb hby d5_0) rfl rfl k) ?_
  show Wlk p.tables e below (s₁.setTop (mkF m 1 #[.val (.ref a)] [(.ref a)])) K
  obtain ⟨T1, X1, e1, st1⟩ := getF X0 hx hZ hown (host := "") (Or.inl (hw _ (List.mem_of_getElem? (i := 11) rfl))) Via.refl e0 F_a_highestCoefficients (g := (mkF m 1 #[.val (.ref a)] [(.ref a)])) rfl rfl (hb hby d5_1)
  refine Wlk.of (fun _ k => st1 _ k) ?_
  show Wlk p.tables e below (T1.setTop (mkF m 4 #[.val (.ref a)] [(.ref hc)])) K
  refine hK (some (.ref hc)) X1 (fun q => by cases q) (fun fs hr => retOut X1 hx hret rfl (Or.inr (Or.inr (Or.inr (Or.inr ⟨rfl, rfl, rfl⟩)))) (hb hby d5_4) hr) ?_ (by decide) (by decide)
  rw [show T1.heap = h0 from e1]
  exact ⟨rfl, N0, rfl⟩
theorem dR0_0 : decode prog_4_method_5_code 0 = .ok (.aload_n 0, 1) := by decide +kernel
theorem dR0_1 : decode prog_4_method_5_code 1 = .ok (.getfield 13, 3) := by decide +kernel
theorem dR0_4 : decode prog_4_method_5_code 4 = .ok (.iload_n 1, 1) := by decide +kernel
theorem dR0_5 : decode prog_4_method_5_code 5 = .ok (.iconst 1, 1) := by decide +kernel
theorem dR0_6 : decode prog_4_method_5_code 6 = .ok (.isub, 1) := by decide +kernel
theorem dR0_7 : decode prog_4_method_5_code 7 = .ok (.daload, 1) := by decide +kernel
theorem dR0_8 : decode prog_4_method_5_code 8 = .ok (.dreturn, 1) := by decide +kernel
theorem ef_rmR0 (m : MethodId) (a : Addr) : entryFrame m #[(.ref a), (.int (1 : Int32))] 2 = mkF m 0 #[.val (.ref a), .val (.int (1 : Int32))] [] := by first | (simp [entryFrame, mkF, argsToLocals, Value.category]; done) | rfl
def Q_rmR0 (Z : State) (a : Addr) (rf : Addr) (u0 : UInt64) (u1 : UInt64) (u2 : UInt64) (h0 : Heap) (n0 : Nat) (v : Option Value) (h : Heap) (L : List Loc) : Prop := v = (some (.double u0)) ∧ Fr n0 L ∧ h = h0
set_option maxRecDepth 65536 in
set_option maxHeartbeats 40000000 in
theorem rmR0 (l : Launch) (Z : State) (a0 : Array Value) (hw : ∀ d ∈ tables_1, d.before a0 Z = true) (a : Addr) (rf : Addr) (u0 : UInt64) (u1 : UInt64) (u2 : UInt64) (h0 : Heap) (n0 : Nat) (Z0 : n0 ≤ h0.size) (F_a_reflections : Fld Z h0 a "lagwise/estimators/ArRecursion" "reflections" "[D" (.ref rf)) (A_rf : Arl Z h0 rf .double [(.double u0), (.double u1), (.double u2)]) :
    Ctr l Z h0 (⟨"lagwise/estimators/ArRecursion", "reflection", "(I)D"⟩ : MethodName) prog_4_method_5_code 2 (some .double) [] ({ frames := 0, cells := 0, slots := 0, locals := 0 } : Room) #[(.ref a), (.int (1 : Int32))] (Q_rmR0 Z a rf u0 u1 u2 h0 n0) := by
  refine Ctr.make (plainFor_of_name pn_22) fun p e s m below meth c s₁ K hret hml hx hby hown hnm hZ X0 e0 hK => ?_
  have hown : s.vm.findClass "lagwise/estimators/ArRecursion" = some m.cls := hown
  have N0 := Fr.nil n0
  have K0 : Keep h0 h0 [] := Keep.refl _ _
  refine Wlk.of (fun _ k => castTop (ef_rmR0 m a) k) ?_
  show Wlk p.tables e below (s₁.setTop (mkF m 0 #[.val (.ref a), .val (.int (1 : Int32))] [])) K
  refine Wlk.of (fun _ k => XS.aloadN X0.here hx rfl (hb hby dR0_0) rfl rfl k) ?_
  show Wlk p.tables e below (s₁.setTop (mkF m 1 #[.val (.ref a), .val (.int (1 : Int32))] [(.ref a)])) K
  obtain ⟨T1, X1, e1, st1⟩ := getF X0 hx hZ hown (host := "") (Or.inl (hw _ (List.mem_of_getElem? (i := 13) rfl))) Via.refl e0 F_a_reflections (g := (mkF m 1 #[.val (.ref a), .val (.int (1 : Int32))] [(.ref a)])) rfl rfl (hb hby dR0_1)
  refine Wlk.of (fun _ k => st1 _ k) ?_
  show Wlk p.tables e below (T1.setTop (mkF m 4 #[.val (.ref a), .val (.int (1 : Int32))] [(.ref rf)])) K
  refine Wlk.of (fun _ k => XS.iloadN X1.here hx rfl (hb hby dR0_4) rfl k) ?_
  show Wlk p.tables e below (T1.setTop (mkF m 5 #[.val (.ref a), .val (.int (1 : Int32))] [(.int (1 : Int32)), (.ref rf)])) K
  refine Wlk.of (fun _ k => XS.iconst X1.here hx rfl (hb hby dR0_5) k) ?_
  show Wlk p.tables e below (T1.setTop (mkF m 6 #[.val (.ref a), .val (.int (1 : Int32))] [(.int (1 : Int32)), (.int (1 : Int32)), (.ref rf)])) K
  refine Wlk.of (fun _ k => XS.isub X1.here hx rfl (hb hby dR0_6) rfl k) ?_
  show Wlk p.tables e below (T1.setTop (mkF m 7 #[.val (.ref a), .val (.int (1 : Int32))] [(.int (0 : Int32)), (.ref rf)])) K
  refine Wlk.of (fun _ k => ldD X1 hx hZ e1 A_rf (j := (0 : Int32)) (i := 0) (by decide) (by decide) rfl (g := (mkF m 7 #[.val (.ref a), .val (.int (1 : Int32))] [(.int (0 : Int32)), (.ref rf)])) rfl rfl (hb hby dR0_7) _ k) ?_
  show Wlk p.tables e below (T1.setTop (mkF m 8 #[.val (.ref a), .val (.int (1 : Int32))] [(.double u0)])) K
  refine hK (some (.double u0)) X1 (fun q => by cases q) (fun fs hr => retOut X1 hx hret rfl (Or.inr (Or.inr (Or.inl ⟨rfl, rfl, _, rfl⟩))) (hb hby dR0_8) hr) ?_ (by decide) (by decide)
  rw [show T1.heap = h0 from e1]
  exact ⟨rfl, N0, rfl⟩
theorem dV0_0 : decode prog_4_method_6_code 0 = .ok (.aload_n 0, 1) := by decide +kernel
theorem dV0_1 : decode prog_4_method_6_code 1 = .ok (.getfield 16, 3) := by decide +kernel
theorem dV0_4 : decode prog_4_method_6_code 4 = .ok (.iload_n 1, 1) := by decide +kernel
theorem dV0_5 : decode prog_4_method_6_code 5 = .ok (.daload, 1) := by decide +kernel
theorem dV0_6 : decode prog_4_method_6_code 6 = .ok (.dreturn, 1) := by decide +kernel
theorem ef_rmV0 (m : MethodId) (a : Addr) : entryFrame m #[(.ref a), (.int (1 : Int32))] 2 = mkF m 0 #[.val (.ref a), .val (.int (1 : Int32))] [] := by first | (simp [entryFrame, mkF, argsToLocals, Value.category]; done) | rfl
def Q_rmV0 (Z : State) (a : Addr) (rv : Addr) (r0 : UInt64) (r1 : UInt64) (r2 : UInt64) (r3 : UInt64) (h0 : Heap) (n0 : Nat) (v : Option Value) (h : Heap) (L : List Loc) : Prop := v = (some (.double r1)) ∧ Fr n0 L ∧ h = h0
set_option maxRecDepth 65536 in
set_option maxHeartbeats 40000000 in
theorem rmV0 (l : Launch) (Z : State) (a0 : Array Value) (hw : ∀ d ∈ tables_1, d.before a0 Z = true) (a : Addr) (rv : Addr) (r0 : UInt64) (r1 : UInt64) (r2 : UInt64) (r3 : UInt64) (h0 : Heap) (n0 : Nat) (Z0 : n0 ≤ h0.size) (F_a_residualVariances : Fld Z h0 a "lagwise/estimators/ArRecursion" "residualVariances" "[D" (.ref rv)) (A_rv : Arl Z h0 rv .double [(.double r0), (.double r1), (.double r2), (.double r3)]) :
    Ctr l Z h0 (⟨"lagwise/estimators/ArRecursion", "residualVariance", "(I)D"⟩ : MethodName) prog_4_method_6_code 2 (some .double) [] ({ frames := 0, cells := 0, slots := 0, locals := 0 } : Room) #[(.ref a), (.int (1 : Int32))] (Q_rmV0 Z a rv r0 r1 r2 r3 h0 n0) := by
  refine Ctr.make (plainFor_of_name pn_22) fun p e s m below meth c s₁ K hret hml hx hby hown hnm hZ X0 e0 hK => ?_
  have hown : s.vm.findClass "lagwise/estimators/ArRecursion" = some m.cls := hown
  have N0 := Fr.nil n0
  have K0 : Keep h0 h0 [] := Keep.refl _ _
  refine Wlk.of (fun _ k => castTop (ef_rmV0 m a) k) ?_
  show Wlk p.tables e below (s₁.setTop (mkF m 0 #[.val (.ref a), .val (.int (1 : Int32))] [])) K
  refine Wlk.of (fun _ k => XS.aloadN X0.here hx rfl (hb hby dV0_0) rfl rfl k) ?_
  show Wlk p.tables e below (s₁.setTop (mkF m 1 #[.val (.ref a), .val (.int (1 : Int32))] [(.ref a)])) K
  obtain ⟨T1, X1, e1, st1⟩ := getF X0 hx hZ hown (host := "") (Or.inl (hw _ (List.mem_of_getElem? (i := 15) rfl))) Via.refl e0 F_a_residualVariances (g := (mkF m 1 #[.val (.ref a), .val (.int (1 : Int32))] [(.ref a)])) rfl rfl (hb hby dV0_1)
  refine Wlk.of (fun _ k => st1 _ k) ?_
  show Wlk p.tables e below (T1.setTop (mkF m 4 #[.val (.ref a), .val (.int (1 : Int32))] [(.ref rv)])) K
  refine Wlk.of (fun _ k => XS.iloadN X1.here hx rfl (hb hby dV0_4) rfl k) ?_
  show Wlk p.tables e below (T1.setTop (mkF m 5 #[.val (.ref a), .val (.int (1 : Int32))] [(.int (1 : Int32)), (.ref rv)])) K
  refine Wlk.of (fun _ k => ldD X1 hx hZ e1 A_rv (j := (1 : Int32)) (i := 1) (by decide) (by decide) rfl (g := (mkF m 5 #[.val (.ref a), .val (.int (1 : Int32))] [(.int (1 : Int32)), (.ref rv)])) rfl rfl (hb hby dV0_5) _ k) ?_
  show Wlk p.tables e below (T1.setTop (mkF m 6 #[.val (.ref a), .val (.int (1 : Int32))] [(.double r1)])) K
  refine hK (some (.double r1)) X1 (fun q => by cases q) (fun fs hr => retOut X1 hx hret rfl (Or.inr (Or.inr (Or.inl ⟨rfl, rfl, _, rfl⟩))) (hb hby dV0_6) hr) ?_ (by decide) (by decide)
  rw [show T1.heap = h0 from e1]
  exact ⟨rfl, N0, rfl⟩
theorem dR1_0 : decode prog_4_method_5_code 0 = .ok (.aload_n 0, 1) := by decide +kernel
theorem dR1_1 : decode prog_4_method_5_code 1 = .ok (.getfield 13, 3) := by decide +kernel
theorem dR1_4 : decode prog_4_method_5_code 4 = .ok (.iload_n 1, 1) := by decide +kernel
theorem dR1_5 : decode prog_4_method_5_code 5 = .ok (.iconst 1, 1) := by decide +kernel
theorem dR1_6 : decode prog_4_method_5_code 6 = .ok (.isub, 1) := by decide +kernel
theorem dR1_7 : decode prog_4_method_5_code 7 = .ok (.daload, 1) := by decide +kernel
theorem dR1_8 : decode prog_4_method_5_code 8 = .ok (.dreturn, 1) := by decide +kernel
theorem ef_rmR1 (m : MethodId) (a : Addr) : entryFrame m #[(.ref a), (.int (2 : Int32))] 2 = mkF m 0 #[.val (.ref a), .val (.int (2 : Int32))] [] := by first | (simp [entryFrame, mkF, argsToLocals, Value.category]; done) | rfl
def Q_rmR1 (Z : State) (a : Addr) (rf : Addr) (u0 : UInt64) (u1 : UInt64) (u2 : UInt64) (h0 : Heap) (n0 : Nat) (v : Option Value) (h : Heap) (L : List Loc) : Prop := v = (some (.double u1)) ∧ Fr n0 L ∧ h = h0
set_option maxRecDepth 65536 in
set_option maxHeartbeats 40000000 in
theorem rmR1 (l : Launch) (Z : State) (a0 : Array Value) (hw : ∀ d ∈ tables_1, d.before a0 Z = true) (a : Addr) (rf : Addr) (u0 : UInt64) (u1 : UInt64) (u2 : UInt64) (h0 : Heap) (n0 : Nat) (Z0 : n0 ≤ h0.size) (F_a_reflections : Fld Z h0 a "lagwise/estimators/ArRecursion" "reflections" "[D" (.ref rf)) (A_rf : Arl Z h0 rf .double [(.double u0), (.double u1), (.double u2)]) :
    Ctr l Z h0 (⟨"lagwise/estimators/ArRecursion", "reflection", "(I)D"⟩ : MethodName) prog_4_method_5_code 2 (some .double) [] ({ frames := 0, cells := 0, slots := 0, locals := 0 } : Room) #[(.ref a), (.int (2 : Int32))] (Q_rmR1 Z a rf u0 u1 u2 h0 n0) := by
  refine Ctr.make (plainFor_of_name pn_22) fun p e s m below meth c s₁ K hret hml hx hby hown hnm hZ X0 e0 hK => ?_
  have hown : s.vm.findClass "lagwise/estimators/ArRecursion" = some m.cls := hown
  have N0 := Fr.nil n0
  have K0 : Keep h0 h0 [] := Keep.refl _ _
  refine Wlk.of (fun _ k => castTop (ef_rmR1 m a) k) ?_
  show Wlk p.tables e below (s₁.setTop (mkF m 0 #[.val (.ref a), .val (.int (2 : Int32))] [])) K
  refine Wlk.of (fun _ k => XS.aloadN X0.here hx rfl (hb hby dR1_0) rfl rfl k) ?_
  show Wlk p.tables e below (s₁.setTop (mkF m 1 #[.val (.ref a), .val (.int (2 : Int32))] [(.ref a)])) K
  obtain ⟨T1, X1, e1, st1⟩ := getF X0 hx hZ hown (host := "") (Or.inl (hw _ (List.mem_of_getElem? (i := 13) rfl))) Via.refl e0 F_a_reflections (g := (mkF m 1 #[.val (.ref a), .val (.int (2 : Int32))] [(.ref a)])) rfl rfl (hb hby dR1_1)
  refine Wlk.of (fun _ k => st1 _ k) ?_
  show Wlk p.tables e below (T1.setTop (mkF m 4 #[.val (.ref a), .val (.int (2 : Int32))] [(.ref rf)])) K
  refine Wlk.of (fun _ k => XS.iloadN X1.here hx rfl (hb hby dR1_4) rfl k) ?_
  show Wlk p.tables e below (T1.setTop (mkF m 5 #[.val (.ref a), .val (.int (2 : Int32))] [(.int (2 : Int32)), (.ref rf)])) K
  refine Wlk.of (fun _ k => XS.iconst X1.here hx rfl (hb hby dR1_5) k) ?_
  show Wlk p.tables e below (T1.setTop (mkF m 6 #[.val (.ref a), .val (.int (2 : Int32))] [(.int (1 : Int32)), (.int (2 : Int32)), (.ref rf)])) K
  refine Wlk.of (fun _ k => XS.isub X1.here hx rfl (hb hby dR1_6) rfl k) ?_
  show Wlk p.tables e below (T1.setTop (mkF m 7 #[.val (.ref a), .val (.int (2 : Int32))] [(.int (1 : Int32)), (.ref rf)])) K
  refine Wlk.of (fun _ k => ldD X1 hx hZ e1 A_rf (j := (1 : Int32)) (i := 1) (by decide) (by decide) rfl (g := (mkF m 7 #[.val (.ref a), .val (.int (2 : Int32))] [(.int (1 : Int32)), (.ref rf)])) rfl rfl (hb hby dR1_7) _ k) ?_
  show Wlk p.tables e below (T1.setTop (mkF m 8 #[.val (.ref a), .val (.int (2 : Int32))] [(.double u1)])) K
  refine hK (some (.double u1)) X1 (fun q => by cases q) (fun fs hr => retOut X1 hx hret rfl (Or.inr (Or.inr (Or.inl ⟨rfl, rfl, _, rfl⟩))) (hb hby dR1_8) hr) ?_ (by decide) (by decide)
  rw [show T1.heap = h0 from e1]
  exact ⟨rfl, N0, rfl⟩
theorem dV1_0 : decode prog_4_method_6_code 0 = .ok (.aload_n 0, 1) := by decide +kernel
theorem dV1_1 : decode prog_4_method_6_code 1 = .ok (.getfield 16, 3) := by decide +kernel
theorem dV1_4 : decode prog_4_method_6_code 4 = .ok (.iload_n 1, 1) := by decide +kernel
theorem dV1_5 : decode prog_4_method_6_code 5 = .ok (.daload, 1) := by decide +kernel
theorem dV1_6 : decode prog_4_method_6_code 6 = .ok (.dreturn, 1) := by decide +kernel
theorem ef_rmV1 (m : MethodId) (a : Addr) : entryFrame m #[(.ref a), (.int (2 : Int32))] 2 = mkF m 0 #[.val (.ref a), .val (.int (2 : Int32))] [] := by first | (simp [entryFrame, mkF, argsToLocals, Value.category]; done) | rfl
def Q_rmV1 (Z : State) (a : Addr) (rv : Addr) (r0 : UInt64) (r1 : UInt64) (r2 : UInt64) (r3 : UInt64) (h0 : Heap) (n0 : Nat) (v : Option Value) (h : Heap) (L : List Loc) : Prop := v = (some (.double r2)) ∧ Fr n0 L ∧ h = h0
set_option maxRecDepth 65536 in
set_option maxHeartbeats 40000000 in
theorem rmV1 (l : Launch) (Z : State) (a0 : Array Value) (hw : ∀ d ∈ tables_1, d.before a0 Z = true) (a : Addr) (rv : Addr) (r0 : UInt64) (r1 : UInt64) (r2 : UInt64) (r3 : UInt64) (h0 : Heap) (n0 : Nat) (Z0 : n0 ≤ h0.size) (F_a_residualVariances : Fld Z h0 a "lagwise/estimators/ArRecursion" "residualVariances" "[D" (.ref rv)) (A_rv : Arl Z h0 rv .double [(.double r0), (.double r1), (.double r2), (.double r3)]) :
    Ctr l Z h0 (⟨"lagwise/estimators/ArRecursion", "residualVariance", "(I)D"⟩ : MethodName) prog_4_method_6_code 2 (some .double) [] ({ frames := 0, cells := 0, slots := 0, locals := 0 } : Room) #[(.ref a), (.int (2 : Int32))] (Q_rmV1 Z a rv r0 r1 r2 r3 h0 n0) := by
  refine Ctr.make (plainFor_of_name pn_22) fun p e s m below meth c s₁ K hret hml hx hby hown hnm hZ X0 e0 hK => ?_
  have hown : s.vm.findClass "lagwise/estimators/ArRecursion" = some m.cls := hown
  have N0 := Fr.nil n0
  have K0 : Keep h0 h0 [] := Keep.refl _ _
  refine Wlk.of (fun _ k => castTop (ef_rmV1 m a) k) ?_
  show Wlk p.tables e below (s₁.setTop (mkF m 0 #[.val (.ref a), .val (.int (2 : Int32))] [])) K
  refine Wlk.of (fun _ k => XS.aloadN X0.here hx rfl (hb hby dV1_0) rfl rfl k) ?_
  show Wlk p.tables e below (s₁.setTop (mkF m 1 #[.val (.ref a), .val (.int (2 : Int32))] [(.ref a)])) K
  obtain ⟨T1, X1, e1, st1⟩ := getF X0 hx hZ hown (host := "") (Or.inl (hw _ (List.mem_of_getElem? (i := 15) rfl))) Via.refl e0 F_a_residualVariances (g := (mkF m 1 #[.val (.ref a), .val (.int (2 : Int32))] [(.ref a)])) rfl rfl (hb hby dV1_1)
  refine Wlk.of (fun _ k => st1 _ k) ?_
  show Wlk p.tables e below (T1.setTop (mkF m 4 #[.val (.ref a), .val (.int (2 : Int32))] [(.ref rv)])) K
  refine Wlk.of (fun _ k => XS.iloadN X1.here hx rfl (hb hby dV1_4) rfl k) ?_
  show Wlk p.tables e below (T1.setTop (mkF m 5 #[.val (.ref a), .val (.int (2 : Int32))] [(.int (2 : Int32)), (.ref rv)])) K
  refine Wlk.of (fun _ k => ldD X1 hx hZ e1 A_rv (j := (2 : Int32)) (i := 2) (by decide) (by decide) rfl (g := (mkF m 5 #[.val (.ref a), .val (.int (2 : Int32))] [(.int (2 : Int32)), (.ref rv)])) rfl rfl (hb hby dV1_5) _ k) ?_
  show Wlk p.tables e below (T1.setTop (mkF m 6 #[.val (.ref a), .val (.int (2 : Int32))] [(.double r2)])) K
  refine hK (some (.double r2)) X1 (fun q => by cases q) (fun fs hr => retOut X1 hx hret rfl (Or.inr (Or.inr (Or.inl ⟨rfl, rfl, _, rfl⟩))) (hb hby dV1_6) hr) ?_ (by decide) (by decide)
  rw [show T1.heap = h0 from e1]
  exact ⟨rfl, N0, rfl⟩
theorem dR2_0 : decode prog_4_method_5_code 0 = .ok (.aload_n 0, 1) := by decide +kernel
theorem dR2_1 : decode prog_4_method_5_code 1 = .ok (.getfield 13, 3) := by decide +kernel
theorem dR2_4 : decode prog_4_method_5_code 4 = .ok (.iload_n 1, 1) := by decide +kernel
theorem dR2_5 : decode prog_4_method_5_code 5 = .ok (.iconst 1, 1) := by decide +kernel
theorem dR2_6 : decode prog_4_method_5_code 6 = .ok (.isub, 1) := by decide +kernel
theorem dR2_7 : decode prog_4_method_5_code 7 = .ok (.daload, 1) := by decide +kernel
theorem dR2_8 : decode prog_4_method_5_code 8 = .ok (.dreturn, 1) := by decide +kernel
theorem ef_rmR2 (m : MethodId) (a : Addr) : entryFrame m #[(.ref a), (.int (3 : Int32))] 2 = mkF m 0 #[.val (.ref a), .val (.int (3 : Int32))] [] := by first | (simp [entryFrame, mkF, argsToLocals, Value.category]; done) | rfl
def Q_rmR2 (Z : State) (a : Addr) (rf : Addr) (u0 : UInt64) (u1 : UInt64) (u2 : UInt64) (h0 : Heap) (n0 : Nat) (v : Option Value) (h : Heap) (L : List Loc) : Prop := v = (some (.double u2)) ∧ Fr n0 L ∧ h = h0
set_option maxRecDepth 65536 in
set_option maxHeartbeats 40000000 in
theorem rmR2 (l : Launch) (Z : State) (a0 : Array Value) (hw : ∀ d ∈ tables_1, d.before a0 Z = true) (a : Addr) (rf : Addr) (u0 : UInt64) (u1 : UInt64) (u2 : UInt64) (h0 : Heap) (n0 : Nat) (Z0 : n0 ≤ h0.size) (F_a_reflections : Fld Z h0 a "lagwise/estimators/ArRecursion" "reflections" "[D" (.ref rf)) (A_rf : Arl Z h0 rf .double [(.double u0), (.double u1), (.double u2)]) :
    Ctr l Z h0 (⟨"lagwise/estimators/ArRecursion", "reflection", "(I)D"⟩ : MethodName) prog_4_method_5_code 2 (some .double) [] ({ frames := 0, cells := 0, slots := 0, locals := 0 } : Room) #[(.ref a), (.int (3 : Int32))] (Q_rmR2 Z a rf u0 u1 u2 h0 n0) := by
  refine Ctr.make (plainFor_of_name pn_22) fun p e s m below meth c s₁ K hret hml hx hby hown hnm hZ X0 e0 hK => ?_
  have hown : s.vm.findClass "lagwise/estimators/ArRecursion" = some m.cls := hown
  have N0 := Fr.nil n0
  have K0 : Keep h0 h0 [] := Keep.refl _ _
  refine Wlk.of (fun _ k => castTop (ef_rmR2 m a) k) ?_
  show Wlk p.tables e below (s₁.setTop (mkF m 0 #[.val (.ref a), .val (.int (3 : Int32))] [])) K
  refine Wlk.of (fun _ k => XS.aloadN X0.here hx rfl (hb hby dR2_0) rfl rfl k) ?_
  show Wlk p.tables e below (s₁.setTop (mkF m 1 #[.val (.ref a), .val (.int (3 : Int32))] [(.ref a)])) K
  obtain ⟨T1, X1, e1, st1⟩ := getF X0 hx hZ hown (host := "") (Or.inl (hw _ (List.mem_of_getElem? (i := 13) rfl))) Via.refl e0 F_a_reflections (g := (mkF m 1 #[.val (.ref a), .val (.int (3 : Int32))] [(.ref a)])) rfl rfl (hb hby dR2_1)
  refine Wlk.of (fun _ k => st1 _ k) ?_
  show Wlk p.tables e below (T1.setTop (mkF m 4 #[.val (.ref a), .val (.int (3 : Int32))] [(.ref rf)])) K
  refine Wlk.of (fun _ k => XS.iloadN X1.here hx rfl (hb hby dR2_4) rfl k) ?_
  show Wlk p.tables e below (T1.setTop (mkF m 5 #[.val (.ref a), .val (.int (3 : Int32))] [(.int (3 : Int32)), (.ref rf)])) K
  refine Wlk.of (fun _ k => XS.iconst X1.here hx rfl (hb hby dR2_5) k) ?_
  show Wlk p.tables e below (T1.setTop (mkF m 6 #[.val (.ref a), .val (.int (3 : Int32))] [(.int (1 : Int32)), (.int (3 : Int32)), (.ref rf)])) K
  refine Wlk.of (fun _ k => XS.isub X1.here hx rfl (hb hby dR2_6) rfl k) ?_
  show Wlk p.tables e below (T1.setTop (mkF m 7 #[.val (.ref a), .val (.int (3 : Int32))] [(.int (2 : Int32)), (.ref rf)])) K
  refine Wlk.of (fun _ k => ldD X1 hx hZ e1 A_rf (j := (2 : Int32)) (i := 2) (by decide) (by decide) rfl (g := (mkF m 7 #[.val (.ref a), .val (.int (3 : Int32))] [(.int (2 : Int32)), (.ref rf)])) rfl rfl (hb hby dR2_7) _ k) ?_
  show Wlk p.tables e below (T1.setTop (mkF m 8 #[.val (.ref a), .val (.int (3 : Int32))] [(.double u2)])) K
  refine hK (some (.double u2)) X1 (fun q => by cases q) (fun fs hr => retOut X1 hx hret rfl (Or.inr (Or.inr (Or.inl ⟨rfl, rfl, _, rfl⟩))) (hb hby dR2_8) hr) ?_ (by decide) (by decide)
  rw [show T1.heap = h0 from e1]
  exact ⟨rfl, N0, rfl⟩
theorem dV2_0 : decode prog_4_method_6_code 0 = .ok (.aload_n 0, 1) := by decide +kernel
theorem dV2_1 : decode prog_4_method_6_code 1 = .ok (.getfield 16, 3) := by decide +kernel
theorem dV2_4 : decode prog_4_method_6_code 4 = .ok (.iload_n 1, 1) := by decide +kernel
theorem dV2_5 : decode prog_4_method_6_code 5 = .ok (.daload, 1) := by decide +kernel
theorem dV2_6 : decode prog_4_method_6_code 6 = .ok (.dreturn, 1) := by decide +kernel
theorem ef_rmV2 (m : MethodId) (a : Addr) : entryFrame m #[(.ref a), (.int (3 : Int32))] 2 = mkF m 0 #[.val (.ref a), .val (.int (3 : Int32))] [] := by first | (simp [entryFrame, mkF, argsToLocals, Value.category]; done) | rfl
def Q_rmV2 (Z : State) (a : Addr) (rv : Addr) (r0 : UInt64) (r1 : UInt64) (r2 : UInt64) (r3 : UInt64) (h0 : Heap) (n0 : Nat) (v : Option Value) (h : Heap) (L : List Loc) : Prop := v = (some (.double r3)) ∧ Fr n0 L ∧ h = h0
set_option maxRecDepth 65536 in
set_option maxHeartbeats 40000000 in
theorem rmV2 (l : Launch) (Z : State) (a0 : Array Value) (hw : ∀ d ∈ tables_1, d.before a0 Z = true) (a : Addr) (rv : Addr) (r0 : UInt64) (r1 : UInt64) (r2 : UInt64) (r3 : UInt64) (h0 : Heap) (n0 : Nat) (Z0 : n0 ≤ h0.size) (F_a_residualVariances : Fld Z h0 a "lagwise/estimators/ArRecursion" "residualVariances" "[D" (.ref rv)) (A_rv : Arl Z h0 rv .double [(.double r0), (.double r1), (.double r2), (.double r3)]) :
    Ctr l Z h0 (⟨"lagwise/estimators/ArRecursion", "residualVariance", "(I)D"⟩ : MethodName) prog_4_method_6_code 2 (some .double) [] ({ frames := 0, cells := 0, slots := 0, locals := 0 } : Room) #[(.ref a), (.int (3 : Int32))] (Q_rmV2 Z a rv r0 r1 r2 r3 h0 n0) := by
  refine Ctr.make (plainFor_of_name pn_22) fun p e s m below meth c s₁ K hret hml hx hby hown hnm hZ X0 e0 hK => ?_
  have hown : s.vm.findClass "lagwise/estimators/ArRecursion" = some m.cls := hown
  have N0 := Fr.nil n0
  have K0 : Keep h0 h0 [] := Keep.refl _ _
  refine Wlk.of (fun _ k => castTop (ef_rmV2 m a) k) ?_
  show Wlk p.tables e below (s₁.setTop (mkF m 0 #[.val (.ref a), .val (.int (3 : Int32))] [])) K
  refine Wlk.of (fun _ k => XS.aloadN X0.here hx rfl (hb hby dV2_0) rfl rfl k) ?_
  show Wlk p.tables e below (s₁.setTop (mkF m 1 #[.val (.ref a), .val (.int (3 : Int32))] [(.ref a)])) K
  obtain ⟨T1, X1, e1, st1⟩ := getF X0 hx hZ hown (host := "") (Or.inl (hw _ (List.mem_of_getElem? (i := 15) rfl))) Via.refl e0 F_a_residualVariances (g := (mkF m 1 #[.val (.ref a), .val (.int (3 : Int32))] [(.ref a)])) rfl rfl (hb hby dV2_1)
  refine Wlk.of (fun _ k => st1 _ k) ?_
  show Wlk p.tables e below (T1.setTop (mkF m 4 #[.val (.ref a), .val (.int (3 : Int32))] [(.ref rv)])) K
  refine Wlk.of (fun _ k => XS.iloadN X1.here hx rfl (hb hby dV2_4) rfl k) ?_
  show Wlk p.tables e below (T1.setTop (mkF m 5 #[.val (.ref a), .val (.int (3 : Int32))] [(.int (3 : Int32)), (.ref rv)])) K
  refine Wlk.of (fun _ k => ldD X1 hx hZ e1 A_rv (j := (3 : Int32)) (i := 3) (by decide) (by decide) rfl (g := (mkF m 5 #[.val (.ref a), .val (.int (3 : Int32))] [(.int (3 : Int32)), (.ref rv)])) rfl rfl (hb hby dV2_5) _ k) ?_
  show Wlk p.tables e below (T1.setTop (mkF m 6 #[.val (.ref a), .val (.int (3 : Int32))] [(.double r3)])) K
  refine hK (some (.double r3)) X1 (fun q => by cases q) (fun fs hr => retOut X1 hx hret rfl (Or.inr (Or.inr (Or.inl ⟨rfl, rfl, _, rfl⟩))) (hb hby dV2_6) hr) ?_ (by decide) (by decide)
  rw [show T1.heap = h0 from e1]
  exact ⟨rfl, N0, rfl⟩
theorem pd_281 : parseMethodDescriptor "(DI)V" = some ⟨[.double, .int], none⟩ := by decide +kernel
theorem pd_282 : parseMethodDescriptor "(D)V" = some ⟨[.double], none⟩ := by decide +kernel
theorem pd_283 : parseMethodDescriptor "()[D" = some ⟨[], some (.array .double)⟩ := by decide +kernel
theorem pd_284 : parseMethodDescriptor "(I)D" = some ⟨[.int], some .double⟩ := by decide +kernel
theorem pn_285 : plainName "lagwise/estimators/ArRecursionAddPinLaw" = true := by first | (simp [plainName, overriddenIn]; done) | decide +kernel
theorem ef_rm0 (m : MethodId) (p1 : Int32) (p2 : Int32) (p3 : Int32) (p4 : Int32) : entryFrame m #[(.int p1), (.int p2), (.int p3), (.int p4)] maxLocals = mkF m 0 #[.val (.int p1), .val (.int p2), .val (.int p3), .val (.int p4), .unset, .unset, .unset, .unset, .unset, .unset, .unset, .unset, .unset, .unset, .unset, .unset, .unset, .unset, .unset, .unset, .unset, .unset, .unset, .unset, .unset, .unset, .unset, .unset, .unset, .unset, .unset, .unset] [] := by first | (simp [entryFrame, mkF, argsToLocals, Value.category, maxLocals]; done) | rfl
def Q_rm0 (Z : State) (p1 : Int32) (p2 : Int32) (p3 : Int32) (p4 : Int32) (h0 : Heap) (n0 : Nat) (v : Option Value) (h : Heap) (L : List Loc) : Prop := v = (some (.int (1 : Int32))) ∧ Fr n0 L
set_option maxRecDepth 65536 in
set_option maxHeartbeats 40000000 in
theorem rm0 (l : Launch) (Z : State) (a0 : Array Value) (hw : ∀ d ∈ tables_1, d.before a0 Z = true) (ws : List Jvm.Cond) (p1 : Int32) (p2 : Int32) (p3 : Int32) (p4 : Int32) (h0 : Heap) (n0 : Nat) (Z0 : n0 ≤ h0.size) :
    Ctr l Z h0 x code maxLocals ret ws room_1 #[(.int p1), (.int p2), (.int p3), (.int p4)] (Q_rm0 Z p1 p2 p3 p4 h0 n0) := by
  refine Ctr.make (plainFor_of_name pn_285) fun p e s m below meth c s₁ K hret hml hx hby hown hnm hZ X0 e0 hK => ?_
  have hown : s.vm.findClass "lagwise/estimators/ArRecursionAddPinLaw" = some m.cls := hown
  have hml : c.maxLocals = 32 := hml
  have N0 := Fr.nil n0
  have K0 : Keep h0 h0 [] := Keep.refl _ _
  refine Wlk.of (fun _ k => castTop (ef_rm0 m p1 p2 p3 p4) k) ?_
  show Wlk p.tables e below (s₁.setTop (mkF m 0 #[.val (.int p1), .val (.int p2), .val (.int p3), .val (.int p4), .unset, .unset, .unset, .unset, .unset, .unset, .unset, .unset, .unset, .unset, .unset, .unset, .unset, .unset, .unset, .unset, .unset, .unset, .unset, .unset, .unset, .unset, .unset, .unset, .unset, .unset, .unset, .unset] [])) K
  refine Wlk.of (fun _ k => XS.iloadN X0.here hx rfl (hb hby at_0) rfl k) ?_
  show Wlk p.tables e below (s₁.setTop (mkF m 1 #[.val (.int p1), .val (.int p2), .val (.int p3), .val (.int p4), .unset, .unset, .unset, .unset, .unset, .unset, .unset, .unset, .unset, .unset, .unset, .unset, .unset, .unset, .unset, .unset, .unset, .unset, .unset, .unset, .unset, .unset, .unset, .unset, .unset, .unset, .unset, .unset] [(.int p2)])) K
  refine Wlk.of (fun _ k => XS.bipush X0.here hx rfl (hb hby at_1) k) ?_
  show Wlk p.tables e below (s₁.setTop (mkF m 3 #[.val (.int p1), .val (.int p2), .val (.int p3), .val (.int p4), .unset, .unset, .unset, .unset, .unset, .unset, .unset, .unset, .unset, .unset, .unset, .unset, .unset, .unset, .unset, .unset, .unset, .unset, .unset, .unset, .unset, .unset, .unset, .unset, .unset, .unset, .unset, .unset] [(.int (9 : Int32)), (.int p2)])) K
  refine Wlk.of (fun _ k => iremM X0 hx rfl (hb hby at_3) rfl (by decide) k) ?_
  show Wlk p.tables e below (s₁.setTop (mkF m 4 #[.val (.int p1), .val (.int p2), .val (.int p3), .val (.int p4), .unset, .unset, .unset, .unset, .unset, .unset, .unset, .unset, .unset, .unset, .unset, .unset, .unset, .unset, .unset, .unset, .unset, .unset, .unset, .unset, .unset, .unset, .unset, .unset, .unset, .unset, .unset, .unset] [(.int (p2 % (9 : Int32)))])) K
  refine Wlk.of (fun _ k => XS.istore X0.here hx rfl (hb hby at_4) rfl (l' := #[.val (.int p1), .val (.int p2), .val (.int p3), .val (.int p4), .val (.int (p2 % (9 : Int32))), .unset, .unset, .unset, .unset, .unset, .unset, .unset, .unset, .unset, .unset, .unset, .unset, .unset, .unset, .unset, .unset, .unset, .unset, .unset, .unset, .unset, .unset, .unset, .unset, .unset, .unset, .unset]) rfl k) ?_
  show Wlk p.tables e below (s₁.setTop (mkF m 6 #[.val (.int p1), .val (.int p2), .val (.int p3), .val (.int p4), .val (.int (p2 % (9 : Int32))), .unset, .unset, .unset, .unset, .unset, .unset, .unset, .unset, .unset, .unset, .unset, .unset, .unset, .unset, .unset, .unset, .unset, .unset, .unset, .unset, .unset, .unset, .unset, .unset, .unset, .unset, .unset] [])) K
  generalize hv1 : (p2 % (9 : Int32)) = v1
  refine Wlk.of (fun _ k => XS.iloadN X0.here hx rfl (hb hby at_6) rfl k) ?_
  show Wlk p.tables e below (s₁.setTop (mkF m 7 #[.val (.int p1), .val (.int p2), .val (.int p3), .val (.int p4), .val (.int v1), .unset, .unset, .unset, .unset, .unset, .unset, .unset, .unset, .unset, .unset, .unset, .unset, .unset, .unset, .unset, .unset, .unset, .unset, .unset, .unset, .unset, .unset, .unset, .unset, .unset, .unset, .unset] [(.int p3)])) K
  refine Wlk.of (fun _ k => XS.bipush X0.here hx rfl (hb hby at_7) k) ?_
  show Wlk p.tables e below (s₁.setTop (mkF m 9 #[.val (.int p1), .val (.int p2), .val (.int p3), .val (.int p4), .val (.int v1), .unset, .unset, .unset, .unset, .unset, .unset, .unset, .unset, .unset, .unset, .unset, .unset, .unset, .unset, .unset, .unset, .unset, .unset, .unset, .unset, .unset, .unset, .unset, .unset, .unset, .unset, .unset] [(.int (9 : Int32)), (.int p3)])) K
  refine Wlk.of (fun _ k => iremM X0 hx rfl (hb hby at_9) rfl (by decide) k) ?_
  show Wlk p.tables e below (s₁.setTop (mkF m 10 #[.val (.int p1), .val (.int p2), .val (.int p3), .val (.int p4), .val (.int v1), .unset, .unset, .unset, .unset, .unset, .unset, .unset, .unset, .unset, .unset, .unset, .unset, .unset, .unset, .unset, .unset, .unset, .unset, .unset, .unset, .unset, .unset, .unset, .unset, .unset, .unset, .unset] [(.int (p3 % (9 : Int32)))])) K
  refine Wlk.of (fun _ k => XS.istore X0.here hx rfl (hb hby at_10) rfl (l' := #[.val (.int p1), .val (.int p2), .val (.int p3), .val (.int p4), .val (.int v1), .val (.int (p3 % (9 : Int32))), .unset, .unset, .unset, .unset, .unset, .unset, .unset, .unset, .unset, .unset, .unset, .unset, .unset, .unset, .unset, .unset, .unset, .unset, .unset, .unset, .unset, .unset, .unset, .unset, .unset, .unset]) rfl k) ?_
  show Wlk p.tables e below (s₁.setTop (mkF m 12 #[.val (.int p1), .val (.int p2), .val (.int p3), .val (.int p4), .val (.int v1), .val (.int (p3 % (9 : Int32))), .unset, .unset, .unset, .unset, .unset, .unset, .unset, .unset, .unset, .unset, .unset, .unset, .unset, .unset, .unset, .unset, .unset, .unset, .unset, .unset, .unset, .unset, .unset, .unset, .unset, .unset] [])) K
  generalize hv2 : (p3 % (9 : Int32)) = v2
  refine Wlk.of (fun _ k => XS.iloadN X0.here hx rfl (hb hby at_12) rfl k) ?_
  show Wlk p.tables e below (s₁.setTop (mkF m 13 #[.val (.int p1), .val (.int p2), .val (.int p3), .val (.int p4), .val (.int v1), .val (.int v2), .unset, .unset, .unset, .unset, .unset, .unset, .unset, .unset, .unset, .unset, .unset, .unset, .unset, .unset, .unset, .unset, .unset, .unset, .unset, .unset, .unset, .unset, .unset, .unset, .unset, .unset] [(.int p4)])) K
  refine Wlk.of (fun _ k => XS.bipush X0.here hx rfl (hb hby at_13) k) ?_
  show Wlk p.tables e below (s₁.setTop (mkF m 15 #[.val (.int p1), .val (.int p2), .val (.int p3), .val (.int p4), .val (.int v1), .val (.int v2), .unset, .unset, .unset, .unset, .unset, .unset, .unset, .unset, .unset, .unset, .unset, .unset, .unset, .unset, .unset, .unset, .unset, .unset, .unset, .unset, .unset, .unset, .unset, .unset, .unset, .unset] [(.int (9 : Int32)), (.int p4)])) K
  refine Wlk.of (fun _ k => iremM X0 hx rfl (hb hby at_15) rfl (by decide) k) ?_
  show Wlk p.tables e below (s₁.setTop (mkF m 16 #[.val (.int p1), .val (.int p2), .val (.int p3), .val (.int p4), .val (.int v1), .val (.int v2), .unset, .unset, .unset, .unset, .unset, .unset, .unset, .unset, .unset, .unset, .unset, .unset, .unset, .unset, .unset, .unset, .unset, .unset, .unset, .unset, .unset, .unset, .unset, .unset, .unset, .unset] [(.int (p4 % (9 : Int32)))])) K
  refine Wlk.of (fun _ k => XS.istore X0.here hx rfl (hb hby at_16) rfl (l' := #[.val (.int p1), .val (.int p2), .val (.int p3), .val (.int p4), .val (.int v1), .val (.int v2), .val (.int (p4 % (9 : Int32))), .unset, .unset, .unset, .unset, .unset, .unset, .unset, .unset, .unset, .unset, .unset, .unset, .unset, .unset, .unset, .unset, .unset, .unset, .unset, .unset, .unset, .unset, .unset, .unset, .unset]) rfl k) ?_
  show Wlk p.tables e below (s₁.setTop (mkF m 18 #[.val (.int p1), .val (.int p2), .val (.int p3), .val (.int p4), .val (.int v1), .val (.int v2), .val (.int (p4 % (9 : Int32))), .unset, .unset, .unset, .unset, .unset, .unset, .unset, .unset, .unset, .unset, .unset, .unset, .unset, .unset, .unset, .unset, .unset, .unset, .unset, .unset, .unset, .unset, .unset, .unset, .unset] [])) K
  generalize hv3 : (p4 % (9 : Int32)) = v3
  refine Wlk.of (fun _ k => XS.iload X0.here hx rfl (hb hby at_18) rfl k) ?_
  show Wlk p.tables e below (s₁.setTop (mkF m 20 #[.val (.int p1), .val (.int p2), .val (.int p3), .val (.int p4), .val (.int v1), .val (.int v2), .val (.int v3), .unset, .unset, .unset, .unset, .unset, .unset, .unset, .unset, .unset, .unset, .unset, .unset, .unset, .unset, .unset, .unset, .unset, .unset, .unset, .unset, .unset, .unset, .unset, .unset, .unset] [(.int v1)])) K
  refine Wlk.of (fun _ k => XS.i2dS X0.here hx rfl (hb hby at_20) rfl rfl k) ?_
  show Wlk p.tables e below (s₁.setTop (mkF m 21 #[.val (.int p1), .val (.int p2), .val (.int p3), .val (.int p4), .val (.int v1), .val (.int v2), .val (.int v3), .unset, .unset, .unset, .unset, .unset, .unset, .unset, .unset, .unset, .unset, .unset, .unset, .unset, .unset, .unset, .unset, .unset, .unset, .unset, .unset, .unset, .unset, .unset, .unset, .unset] [(.double (FP.i2d v1))])) K
  refine Wlk.of (fun _ k => X0.ldc2DoubleC hx hown (mvT hZ (hw _ (List.mem_of_getElem? (i := 0) rfl))) (g := (mkF m 21 #[.val (.int p1), .val (.int p2), .val (.int p3), .val (.int p4), .val (.int v1), .val (.int v2), .val (.int v3), .unset, .unset, .unset, .unset, .unset, .unset, .unset, .unset, .unset, .unset, .unset, .unset, .unset, .unset, .unset, .unset, .unset, .unset, .unset, .unset, .unset, .unset, .unset, .unset, .unset] [(.double (FP.i2d v1))])) rfl (hb hby at_21) _ k) ?_
  show Wlk p.tables e below (s₁.setTop (mkF m 24 #[.val (.int p1), .val (.int p2), .val (.int p3), .val (.int p4), .val (.int v1), .val (.int v2), .val (.int v3), .unset, .unset, .unset, .unset, .unset, .unset, .unset, .unset, .unset, .unset, .unset, .unset, .unset, .unset, .unset, .unset, .unset, .unset, .unset, .unset, .unset, .unset, .unset, .unset, .unset] [(.double (4616189618054758400 : UInt64)), (.double (FP.i2d v1))])) K
  refine Wlk.of (fun _ k => XS.ddivS X0.here hx rfl (hb hby at_24) rfl ((Db.i2d rfl (own_rem hv1)).divp 2 own_four (k2 := 2) (by decide) (by decide)).nn rfl k) ?_
  show Wlk p.tables e below (s₁.setTop (mkF m 25 #[.val (.int p1), .val (.int p2), .val (.int p3), .val (.int p4), .val (.int v1), .val (.int v2), .val (.int v3), .unset, .unset, .unset, .unset, .unset, .unset, .unset, .unset, .unset, .unset, .unset, .unset, .unset, .unset, .unset, .unset, .unset, .unset, .unset, .unset, .unset, .unset, .unset, .unset, .unset] [(.double (FP.ddiv (FP.i2d v1) (4616189618054758400 : UInt64)))])) K
  refine Wlk.of (fun _ k => XS.dstore X0.here hx rfl (hb hby at_25) rfl (l' := #[.val (.int p1), .val (.int p2), .val (.int p3), .val (.int p4), .val (.int v1), .val (.int v2), .val (.int v3), .val (.double (FP.ddiv (FP.i2d v1) (4616189618054758400 : UInt64))), .second, .unset, .unset, .unset, .unset, .unset, .unset, .unset, .unset, .unset, .unset, .unset, .unset, .unset, .unset, .unset, .unset, .unset, .unset, .unset, .unset, .unset, .unset, .unset]) rfl k) ?_
  show Wlk p.tables e below (s₁.setTop (mkF m 27 #[.val (.int p1), .val (.int p2), .val (.int p3), .val (.int p4), .val (.int v1), .val (.int v2), .val (.int v3), .val (.double (FP.ddiv (FP.i2d v1) (4616189618054758400 : UInt64))), .second, .unset, .unset, .unset, .unset, .unset, .unset, .unset, .unset, .unset, .unset, .unset, .unset, .unset, .unset, .unset, .unset, .unset, .unset, .unset, .unset, .unset, .unset, .unset] [])) K
  generalize hv4 : (FP.ddiv (FP.i2d v1) (4616189618054758400 : UInt64)) = v4
  refine Wlk.of (fun _ k => XS.iload X0.here hx rfl (hb hby at_27) rfl k) ?_
  show Wlk p.tables e below (s₁.setTop (mkF m 29 #[.val (.int p1), .val (.int p2), .val (.int p3), .val (.int p4), .val (.int v1), .val (.int v2), .val (.int v3), .val (.double v4), .second, .unset, .unset, .unset, .unset, .unset, .unset, .unset, .unset, .unset, .unset, .unset, .unset, .unset, .unset, .unset, .unset, .unset, .unset, .unset, .unset, .unset, .unset, .unset] [(.int v2)])) K
  refine Wlk.of (fun _ k => XS.i2dS X0.here hx rfl (hb hby at_29) rfl rfl k) ?_
  show Wlk p.tables e below (s₁.setTop (mkF m 30 #[.val (.int p1), .val (.int p2), .val (.int p3), .val (.int p4), .val (.int v1), .val (.int v2), .val (.int v3), .val (.double v4), .second, .unset, .unset, .unset, .unset, .unset, .unset, .unset, .unset, .unset, .unset, .unset, .unset, .unset, .unset, .unset, .unset, .unset, .unset, .unset, .unset, .unset, .unset, .unset] [(.double (FP.i2d v2))])) K
  refine Wlk.of (fun _ k => X0.ldc2DoubleC hx hown (mvT hZ (hw _ (List.mem_of_getElem? (i := 0) rfl))) (g := (mkF m 30 #[.val (.int p1), .val (.int p2), .val (.int p3), .val (.int p4), .val (.int v1), .val (.int v2), .val (.int v3), .val (.double v4), .second, .unset, .unset, .unset, .unset, .unset, .unset, .unset, .unset, .unset, .unset, .unset, .unset, .unset, .unset, .unset, .unset, .unset, .unset, .unset, .unset, .unset, .unset, .unset] [(.double (FP.i2d v2))])) rfl (hb hby at_30) _ k) ?_
  show Wlk p.tables e below (s₁.setTop (mkF m 33 #[.val (.int p1), .val (.int p2), .val (.int p3), .val (.int p4), .val (.int v1), .val (.int v2), .val (.int v3), .val (.double v4), .second, .unset, .unset, .unset, .unset, .unset, .unset, .unset, .unset, .unset, .unset, .unset, .unset, .unset, .unset, .unset, .unset, .unset, .unset, .unset, .unset, .unset, .unset, .unset] [(.double (4616189618054758400 : UInt64)), (.double (FP.i2d v2))])) K
  refine Wlk.of (fun _ k => XS.ddivS X0.here hx rfl (hb hby at_33) rfl ((Db.i2d rfl (own_rem hv2)).divp 2 own_four (k2 := 2) (by decide) (by decide)).nn rfl k) ?_
  show Wlk p.tables e below (s₁.setTop (mkF m 34 #[.val (.int p1), .val (.int p2), .val (.int p3), .val (.int p4), .val (.int v1), .val (.int v2), .val (.int v3), .val (.double v4), .second, .unset, .unset, .unset, .unset, .unset, .unset, .unset, .unset, .unset, .unset, .unset, .unset, .unset, .unset, .unset, .unset, .unset, .unset, .unset, .unset, .unset, .unset, .unset] [(.double (FP.ddiv (FP.i2d v2) (4616189618054758400 : UInt64)))])) K
  refine Wlk.of (fun _ k => XS.dstore X0.here hx rfl (hb hby at_34) rfl (l' := #[.val (.int p1), .val (.int p2), .val (.int p3), .val (.int p4), .val (.int v1), .val (.int v2), .val (.int v3), .val (.double v4), .second, .val (.double (FP.ddiv (FP.i2d v2) (4616189618054758400 : UInt64))), .second, .unset, .unset, .unset, .unset, .unset, .unset, .unset, .unset, .unset, .unset, .unset, .unset, .unset, .unset, .unset, .unset, .unset, .unset, .unset, .unset, .unset]) rfl k) ?_
  show Wlk p.tables e below (s₁.setTop (mkF m 36 #[.val (.int p1), .val (.int p2), .val (.int p3), .val (.int p4), .val (.int v1), .val (.int v2), .val (.int v3), .val (.double v4), .second, .val (.double (FP.ddiv (FP.i2d v2) (4616189618054758400 : UInt64))), .second, .unset, .unset, .unset, .unset, .unset, .unset, .unset, .unset, .unset, .unset, .unset, .unset, .unset, .unset, .unset, .unset, .unset, .unset, .unset, .unset, .unset] [])) K
  generalize hv5 : (FP.ddiv (FP.i2d v2) (4616189618054758400 : UInt64)) = v5
  refine Wlk.of (fun _ k => XS.iload X0.here hx rfl (hb hby at_36) rfl k) ?_
  show Wlk p.tables e below (s₁.setTop (mkF m 38 #[.val (.int p1), .val (.int p2), .val (.int p3), .val (.int p4), .val (.int v1), .val (.int v2), .val (.int v3), .val (.double v4), .second, .val (.double v5), .second, .unset, .unset, .unset, .unset, .unset, .unset, .unset, .unset, .unset, .unset, .unset, .unset, .unset, .unset, .unset, .unset, .unset, .unset, .unset, .unset, .unset] [(.int v3)])) K
  refine Wlk.of (fun _ k => XS.i2dS X0.here hx rfl (hb hby at_38) rfl rfl k) ?_
  show Wlk p.tables e below (s₁.setTop (mkF m 39 #[.val (.int p1), .val (.int p2), .val (.int p3), .val (.int p4), .val (.int v1), .val (.int v2), .val (.int v3), .val (.double v4), .second, .val (.double v5), .second, .unset, .unset, .unset, .unset, .unset, .unset, .unset, .unset, .unset, .unset, .unset, .unset, .unset, .unset, .unset, .unset, .unset, .unset, .unset, .unset, .unset] [(.double (FP.i2d v3))])) K
  refine Wlk.of (fun _ k => X0.ldc2DoubleC hx hown (mvT hZ (hw _ (List.mem_of_getElem? (i := 0) rfl))) (g := (mkF m 39 #[.val (.int p1), .val (.int p2), .val (.int p3), .val (.int p4), .val (.int v1), .val (.int v2), .val (.int v3), .val (.double v4), .second, .val (.double v5), .second, .unset, .unset, .unset, .unset, .unset, .unset, .unset, .unset, .unset, .unset, .unset, .unset, .unset, .unset, .unset, .unset, .unset, .unset, .unset, .unset, .unset] [(.double (FP.i2d v3))])) rfl (hb hby at_39) _ k) ?_
  show Wlk p.tables e below (s₁.setTop (mkF m 42 #[.val (.int p1), .val (.int p2), .val (.int p3), .val (.int p4), .val (.int v1), .val (.int v2), .val (.int v3), .val (.double v4), .second, .val (.double v5), .second, .unset, .unset, .unset, .unset, .unset, .unset, .unset, .unset, .unset, .unset, .unset, .unset, .unset, .unset, .unset, .unset, .unset, .unset, .unset, .unset, .unset] [(.double (4616189618054758400 : UInt64)), (.double (FP.i2d v3))])) K
  refine Wlk.of (fun _ k => XS.ddivS X0.here hx rfl (hb hby at_42) rfl ((Db.i2d rfl (own_rem hv3)).divp 2 own_four (k2 := 2) (by decide) (by decide)).nn rfl k) ?_
  show Wlk p.tables e below (s₁.setTop (mkF m 43 #[.val (.int p1), .val (.int p2), .val (.int p3), .val (.int p4), .val (.int v1), .val (.int v2), .val (.int v3), .val (.double v4), .second, .val (.double v5), .second, .unset, .unset, .unset, .unset, .unset, .unset, .unset, .unset, .unset, .unset, .unset, .unset, .unset, .unset, .unset, .unset, .unset, .unset, .unset, .unset, .unset] [(.double (FP.ddiv (FP.i2d v3) (4616189618054758400 : UInt64)))])) K
  refine Wlk.of (fun _ k => XS.dstore X0.here hx rfl (hb hby at_43) rfl (l' := #[.val (.int p1), .val (.int p2), .val (.int p3), .val (.int p4), .val (.int v1), .val (.int v2), .val (.int v3), .val (.double v4), .second, .val (.double v5), .second, .val (.double (FP.ddiv (FP.i2d v3) (4616189618054758400 : UInt64))), .second, .unset, .unset, .unset, .unset, .unset, .unset, .unset, .unset, .unset, .unset, .unset, .unset, .unset, .unset, .unset, .unset, .unset, .unset, .unset]) rfl k) ?_
  show Wlk p.tables e below (s₁.setTop (mkF m 45 #[.val (.int p1), .val (.int p2), .val (.int p3), .val (.int p4), .val (.int v1), .val (.int v2), .val (.int v3), .val (.double v4), .second, .val (.double v5), .second, .val (.double (FP.ddiv (FP.i2d v3) (4616189618054758400 : UInt64))), .second, .unset, .unset, .unset, .unset, .unset, .unset, .unset, .unset, .unset, .unset, .unset, .unset, .unset, .unset, .unset, .unset, .unset, .unset, .unset] [])) K
  generalize hv6 : (FP.ddiv (FP.i2d v3) (4616189618054758400 : UInt64)) = v6
  have ba := own_rem hv1
  have bb := own_rem hv2
  have bc := own_rem hv3
  have D1 : Db v1.toInt 2 8 v4 := ((Db.i2d rfl ba).divp 2 own_four (by decide) (by decide)).eq hv4
  have D2 : Db v2.toInt 2 8 v5 := ((Db.i2d rfl bb).divp 2 own_four (by decide) (by decide)).eq hv5
  have D3 : Db v3.toInt 2 8 v6 := ((Db.i2d rfl bc).divp 2 own_four (by decide) (by decide)).eq hv6
  have DR : Db p1.toInt 0 2147483648 (FP.i2d p1) := Db.i2d rfl (FP.Core.int32_abs p1)
  have g1 := D1.mul D1 (k2 := 4) (by decide) (by decide)
  have g2 := D2.mul D2 (k2 := 4) (by decide) (by decide)
  have g3 := D3.mul D3 (k2 := 4) (by decide) (by decide)
  have F1 := own_f D1
  have F2 := own_f D2
  have F3 := own_f D3
  have V1 := DR.mul F1 (k2 := 4) (by decide) (by decide)
  have V2 := V1.mul F2 (k2 := 8) (by decide) (by decide)
  have V3 := V2.mul F3 (k2 := 12) (by decide) (by decide)
  have k21 := D2.mul D1 (k2 := 4) (by decide) (by decide)
  have U1 := D1.up 2 (k2 := 4) (by decide) (c := 4) (by decide) (C := 32) (by decide)
  have C1 := U1.sub k21 (by decide)
  have k32 := D3.mul D2 (k2 := 4) (by decide) (by decide)
  have H0 := C1.sub k32 (by decide)
  have k3c := D3.mul C1 (k2 := 6) (by decide) (by decide)
  have U2 := D2.up 4 (k2 := 6) (by decide) (c := 16) (by decide) (C := 128) (by decide)
  have H1 := U2.sub k3c (by decide)
  obtain ⟨T7, h7, X7, e7, E7, A7, D7, -, st7⟩ := newO X0 hx hZ hown (hw _ (List.mem_of_getElem? (i := 1) rfl)) (hw _ (List.mem_of_getElem? (i := 2) rfl)) (hw _ (List.mem_of_getElem? (i := 3) rfl)) e0 (g := (mkF m 45 #[.val (.int p1), .val (.int p2), .val (.int p3), .val (.int p4), .val (.int v1), .val (.int v2), .val (.int v3), .val (.double v4), .second, .val (.double v5), .second, .val (.double v6), .second, .unset, .unset, .unset, .unset, .unset, .unset, .unset, .unset, .unset, .unset, .unset, .unset, .unset, .unset, .unset, .unset, .unset, .unset, .unset] [])) rfl (hb hby at_45) (by decide) (by decide)
  obtain ⟨b7, g7⟩ : ∃ z, z = h0.size := ⟨_, rfl⟩
  rw [← g7] at A7 D7 st7
  have sz_b7 : h0.size ≤ b7 := Nat.le_trans K0.1 (Nat.le_of_eq g7.symm)
  have g_b7 : n0 ≤ b7 := Nat.le_trans Z0 sz_b7
  have K9 : Keep h0 h7 [] := K0.ext E7
  have F_b7_highestCoefficients : Fld Z h7 b7 "lagwise/estimators/ArRecursion" "highestCoefficients" "[D" .null := D7 (Or.inl (hw _ (List.mem_of_getElem? (i := 12) rfl))) (ty := (.array .double)) (by decide)
  have F_b7_reflections : Fld Z h7 b7 "lagwise/estimators/ArRecursion" "reflections" "[D" .null := D7 (Or.inr (hw _ (List.mem_of_getElem? (i := 14) rfl))) (ty := (.array .double)) (by decide)
  have F_b7_residualVariances : Fld Z h7 b7 "lagwise/estimators/ArRecursion" "residualVariances" "[D" .null := D7 (Or.inr (hw _ (List.mem_of_getElem? (i := 16) rfl))) (ty := (.array .double)) (by decide)
  have F_b7_highestOrder : Fld Z h7 b7 "lagwise/estimators/ArRecursion" "highestOrder" "I" (.int (0 : Int32)) := D7 (Or.inl (hw _ (List.mem_of_getElem? (i := 26) rfl))) (ty := .int) (by decide)
  refine Wlk.of (fun _ k => st7 _ k) ?_
  show Wlk p.tables e below (T7.setTop (mkF m 48 #[.val (.int p1), .val (.int p2), .val (.int p3), .val (.int p4), .val (.int v1), .val (.int v2), .val (.int v3), .val (.double v4), .second, .val (.double v5), .second, .val (.double v6), .second, .unset, .unset, .unset, .unset, .unset, .unset, .unset, .unset, .unset, .unset, .unset, .unset, .unset, .unset, .unset, .unset, .unset, .unset, .unset] [(.ref b7)])) K
  refine Wlk.of (fun _ k => XS.dup X7.here hx rfl (hb hby at_48) rfl rfl k) ?_
  show Wlk p.tables e below (T7.setTop (mkF m 49 #[.val (.int p1), .val (.int p2), .val (.int p3), .val (.int p4), .val (.int v1), .val (.int v2), .val (.int v3), .val (.double v4), .second, .val (.double v5), .second, .val (.double v6), .second, .unset, .unset, .unset, .unset, .unset, .unset, .unset, .unset, .unset, .unset, .unset, .unset, .unset, .unset, .unset, .unset, .unset, .unset, .unset] [(.ref b7), (.ref b7)])) K
  refine Wlk.of (fun _ k => XS.iloadN X7.here hx rfl (hb hby at_49) rfl k) ?_
  show Wlk p.tables e below (T7.setTop (mkF m 50 #[.val (.int p1), .val (.int p2), .val (.int p3), .val (.int p4), .val (.int v1), .val (.int v2), .val (.int v3), .val (.double v4), .second, .val (.double v5), .second, .val (.double v6), .second, .unset, .unset, .unset, .unset, .unset, .unset, .unset, .unset, .unset, .unset, .unset, .unset, .unset, .unset, .unset, .unset, .unset, .unset, .unset] [(.int p1), (.ref b7), (.ref b7)])) K
  refine Wlk.of (fun _ k => XS.i2dS X7.here hx rfl (hb hby at_50) rfl rfl k) ?_
  show Wlk p.tables e below (T7.setTop (mkF m 51 #[.val (.int p1), .val (.int p2), .val (.int p3), .val (.int p4), .val (.int v1), .val (.int v2), .val (.int v3), .val (.double v4), .second, .val (.double v5), .second, .val (.double v6), .second, .unset, .unset, .unset, .unset, .unset, .unset, .unset, .unset, .unset, .unset, .unset, .unset, .unset, .unset, .unset, .unset, .unset, .unset, .unset] [(.double (FP.i2d p1)), (.ref b7), (.ref b7)])) K
  refine Wlk.of (fun _ k => XS.iconst X7.here hx rfl (hb hby at_51) k) ?_
  show Wlk p.tables e below (T7.setTop (mkF m 52 #[.val (.int p1), .val (.int p2), .val (.int p3), .val (.int p4), .val (.int v1), .val (.int v2), .val (.int v3), .val (.double v4), .second, .val (.double v5), .second, .val (.double v6), .second, .unset, .unset, .unset, .unset, .unset, .unset, .unset, .unset, .unset, .unset, .unset, .unset, .unset, .unset, .unset, .unset, .unset, .unset, .unset] [(.int (3 : Int32)), (.double (FP.i2d p1)), (.ref b7), (.ref b7)])) K
  obtain ⟨v10, T10, L10, X10, q10, st10⟩ := Ctr.special (rmI l Z a0 hw b7 ((FP.i2d p1)) h7 n0 (Nat.le_trans Z0 K9.1) A7 F_b7_highestCoefficients F_b7_reflections F_b7_residualVariances F_b7_highestOrder g_b7) X7 hx hZ e7 hown rfl (hw _ (List.mem_of_getElem? (i := 4) rfl)) (hw _ (List.mem_of_getElem? (i := 5) rfl)) (hw _ (List.mem_of_getElem? (i := 3) rfl)) (hw _ (List.mem_of_getElem? (i := 6) rfl)) (by decide) pd_281 (g := (mkF m 52 #[.val (.int p1), .val (.int p2), .val (.int p3), .val (.int p4), .val (.int v1), .val (.int v2), .val (.int v3), .val (.double v4), .second, .val (.double v5), .second, .val (.double v6), .second, .unset, .unset, .unset, .unset, .unset, .unset, .unset, .unset, .unset, .unset, .unset, .unset, .unset, .unset, .unset, .unset, .unset, .unset, .unset] [(.int (3 : Int32)), (.double (FP.i2d p1)), (.ref b7), (.ref b7)])) rfl (by rw [hml]; rfl) (a := b7) (argsL := [(.double (FP.i2d p1)), (.int (3 : Int32))]) (rest := [(.ref b7)]) rfl rfl rfl (W := 1) (by show 2 * 0 + _ ≤ _; exact Nat.le_of_eq rfl) (by decide) (by decide) (hb hby at_52) (by decide) (by decide)
  obtain ⟨hc_10, rf_10, rv_10, rfl, N10q, K10q, p10_0, p10_1, p10_2, p10_3, p10_4, p10_5, p10_6, p10_7, p10_8, p10_9, p10_10, p10_11, p10_12⟩ := q10
  have N11 := Fr.app N0 N10q
  refine Wlk.of (fun _ k => st10 _ k) ?_
  have ne12 : b7 ≠ hc_10 := Nat.ne_of_lt (Nat.lt_of_lt_of_le A7.lt p10_0)
  have sz_hc_10 : h0.size ≤ hc_10 := Nat.le_trans K9.1 p10_0
  have g_hc_10 : n0 ≤ hc_10 := Nat.le_trans Z0 sz_hc_10
  have ne13 : b7 ≠ rf_10 := Nat.ne_of_lt (Nat.lt_of_lt_of_le A7.lt p10_1)
  have sz_rf_10 : h0.size ≤ rf_10 := Nat.le_trans K9.1 p10_1
  have g_rf_10 : n0 ≤ rf_10 := Nat.le_trans Z0 sz_rf_10
  have ne14 : b7 ≠ rv_10 := Nat.ne_of_lt (Nat.lt_of_lt_of_le A7.lt p10_2)
  have sz_rv_10 : h0.size ≤ rv_10 := Nat.le_trans K9.1 p10_2
  have g_rv_10 : n0 ≤ rv_10 := Nat.le_trans Z0 sz_rv_10
  have K15 : Keep h0 T10.heap [] := K9.trans K10q (allS (Or.inr sz_b7) all0)
  show Wlk p.tables e below (T10.setTop (mkF m 55 #[.val (.int p1), .val (.int p2), .val (.int p3), .val (.int p4), .val (.int v1), .val (.int v2), .val (.int v3), .val (.double v4), .second, .val (.double v5), .second, .val (.double v6), .second, .unset, .unset, .unset, .unset, .unset, .unset, .unset, .unset, .unset, .unset, .unset, .unset, .unset, .unset, .unset, .unset, .unset, .unset, .unset] [(.ref b7)])) K
  refine Wlk.of (fun _ k => XS.astore X10.here hx rfl (hb hby at_55) rfl rfl (l' := #[.val (.int p1), .val (.int p2), .val (.int p3), .val (.int p4), .val (.int v1), .val (.int v2), .val (.int v3), .val (.double v4), .second, .val (.double v5), .second, .val (.double v6), .second, .val (.ref b7), .unset, .unset, .unset, .unset, .unset, .unset, .unset, .unset, .unset, .unset, .unset, .unset, .unset, .unset, .unset, .unset, .unset, .unset]) rfl k) ?_
  show Wlk p.tables e below (T10.setTop (mkF m 57 #[.val (.int p1), .val (.int p2), .val (.int p3), .val (.int p4), .val (.int v1), .val (.int v2), .val (.int v3), .val (.double v4), .second, .val (.double v5), .second, .val (.double v6), .second, .val (.ref b7), .unset, .unset, .unset, .unset, .unset, .unset, .unset, .unset, .unset, .unset, .unset, .unset, .unset, .unset, .unset, .unset, .unset, .unset] [])) K
  refine Wlk.of (fun _ k => XS.aload X10.here hx rfl (hb hby at_57) rfl rfl k) ?_
  show Wlk p.tables e below (T10.setTop (mkF m 59 #[.val (.int p1), .val (.int p2), .val (.int p3), .val (.int p4), .val (.int v1), .val (.int v2), .val (.int v3), .val (.double v4), .second, .val (.double v5), .second, .val (.double v6), .second, .val (.ref b7), .unset, .unset, .unset, .unset, .unset, .unset, .unset, .unset, .unset, .unset, .unset, .unset, .unset, .unset, .unset, .unset, .unset, .unset] [(.ref b7)])) K
  refine Wlk.of (fun _ k => XS.dload X10.here hx rfl (hb hby at_59) rfl k) ?_
  show Wlk p.tables e below (T10.setTop (mkF m 61 #[.val (.int p1), .val (.int p2), .val (.int p3), .val (.int p4), .val (.int v1), .val (.int v2), .val (.int v3), .val (.double v4), .second, .val (.double v5), .second, .val (.double v6), .second, .val (.ref b7), .unset, .unset, .unset, .unset, .unset, .unset, .unset, .unset, .unset, .unset, .unset, .unset, .unset, .unset, .unset, .unset, .unset, .unset] [(.double v4), (.ref b7)])) K
  have f16 : Exa Z T10.heap b7 "lagwise/estimators/ArRecursion" := (A7.keep K10q)
  obtain ⟨v17, T17, L17, X17, q17, st17⟩ := Ctr.virtual (y := (⟨"lagwise/estimators/ArRecursion", "add", "(D)V"⟩ : MethodName)) (rmA0 l Z a0 hw b7 v4 hc_10 rf_10 rv_10 (0 : UInt64) (0 : UInt64) (0 : UInt64) ((FP.i2d p1)) (0 : UInt64) (0 : UInt64) (0 : UInt64) T10.heap n0 (Nat.le_trans Z0 K15.1) f16 p10_3 p10_4 p10_5 p10_6 p10_7 p10_8 p10_9 p10_12 ne13 ne14 g_b7 g_rf_10 g_rv_10 g1.nn F1.nn V1.nn) X10 hx hZ rfl hown (hw _ (List.mem_of_getElem? (i := 17) rfl)) (hw _ (List.mem_of_getElem? (i := 18) rfl)) (notFace_of_selects (args := #[]) (mvT hZ (hw _ (List.mem_of_getElem? (i := 20) rfl)))) (hw _ (List.mem_of_getElem? (i := 20) rfl)) (hw _ (List.mem_of_getElem? (i := 19) rfl)) (hw _ (List.mem_of_getElem? (i := 3) rfl)) (hw _ (List.mem_of_getElem? (i := 21) rfl)) (by decide) f16 pd_282 (g := (mkF m 61 #[.val (.int p1), .val (.int p2), .val (.int p3), .val (.int p4), .val (.int v1), .val (.int v2), .val (.int v3), .val (.double v4), .second, .val (.double v5), .second, .val (.double v6), .second, .val (.ref b7), .unset, .unset, .unset, .unset, .unset, .unset, .unset, .unset, .unset, .unset, .unset, .unset, .unset, .unset, .unset, .unset, .unset, .unset] [(.double v4), (.ref b7)])) rfl (by rw [hml]; rfl) (argsL := [(.double v4)]) (rest := []) rfl rfl rfl (W := 0) (by show 2 * 0 + _ ≤ _; exact Nat.le_of_eq rfl) (by decide) (by decide) (hb hby at_61) (by decide) (by decide)
  obtain ⟨nw_17, rfl, N17q, K17q, p17_0, p17_1, p17_2, p17_3, p17_4, p17_5, p17_6, p17_7⟩ := q17
  have N18 := Fr.app N11 N17q
  refine Wlk.of (fun _ k => st17 _ k) ?_
  have ne19 : b7 ≠ nw_17 := Nat.ne_of_lt (Nat.lt_of_lt_of_le f16.lt p17_0)
  have ne20 : hc_10 ≠ nw_17 := Nat.ne_of_lt (Nat.lt_of_lt_of_le p10_7.lt p17_0)
  have ne21 : rf_10 ≠ nw_17 := Nat.ne_of_lt (Nat.lt_of_lt_of_le p10_8.lt p17_0)
  have ne22 : rv_10 ≠ nw_17 := Nat.ne_of_lt (Nat.lt_of_lt_of_le p10_9.lt p17_0)
  have sz_nw_17 : h0.size ≤ nw_17 := Nat.le_trans K15.1 p17_0
  have g_nw_17 : n0 ≤ nw_17 := Nat.le_trans Z0 sz_nw_17
  have K23 : Keep h0 T17.heap [] := K15.trans K17q (allS (Or.inr sz_b7) (allS (Or.inr sz_rf_10) (allS (Or.inr sz_rv_10) all0)))
  show Wlk p.tables e below (T17.setTop (mkF m 64 #[.val (.int p1), .val (.int p2), .val (.int p3), .val (.int p4), .val (.int v1), .val (.int v2), .val (.int v3), .val (.double v4), .second, .val (.double v5), .second, .val (.double v6), .second, .val (.ref b7), .unset, .unset, .unset, .unset, .unset, .unset, .unset, .unset, .unset, .unset, .unset, .unset, .unset, .unset, .unset, .unset, .unset, .unset] [])) K
  refine Wlk.of (fun _ k => XS.aload X17.here hx rfl (hb hby at_64) rfl rfl k) ?_
  show Wlk p.tables e below (T17.setTop (mkF m 66 #[.val (.int p1), .val (.int p2), .val (.int p3), .val (.int p4), .val (.int v1), .val (.int v2), .val (.int v3), .val (.double v4), .second, .val (.double v5), .second, .val (.double v6), .second, .val (.ref b7), .unset, .unset, .unset, .unset, .unset, .unset, .unset, .unset, .unset, .unset, .unset, .unset, .unset, .unset, .unset, .unset, .unset, .unset] [(.ref b7)])) K
  refine Wlk.of (fun _ k => XS.dload X17.here hx rfl (hb hby at_66) rfl k) ?_
  show Wlk p.tables e below (T17.setTop (mkF m 68 #[.val (.int p1), .val (.int p2), .val (.int p3), .val (.int p4), .val (.int v1), .val (.int v2), .val (.int v3), .val (.double v4), .second, .val (.double v5), .second, .val (.double v6), .second, .val (.ref b7), .unset, .unset, .unset, .unset, .unset, .unset, .unset, .unset, .unset, .unset, .unset, .unset, .unset, .unset, .unset, .unset, .unset, .unset] [(.double v5), (.ref b7)])) K
  have f24 : Exa Z T17.heap b7 "lagwise/estimators/ArRecursion" := (f16.keep K17q)
  obtain ⟨v25, T25, L25, X25, q25, st25⟩ := Ctr.virtual (y := (⟨"lagwise/estimators/ArRecursion", "add", "(D)V"⟩ : MethodName)) (rmA1 l Z a0 hw b7 v5 nw_17 rf_10 rv_10 v4 v4 (0 : UInt64) (0 : UInt64) ((FP.i2d p1)) ((FP.dmul (FP.i2d p1) (FP.dsub FP.dconst1 (FP.dmul v4 v4)))) (0 : UInt64) (0 : UInt64) T17.heap n0 (Nat.le_trans Z0 K23.1) f24 p17_1 p17_2 p17_3 p17_4 p17_5 p17_6 p17_7 p10_12 ne13 ne14 g_b7 g_rf_10 g_rv_10 k21.nn C1.nn g2.nn F2.nn V2.nn) X17 hx hZ rfl hown (hw _ (List.mem_of_getElem? (i := 17) rfl)) (hw _ (List.mem_of_getElem? (i := 18) rfl)) (notFace_of_selects (args := #[]) (mvT hZ (hw _ (List.mem_of_getElem? (i := 20) rfl)))) (hw _ (List.mem_of_getElem? (i := 20) rfl)) (hw _ (List.mem_of_getElem? (i := 19) rfl)) (hw _ (List.mem_of_getElem? (i := 3) rfl)) (hw _ (List.mem_of_getElem? (i := 21) rfl)) (by decide) f24 pd_282 (g := (mkF m 68 #[.val (.int p1), .val (.int p2), .val (.int p3), .val (.int p4), .val (.int v1), .val (.int v2), .val (.int v3), .val (.double v4), .second, .val (.double v5), .second, .val (.double v6), .second, .val (.ref b7), .unset, .unset, .unset, .unset, .unset, .unset, .unset, .unset, .unset, .unset, .unset, .unset, .unset, .unset, .unset, .unset, .unset, .unset] [(.double v5), (.ref b7)])) rfl (by rw [hml]; rfl) (argsL := [(.double v5)]) (rest := []) rfl rfl rfl (W := 0) (by show 2 * 0 + _ ≤ _; exact Nat.le_of_eq rfl) (by decide) (by decide) (hb hby at_68) (by decide) (by decide)
  obtain ⟨nw_25, rfl, N25q, K25q, p25_0, p25_1, p25_2, p25_3, p25_4, p25_5, p25_6, p25_7⟩ := q25
  have N26 := Fr.app N18 N25q
  refine Wlk.of (fun _ k => st25 _ k) ?_
  have ne27 : b7 ≠ nw_25 := Nat.ne_of_lt (Nat.lt_of_lt_of_le f24.lt p25_0)
  have f29 : Arl Z T17.heap hc_10 .double [] := (p10_7.keep K17q (ninS (Ne.symm ne12) (ninS p10_10 (ninS p10_11 nin0))))
  have ne28 : hc_10 ≠ nw_25 := Nat.ne_of_lt (Nat.lt_of_lt_of_le f29.lt p25_0)
  have ne30 : nw_17 ≠ nw_25 := Nat.ne_of_lt (Nat.lt_of_lt_of_le p17_5.lt p25_0)
  have ne31 : rf_10 ≠ nw_25 := Nat.ne_of_lt (Nat.lt_of_lt_of_le p17_6.lt p25_0)
  have ne32 : rv_10 ≠ nw_25 := Nat.ne_of_lt (Nat.lt_of_lt_of_le p17_7.lt p25_0)
  have sz_nw_25 : h0.size ≤ nw_25 := Nat.le_trans K23.1 p25_0
  have g_nw_25 : n0 ≤ nw_25 := Nat.le_trans Z0 sz_nw_25
  have K33 : Keep h0 T25.heap [] := K23.trans K25q (allS (Or.inr sz_b7) (allS (Or.inr sz_rf_10) (allS (Or.inr sz_rv_10) all0)))
  show Wlk p.tables e below (T25.setTop (mkF m 71 #[.val (.int p1), .val (.int p2), .val (.int p3), .val (.int p4), .val (.int v1), .val (.int v2), .val (.int v3), .val (.double v4), .second, .val (.double v5), .second, .val (.double v6), .second, .val (.ref b7), .unset, .unset, .unset, .unset, .unset, .unset, .unset, .unset, .unset, .unset, .unset, .unset, .unset, .unset, .unset, .unset, .unset, .unset] [])) K
  refine Wlk.of (fun _ k => XS.aload X25.here hx rfl (hb hby at_71) rfl rfl k) ?_
  show Wlk p.tables e below (T25.setTop (mkF m 73 #[.val (.int p1), .val (.int p2), .val (.int p3), .val (.int p4), .val (.int v1), .val (.int v2), .val (.int v3), .val (.double v4), .second, .val (.double v5), .second, .val (.double v6), .second, .val (.ref b7), .unset, .unset, .unset, .unset, .unset, .unset, .unset, .unset, .unset, .unset, .unset, .unset, .unset, .unset, .unset, .unset, .unset, .unset] [(.ref b7)])) K
  refine Wlk.of (fun _ k => XS.dload X25.here hx rfl (hb hby at_73) rfl k) ?_
  show Wlk p.tables e below (T25.setTop (mkF m 75 #[.val (.int p1), .val (.int p2), .val (.int p3), .val (.int p4), .val (.int v1), .val (.int v2), .val (.int v3), .val (.double v4), .second, .val (.double v5), .second, .val (.double v6), .second, .val (.ref b7), .unset, .unset, .unset, .unset, .unset, .unset, .unset, .unset, .unset, .unset, .unset, .unset, .unset, .unset, .unset, .unset, .unset, .unset] [(.double v6), (.ref b7)])) K
  have f34 : Exa Z T25.heap b7 "lagwise/estimators/ArRecursion" := (f24.keep K25q)
  obtain ⟨v35, T35, L35, X35, q35, st35⟩ := Ctr.virtual (y := (⟨"lagwise/estimators/ArRecursion", "add", "(D)V"⟩ : MethodName)) (rmA2 l Z a0 hw b7 v6 nw_25 rf_10 rv_10 ((FP.dsub v4 (FP.dmul v5 v4))) v5 v4 v5 (0 : UInt64) ((FP.i2d p1)) ((FP.dmul (FP.i2d p1) (FP.dsub FP.dconst1 (FP.dmul v4 v4)))) ((FP.dmul (FP.dmul (FP.i2d p1) (FP.dsub FP.dconst1 (FP.dmul v4 v4))) (FP.dsub FP.dconst1 (FP.dmul v5 v5)))) (0 : UInt64) T25.heap n0 (Nat.le_trans Z0 K33.1) f34 p25_1 p25_2 p25_3 p25_4 p25_5 p25_6 p25_7 p10_12 ne13 ne14 g_b7 g_rf_10 g_rv_10 k32.nn k3c.nn H0.nn H1.nn g3.nn F3.nn V3.nn) X25 hx hZ rfl hown (hw _ (List.mem_of_getElem? (i := 17) rfl)) (hw _ (List.mem_of_getElem? (i := 18) rfl)) (notFace_of_selects (args := #[]) (mvT hZ (hw _ (List.mem_of_getElem? (i := 20) rfl)))) (hw _ (List.mem_of_getElem? (i := 20) rfl)) (hw _ (List.mem_of_getElem? (i := 19) rfl)) (hw _ (List.mem_of_getElem? (i := 3) rfl)) (hw _ (List.mem_of_getElem? (i := 21) rfl)) (by decide) f34 pd_282 (g := (mkF m 75 #[.val (.int p1), .val (.int p2), .val (.int p3), .val (.int p4), .val (.int v1), .val (.int v2), .val (.int v3), .val (.double v4), .second, .val (.double v5), .second, .val (.double v6), .second, .val (.ref b7), .unset, .unset, .unset, .unset, .unset, .unset, .unset, .unset, .unset, .unset, .unset, .unset, .unset, .unset, .unset, .unset, .unset, .unset] [(.double v6), (.ref b7)])) rfl (by rw [hml]; rfl) (argsL := [(.double v6)]) (rest := []) rfl rfl rfl (W := 0) (by show 2 * 0 + _ ≤ _; exact Nat.le_of_eq rfl) (by decide) (by decide) (hb hby at_75) (by decide) (by decide)
  obtain ⟨nw_35, rfl, N35q, K35q, p35_0, p35_1, p35_2, p35_3, p35_4, p35_5, p35_6, p35_7⟩ := q35
  have N36 := Fr.app N26 N35q
  refine Wlk.of (fun _ k => st35 _ k) ?_
  have ne37 : b7 ≠ nw_35 := Nat.ne_of_lt (Nat.lt_of_lt_of_le f34.lt p35_0)
  have f39 : Arl Z T25.heap hc_10 .double [] := (f29.keep K25q (ninS (Ne.symm ne12) (ninS p10_10 (ninS p10_11 nin0))))
  have ne38 : hc_10 ≠ nw_35 := Nat.ne_of_lt (Nat.lt_of_lt_of_le f39.lt p35_0)
  have f41 : Arl Z T25.heap nw_17 .double [(.double v4)] := (p17_5.keep K25q (ninS (Ne.symm ne19) (ninS (Ne.symm ne21) (ninS (Ne.symm ne22) nin0))))
  have ne40 : nw_17 ≠ nw_35 := Nat.ne_of_lt (Nat.lt_of_lt_of_le f41.lt p35_0)
  have ne42 : nw_25 ≠ nw_35 := Nat.ne_of_lt (Nat.lt_of_lt_of_le p25_5.lt p35_0)
  have ne43 : rf_10 ≠ nw_35 := Nat.ne_of_lt (Nat.lt_of_lt_of_le p25_6.lt p35_0)
  have ne44 : rv_10 ≠ nw_35 := Nat.ne_of_lt (Nat.lt_of_lt_of_le p25_7.lt p35_0)
  have sz_nw_35 : h0.size ≤ nw_35 := Nat.le_trans K33.1 p35_0
  have g_nw_35 : n0 ≤ nw_35 := Nat.le_trans Z0 sz_nw_35
  have K45 : Keep h0 T35.heap [] := K33.trans K35q (allS (Or.inr sz_b7) (allS (Or.inr sz_rf_10) (allS (Or.inr sz_rv_10) all0)))
  show Wlk p.tables e below (T35.setTop (mkF m 78 #[.val (.int p1), .val (.int p2), .val (.int p3), .val (.int p4), .val (.int v1), .val (.int v2), .val (.int v3), .val (.double v4), .second, .val (.double v5), .second, .val (.double v6), .second, .val (.ref b7), .unset, .unset, .unset, .unset, .unset, .unset, .unset, .unset, .unset, .unset, .unset, .unset, .unset, .unset, .unset, .unset, .unset, .unset] [])) K
  refine Wlk.of (fun _ k => XS.aload X35.here hx rfl (hb hby at_78) rfl rfl k) ?_
  show Wlk p.tables e below (T35.setTop (mkF m 80 #[.val (.int p1), .val (.int p2), .val (.int p3), .val (.int p4), .val (.int v1), .val (.int v2), .val (.int v3), .val (.double v4), .second, .val (.double v5), .second, .val (.double v6), .second, .val (.ref b7), .unset, .unset, .unset, .unset, .unset, .unset, .unset, .unset, .unset, .unset, .unset, .unset, .unset, .unset, .unset, .unset, .unset, .unset] [(.ref b7)])) K
  have f46 : Exa Z T35.heap b7 "lagwise/estimators/ArRecursion" := (f34.keep K35q)
  obtain ⟨v47, T47, L47, X47, q47, st47⟩ := Ctr.virtual (y := (⟨"lagwise/estimators/ArRecursion", "highestCoefficients", "()[D"⟩ : MethodName)) (rmH l Z a0 hw b7 nw_35 T35.heap n0 (Nat.le_trans Z0 K45.1) p35_1) X35 hx hZ rfl hown (hw _ (List.mem_of_getElem? (i := 27) rfl)) (hw _ (List.mem_of_getElem? (i := 28) rfl)) (notFace_of_selects (args := #[]) (mvT hZ (hw _ (List.mem_of_getElem? (i := 30) rfl)))) (hw _ (List.mem_of_getElem? (i := 30) rfl)) (hw _ (List.mem_of_getElem? (i := 29) rfl)) (hw _ (List.mem_of_getElem? (i := 3) rfl)) (hw _ (List.mem_of_getElem? (i := 31) rfl)) (by decide) f46 pd_283 (g := (mkF m 80 #[.val (.int p1), .val (.int p2), .val (.int p3), .val (.int p4), .val (.int v1), .val (.int v2), .val (.int v3), .val (.double v4), .second, .val (.double v5), .second, .val (.double v6), .second, .val (.ref b7), .unset, .unset, .unset, .unset, .unset, .unset, .unset, .unset, .unset, .unset, .unset, .unset, .unset, .unset, .unset, .unset, .unset, .unset] [(.ref b7)])) rfl (by rw [hml]; rfl) (argsL := []) (rest := []) rfl rfl rfl (W := 0) (by show 2 * 0 + _ ≤ _; exact Nat.le_of_eq rfl) (by decide) (by decide) (hb hby at_80) (by decide) (by decide)
  obtain ⟨rfl, N47q, hh47⟩ := q47
  have N48 := Fr.app N36 N47q
  refine Wlk.of (fun _ k => st47 _ k) ?_
  show Wlk p.tables e below (T47.setTop (mkF m 83 #[.val (.int p1), .val (.int p2), .val (.int p3), .val (.int p4), .val (.int v1), .val (.int v2), .val (.int v3), .val (.double v4), .second, .val (.double v5), .second, .val (.double v6), .second, .val (.ref b7), .unset, .unset, .unset, .unset, .unset, .unset, .unset, .unset, .unset, .unset, .unset, .unset, .unset, .unset, .unset, .unset, .unset, .unset] [(.ref nw_35)])) K
  refine Wlk.of (fun _ k => XS.astore X47.here hx rfl (hb hby at_83) rfl rfl (l' := #[.val (.int p1), .val (.int p2), .val (.int p3), .val (.int p4), .val (.int v1), .val (.int v2), .val (.int v3), .val (.double v4), .second, .val (.double v5), .second, .val (.double v6), .second, .val (.ref b7), .val (.ref nw_35), .unset, .unset, .unset, .unset, .unset, .unset, .unset, .unset, .unset, .unset, .unset, .unset, .unset, .unset, .unset, .unset, .unset]) rfl k) ?_
  show Wlk p.tables e below (T47.setTop (mkF m 85 #[.val (.int p1), .val (.int p2), .val (.int p3), .val (.int p4), .val (.int v1), .val (.int v2), .val (.int v3), .val (.double v4), .second, .val (.double v5), .second, .val (.double v6), .second, .val (.ref b7), .val (.ref nw_35), .unset, .unset, .unset, .unset, .unset, .unset, .unset, .unset, .unset, .unset, .unset, .unset, .unset, .unset, .unset, .unset, .unset] [])) K
  refine Wlk.of (fun _ k => XS.aload X47.here hx rfl (hb hby at_85) rfl rfl k) ?_
  show Wlk p.tables e below (T47.setTop (mkF m 87 #[.val (.int p1), .val (.int p2), .val (.int p3), .val (.int p4), .val (.int v1), .val (.int v2), .val (.int v3), .val (.double v4), .second, .val (.double v5), .second, .val (.double v6), .second, .val (.ref b7), .val (.ref nw_35), .unset, .unset, .unset, .unset, .unset, .unset, .unset, .unset, .unset, .unset, .unset, .unset, .unset, .unset, .unset, .unset, .unset] [(.ref nw_35)])) K
  refine Wlk.of (fun _ k => lenL X47 hx hZ hh47 p35_5 (n := (3 : Int32)) rfl (g := (mkF m 87 #[.val (.int p1), .val (.int p2), .val (.int p3), .val (.int p4), .val (.int v1), .val (.int v2), .val (.int v3), .val (.double v4), .second, .val (.double v5), .second, .val (.double v6), .second, .val (.ref b7), .val (.ref nw_35), .unset, .unset, .unset, .unset, .unset, .unset, .unset, .unset, .unset, .unset, .unset, .unset, .unset, .unset, .unset, .unset, .unset] [(.ref nw_35)])) rfl rfl (hb hby at_87) _ k) ?_
  show Wlk p.tables e below (T47.setTop (mkF m 88 #[.val (.int p1), .val (.int p2), .val (.int p3), .val (.int p4), .val (.int v1), .val (.int v2), .val (.int v3), .val (.double v4), .second, .val (.double v5), .second, .val (.double v6), .second, .val (.ref b7), .val (.ref nw_35), .unset, .unset, .unset, .unset, .unset, .unset, .unset, .unset, .unset, .unset, .unset, .unset, .unset, .unset, .unset, .unset, .unset] [(.int (3 : Int32))])) K
  refine Wlk.of (fun _ k => XS.iconst X47.here hx rfl (hb hby at_88) k) ?_
  show Wlk p.tables e below (T47.setTop (mkF m 89 #[.val (.int p1), .val (.int p2), .val (.int p3), .val (.int p4), .val (.int v1), .val (.int v2), .val (.int v3), .val (.double v4), .second, .val (.double v5), .second, .val (.double v6), .second, .val (.ref b7), .val (.ref nw_35), .unset, .unset, .unset, .unset, .unset, .unset, .unset, .unset, .unset, .unset, .unset, .unset, .unset, .unset, .unset, .unset, .unset] [(.int (3 : Int32)), (.int (3 : Int32))])) K
  refine Wlk.of (fun _ k => XS.icmpYes X47.here hx rfl (pc0 := 89) (pc' := 94) rfl (hb hby at_89) rfl (teq (by decide : (3 : Int32) = (3 : Int32))).1 (by decide) (by decide) k) ?_
  show Wlk p.tables e below (T47.setTop (mkF m 94 #[.val (.int p1), .val (.int p2), .val (.int p3), .val (.int p4), .val (.int v1), .val (.int v2), .val (.int v3), .val (.double v4), .second, .val (.double v5), .second, .val (.double v6), .second, .val (.ref b7), .val (.ref nw_35), .unset, .unset, .unset, .unset, .unset, .unset, .unset, .unset, .unset, .unset, .unset, .unset, .unset, .unset, .unset, .unset, .unset] [])) K
  refine Wlk.of (fun _ k => XS.iload X47.here hx rfl (hb hby at_94) rfl k) ?_
  show Wlk p.tables e below (T47.setTop (mkF m 96 #[.val (.int p1), .val (.int p2), .val (.int p3), .val (.int p4), .val (.int v1), .val (.int v2), .val (.int v3), .val (.double v4), .second, .val (.double v5), .second, .val (.double v6), .second, .val (.ref b7), .val (.ref nw_35), .unset, .unset, .unset, .unset, .unset, .unset, .unset, .unset, .unset, .unset, .unset, .unset, .unset, .unset, .unset, .unset, .unset] [(.int v1)])) K
  refine Wlk.of (fun _ k => XS.i2l X47.here hx rfl (hb hby at_96) rfl k) ?_
  show Wlk p.tables e below (T47.setTop (mkF m 97 #[.val (.int p1), .val (.int p2), .val (.int p3), .val (.int p4), .val (.int v1), .val (.int v2), .val (.int v3), .val (.double v4), .second, .val (.double v5), .second, .val (.double v6), .second, .val (.ref b7), .val (.ref nw_35), .unset, .unset, .unset, .unset, .unset, .unset, .unset, .unset, .unset, .unset, .unset, .unset, .unset, .unset, .unset, .unset, .unset] [(.long (v1.toInt64))])) K
  refine Wlk.of (fun _ k => XS.lstore X47.here hx rfl (hb hby at_97) rfl (l' := #[.val (.int p1), .val (.int p2), .val (.int p3), .val (.int p4), .val (.int v1), .val (.int v2), .val (.int v3), .val (.double v4), .second, .val (.double v5), .second, .val (.double v6), .second, .val (.ref b7), .val (.ref nw_35), .val (.long (v1.toInt64)), .second, .unset, .unset, .unset, .unset, .unset, .unset, .unset, .unset, .unset, .unset, .unset, .unset, .unset, .unset, .unset]) rfl k) ?_
  show Wlk p.tables e below (T47.setTop (mkF m 99 #[.val (.int p1), .val (.int p2), .val (.int p3), .val (.int p4), .val (.int v1), .val (.int v2), .val (.int v3), .val (.double v4), .second, .val (.double v5), .second, .val (.double v6), .second, .val (.ref b7), .val (.ref nw_35), .val (.long (v1.toInt64)), .second, .unset, .unset, .unset, .unset, .unset, .unset, .unset, .unset, .unset, .unset, .unset, .unset, .unset, .unset, .unset] [])) K
  generalize hv49 : (v1.toInt64) = v49
  refine Wlk.of (fun _ k => XS.iload X47.here hx rfl (hb hby at_99) rfl k) ?_
  show Wlk p.tables e below (T47.setTop (mkF m 101 #[.val (.int p1), .val (.int p2), .val (.int p3), .val (.int p4), .val (.int v1), .val (.int v2), .val (.int v3), .val (.double v4), .second, .val (.double v5), .second, .val (.double v6), .second, .val (.ref b7), .val (.ref nw_35), .val (.long v49), .second, .unset, .unset, .unset, .unset, .unset, .unset, .unset, .unset, .unset, .unset, .unset, .unset, .unset, .unset, .unset] [(.int v2)])) K
  refine Wlk.of (fun _ k => XS.i2l X47.here hx rfl (hb hby at_101) rfl k) ?_
  show Wlk p.tables e below (T47.setTop (mkF m 102 #[.val (.int p1), .val (.int p2), .val (.int p3), .val (.int p4), .val (.int v1), .val (.int v2), .val (.int v3), .val (.double v4), .second, .val (.double v5), .second, .val (.double v6), .second, .val (.ref b7), .val (.ref nw_35), .val (.long v49), .second, .unset, .unset, .unset, .unset, .unset, .unset, .unset, .unset, .unset, .unset, .unset, .unset, .unset, .unset, .unset] [(.long (v2.toInt64))])) K
  refine Wlk.of (fun _ k => XS.lstore X47.here hx rfl (hb hby at_102) rfl (l' := #[.val (.int p1), .val (.int p2), .val (.int p3), .val (.int p4), .val (.int v1), .val (.int v2), .val (.int v3), .val (.double v4), .second, .val (.double v5), .second, .val (.double v6), .second, .val (.ref b7), .val (.ref nw_35), .val (.long v49), .second, .val (.long (v2.toInt64)), .second, .unset, .unset, .unset, .unset, .unset, .unset, .unset, .unset, .unset, .unset, .unset, .unset, .unset]) rfl k) ?_
  show Wlk p.tables e below (T47.setTop (mkF m 104 #[.val (.int p1), .val (.int p2), .val (.int p3), .val (.int p4), .val (.int v1), .val (.int v2), .val (.int v3), .val (.double v4), .second, .val (.double v5), .second, .val (.double v6), .second, .val (.ref b7), .val (.ref nw_35), .val (.long v49), .second, .val (.long (v2.toInt64)), .second, .unset, .unset, .unset, .unset, .unset, .unset, .unset, .unset, .unset, .unset, .unset, .unset, .unset] [])) K
  generalize hv50 : (v2.toInt64) = v50
  refine Wlk.of (fun _ k => XS.iload X47.here hx rfl (hb hby at_104) rfl k) ?_
  show Wlk p.tables e below (T47.setTop (mkF m 106 #[.val (.int p1), .val (.int p2), .val (.int p3), .val (.int p4), .val (.int v1), .val (.int v2), .val (.int v3), .val (.double v4), .second, .val (.double v5), .second, .val (.double v6), .second, .val (.ref b7), .val (.ref nw_35), .val (.long v49), .second, .val (.long v50), .second, .unset, .unset, .unset, .unset, .unset, .unset, .unset, .unset, .unset, .unset, .unset, .unset, .unset] [(.int v3)])) K
  refine Wlk.of (fun _ k => XS.i2l X47.here hx rfl (hb hby at_106) rfl k) ?_
  show Wlk p.tables e below (T47.setTop (mkF m 107 #[.val (.int p1), .val (.int p2), .val (.int p3), .val (.int p4), .val (.int v1), .val (.int v2), .val (.int v3), .val (.double v4), .second, .val (.double v5), .second, .val (.double v6), .second, .val (.ref b7), .val (.ref nw_35), .val (.long v49), .second, .val (.long v50), .second, .unset, .unset, .unset, .unset, .unset, .unset, .unset, .unset, .unset, .unset, .unset, .unset, .unset] [(.long (v3.toInt64))])) K
  refine Wlk.of (fun _ k => XS.lstore X47.here hx rfl (hb hby at_107) rfl (l' := #[.val (.int p1), .val (.int p2), .val (.int p3), .val (.int p4), .val (.int v1), .val (.int v2), .val (.int v3), .val (.double v4), .second, .val (.double v5), .second, .val (.double v6), .second, .val (.ref b7), .val (.ref nw_35), .val (.long v49), .second, .val (.long v50), .second, .val (.long (v3.toInt64)), .second, .unset, .unset, .unset, .unset, .unset, .unset, .unset, .unset, .unset, .unset, .unset]) rfl k) ?_
  show Wlk p.tables e below (T47.setTop (mkF m 109 #[.val (.int p1), .val (.int p2), .val (.int p3), .val (.int p4), .val (.int v1), .val (.int v2), .val (.int v3), .val (.double v4), .second, .val (.double v5), .second, .val (.double v6), .second, .val (.ref b7), .val (.ref nw_35), .val (.long v49), .second, .val (.long v50), .second, .val (.long (v3.toInt64)), .second, .unset, .unset, .unset, .unset, .unset, .unset, .unset, .unset, .unset, .unset, .unset] [])) K
  generalize hv51 : (v3.toInt64) = v51
  refine Wlk.of (fun _ k => XS.iloadN X47.here hx rfl (hb hby at_109) rfl k) ?_
  show Wlk p.tables e below (T47.setTop (mkF m 110 #[.val (.int p1), .val (.int p2), .val (.int p3), .val (.int p4), .val (.int v1), .val (.int v2), .val (.int v3), .val (.double v4), .second, .val (.double v5), .second, .val (.double v6), .second, .val (.ref b7), .val (.ref nw_35), .val (.long v49), .second, .val (.long v50), .second, .val (.long v51), .second, .unset, .unset, .unset, .unset, .unset, .unset, .unset, .unset, .unset, .unset, .unset] [(.int p1)])) K
  refine Wlk.of (fun _ k => XS.i2l X47.here hx rfl (hb hby at_110) rfl k) ?_
  show Wlk p.tables e below (T47.setTop (mkF m 111 #[.val (.int p1), .val (.int p2), .val (.int p3), .val (.int p4), .val (.int v1), .val (.int v2), .val (.int v3), .val (.double v4), .second, .val (.double v5), .second, .val (.double v6), .second, .val (.ref b7), .val (.ref nw_35), .val (.long v49), .second, .val (.long v50), .second, .val (.long v51), .second, .unset, .unset, .unset, .unset, .unset, .unset, .unset, .unset, .unset, .unset, .unset] [(.long (p1.toInt64))])) K
  refine Wlk.of (fun _ k => XS.lstore X47.here hx rfl (hb hby at_111) rfl (l' := #[.val (.int p1), .val (.int p2), .val (.int p3), .val (.int p4), .val (.int v1), .val (.int v2), .val (.int v3), .val (.double v4), .second, .val (.double v5), .second, .val (.double v6), .second, .val (.ref b7), .val (.ref nw_35), .val (.long v49), .second, .val (.long v50), .second, .val (.long v51), .second, .val (.long (p1.toInt64)), .second, .unset, .unset, .unset, .unset, .unset, .unset, .unset, .unset, .unset]) rfl k) ?_
  show Wlk p.tables e below (T47.setTop (mkF m 113 #[.val (.int p1), .val (.int p2), .val (.int p3), .val (.int p4), .val (.int v1), .val (.int v2), .val (.int v3), .val (.double v4), .second, .val (.double v5), .second, .val (.double v6), .second, .val (.ref b7), .val (.ref nw_35), .val (.long v49), .second, .val (.long v50), .second, .val (.long v51), .second, .val (.long (p1.toInt64)), .second, .unset, .unset, .unset, .unset, .unset, .unset, .unset, .unset, .unset] [])) K
  generalize hv52 : (p1.toInt64) = v52
  refine Wlk.of (fun _ k => X47.ldc2Long hx hown (mvT hZ (hw _ (List.mem_of_getElem? (i := 32) rfl))) (g := (mkF m 113 #[.val (.int p1), .val (.int p2), .val (.int p3), .val (.int p4), .val (.int v1), .val (.int v2), .val (.int v3), .val (.double v4), .second, .val (.double v5), .second, .val (.double v6), .second, .val (.ref b7), .val (.ref nw_35), .val (.long v49), .second, .val (.long v50), .second, .val (.long v51), .second, .val (.long v52), .second, .unset, .unset, .unset, .unset, .unset, .unset, .unset, .unset, .unset] [])) rfl (hb hby at_113) _ k) ?_
  show Wlk p.tables e below (T47.setTop (mkF m 116 #[.val (.int p1), .val (.int p2), .val (.int p3), .val (.int p4), .val (.int v1), .val (.int v2), .val (.int v3), .val (.double v4), .second, .val (.double v5), .second, .val (.double v6), .second, .val (.ref b7), .val (.ref nw_35), .val (.long v49), .second, .val (.long v50), .second, .val (.long v51), .second, .val (.long v52), .second, .unset, .unset, .unset, .unset, .unset, .unset, .unset, .unset, .unset] [(.long (16 : Int64))])) K
  refine Wlk.of (fun _ k => XS.lload X47.here hx rfl (hb hby at_116) rfl k) ?_
  show Wlk p.tables e below (T47.setTop (mkF m 118 #[.val (.int p1), .val (.int p2), .val (.int p3), .val (.int p4), .val (.int v1), .val (.int v2), .val (.int v3), .val (.double v4), .second, .val (.double v5), .second, .val (.double v6), .second, .val (.ref b7), .val (.ref nw_35), .val (.long v49), .second, .val (.long v50), .second, .val (.long v51), .second, .val (.long v52), .second, .unset, .unset, .unset, .unset, .unset, .unset, .unset, .unset, .unset] [(.long v49), (.long (16 : Int64))])) K
  refine Wlk.of (fun _ k => XS.lload X47.here hx rfl (hb hby at_118) rfl k) ?_
  show Wlk p.tables e below (T47.setTop (mkF m 120 #[.val (.int p1), .val (.int p2), .val (.int p3), .val (.int p4), .val (.int v1), .val (.int v2), .val (.int v3), .val (.double v4), .second, .val (.double v5), .second, .val (.double v6), .second, .val (.ref b7), .val (.ref nw_35), .val (.long v49), .second, .val (.long v50), .second, .val (.long v51), .second, .val (.long v52), .second, .unset, .unset, .unset, .unset, .unset, .unset, .unset, .unset, .unset] [(.long v49), (.long v49), (.long (16 : Int64))])) K
  refine Wlk.of (fun _ k => XS.lmul X47.here hx rfl (hb hby at_120) rfl k) ?_
  show Wlk p.tables e below (T47.setTop (mkF m 121 #[.val (.int p1), .val (.int p2), .val (.int p3), .val (.int p4), .val (.int v1), .val (.int v2), .val (.int v3), .val (.double v4), .second, .val (.double v5), .second, .val (.double v6), .second, .val (.ref b7), .val (.ref nw_35), .val (.long v49), .second, .val (.long v50), .second, .val (.long v51), .second, .val (.long v52), .second, .unset, .unset, .unset, .unset, .unset, .unset, .unset, .unset, .unset] [(.long (v49 * v49)), (.long (16 : Int64))])) K
  refine Wlk.of (fun _ k => XS.lsub X47.here hx rfl (hb hby at_121) rfl k) ?_
  show Wlk p.tables e below (T47.setTop (mkF m 122 #[.val (.int p1), .val (.int p2), .val (.int p3), .val (.int p4), .val (.int v1), .val (.int v2), .val (.int v3), .val (.double v4), .second, .val (.double v5), .second, .val (.double v6), .second, .val (.ref b7), .val (.ref nw_35), .val (.long v49), .second, .val (.long v50), .second, .val (.long v51), .second, .val (.long v52), .second, .unset, .unset, .unset, .unset, .unset, .unset, .unset, .unset, .unset] [(.long ((16 : Int64) - (v49 * v49)))])) K
  refine Wlk.of (fun _ k => XS.lstore X47.here hx rfl (hb hby at_122) rfl (l' := #[.val (.int p1), .val (.int p2), .val (.int p3), .val (.int p4), .val (.int v1), .val (.int v2), .val (.int v3), .val (.double v4), .second, .val (.double v5), .second, .val (.double v6), .second, .val (.ref b7), .val (.ref nw_35), .val (.long v49), .second, .val (.long v50), .second, .val (.long v51), .second, .val (.long v52), .second, .val (.long ((16 : Int64) - (v49 * v49))), .second, .unset, .unset, .unset, .unset, .unset, .unset, .unset]) rfl k) ?_
  show Wlk p.tables e below (T47.setTop (mkF m 124 #[.val (.int p1), .val (.int p2), .val (.int p3), .val (.int p4), .val (.int v1), .val (.int v2), .val (.int v3), .val (.double v4), .second, .val (.double v5), .second, .val (.double v6), .second, .val (.ref b7), .val (.ref nw_35), .val (.long v49), .second, .val (.long v50), .second, .val (.long v51), .second, .val (.long v52), .second, .val (.long ((16 : Int64) - (v49 * v49))), .second, .unset, .unset, .unset, .unset, .unset, .unset, .unset] [])) K
  generalize hv53 : ((16 : Int64) - (v49 * v49)) = v53
  refine Wlk.of (fun _ k => X47.ldc2Long hx hown (mvT hZ (hw _ (List.mem_of_getElem? (i := 32) rfl))) (g := (mkF m 124 #[.val (.int p1), .val (.int p2), .val (.int p3), .val (.int p4), .val (.int v1), .val (.int v2), .val (.int v3), .val (.double v4), .second, .val (.double v5), .second, .val (.double v6), .second, .val (.ref b7), .val (.ref nw_35), .val (.long v49), .second, .val (.long v50), .second, .val (.long v51), .second, .val (.long v52), .second, .val (.long v53), .second, .unset, .unset, .unset, .unset, .unset, .unset, .unset] [])) rfl (hb hby at_124) _ k) ?_
  show Wlk p.tables e below (T47.setTop (mkF m 127 #[.val (.int p1), .val (.int p2), .val (.int p3), .val (.int p4), .val (.int v1), .val (.int v2), .val (.int v3), .val (.double v4), .second, .val (.double v5), .second, .val (.double v6), .second, .val (.ref b7), .val (.ref nw_35), .val (.long v49), .second, .val (.long v50), .second, .val (.long v51), .second, .val (.long v52), .second, .val (.long v53), .second, .unset, .unset, .unset, .unset, .unset, .unset, .unset] [(.long (16 : Int64))])) K
  refine Wlk.of (fun _ k => XS.lload X47.here hx rfl (hb hby at_127) rfl k) ?_
  show Wlk p.tables e below (T47.setTop (mkF m 129 #[.val (.int p1), .val (.int p2), .val (.int p3), .val (.int p4), .val (.int v1), .val (.int v2), .val (.int v3), .val (.double v4), .second, .val (.double v5), .second, .val (.double v6), .second, .val (.ref b7), .val (.ref nw_35), .val (.long v49), .second, .val (.long v50), .second, .val (.long v51), .second, .val (.long v52), .second, .val (.long v53), .second, .unset, .unset, .unset, .unset, .unset, .unset, .unset] [(.long v50), (.long (16 : Int64))])) K
  refine Wlk.of (fun _ k => XS.lload X47.here hx rfl (hb hby at_129) rfl k) ?_
  show Wlk p.tables e below (T47.setTop (mkF m 131 #[.val (.int p1), .val (.int p2), .val (.int p3), .val (.int p4), .val (.int v1), .val (.int v2), .val (.int v3), .val (.double v4), .second, .val (.double v5), .second, .val (.double v6), .second, .val (.ref b7), .val (.ref nw_35), .val (.long v49), .second, .val (.long v50), .second, .val (.long v51), .second, .val (.long v52), .second, .val (.long v53), .second, .unset, .unset, .unset, .unset, .unset, .unset, .unset] [(.long v50), (.long v50), (.long (16 : Int64))])) K
  refine Wlk.of (fun _ k => XS.lmul X47.here hx rfl (hb hby at_131) rfl k) ?_
  show Wlk p.tables e below (T47.setTop (mkF m 132 #[.val (.int p1), .val (.int p2), .val (.int p3), .val (.int p4), .val (.int v1), .val (.int v2), .val (.int v3), .val (.double v4), .second, .val (.double v5), .second, .val (.double v6), .second, .val (.ref b7), .val (.ref nw_35), .val (.long v49), .second, .val (.long v50), .second, .val (.long v51), .second, .val (.long v52), .second, .val (.long v53), .second, .unset, .unset, .unset, .unset, .unset, .unset, .unset] [(.long (v50 * v50)), (.long (16 : Int64))])) K
  refine Wlk.of (fun _ k => XS.lsub X47.here hx rfl (hb hby at_132) rfl k) ?_
  show Wlk p.tables e below (T47.setTop (mkF m 133 #[.val (.int p1), .val (.int p2), .val (.int p3), .val (.int p4), .val (.int v1), .val (.int v2), .val (.int v3), .val (.double v4), .second, .val (.double v5), .second, .val (.double v6), .second, .val (.ref b7), .val (.ref nw_35), .val (.long v49), .second, .val (.long v50), .second, .val (.long v51), .second, .val (.long v52), .second, .val (.long v53), .second, .unset, .unset, .unset, .unset, .unset, .unset, .unset] [(.long ((16 : Int64) - (v50 * v50)))])) K
  refine Wlk.of (fun _ k => XS.lstore X47.here hx rfl (hb hby at_133) rfl (l' := #[.val (.int p1), .val (.int p2), .val (.int p3), .val (.int p4), .val (.int v1), .val (.int v2), .val (.int v3), .val (.double v4), .second, .val (.double v5), .second, .val (.double v6), .second, .val (.ref b7), .val (.ref nw_35), .val (.long v49), .second, .val (.long v50), .second, .val (.long v51), .second, .val (.long v52), .second, .val (.long v53), .second, .val (.long ((16 : Int64) - (v50 * v50))), .second, .unset, .unset, .unset, .unset, .unset]) rfl k) ?_
  show Wlk p.tables e below (T47.setTop (mkF m 135 #[.val (.int p1), .val (.int p2), .val (.int p3), .val (.int p4), .val (.int v1), .val (.int v2), .val (.int v3), .val (.double v4), .second, .val (.double v5), .second, .val (.double v6), .second, .val (.ref b7), .val (.ref nw_35), .val (.long v49), .second, .val (.long v50), .second, .val (.long v51), .second, .val (.long v52), .second, .val (.long v53), .second, .val (.long ((16 : Int64) - (v50 * v50))), .second, .unset, .unset, .unset, .unset, .unset] [])) K
  generalize hv54 : ((16 : Int64) - (v50 * v50)) = v54
  refine Wlk.of (fun _ k => X47.ldc2Long hx hown (mvT hZ (hw _ (List.mem_of_getElem? (i := 32) rfl))) (g := (mkF m 135 #[.val (.int p1), .val (.int p2), .val (.int p3), .val (.int p4), .val (.int v1), .val (.int v2), .val (.int v3), .val (.double v4), .second, .val (.double v5), .second, .val (.double v6), .second, .val (.ref b7), .val (.ref nw_35), .val (.long v49), .second, .val (.long v50), .second, .val (.long v51), .second, .val (.long v52), .second, .val (.long v53), .second, .val (.long v54), .second, .unset, .unset, .unset, .unset, .unset] [])) rfl (hb hby at_135) _ k) ?_
  show Wlk p.tables e below (T47.setTop (mkF m 138 #[.val (.int p1), .val (.int p2), .val (.int p3), .val (.int p4), .val (.int v1), .val (.int v2), .val (.int v3), .val (.double v4), .second, .val (.double v5), .second, .val (.double v6), .second, .val (.ref b7), .val (.ref nw_35), .val (.long v49), .second, .val (.long v50), .second, .val (.long v51), .second, .val (.long v52), .second, .val (.long v53), .second, .val (.long v54), .second, .unset, .unset, .unset, .unset, .unset] [(.long (16 : Int64))])) K
  refine Wlk.of (fun _ k => XS.lload X47.here hx rfl (hb hby at_138) rfl k) ?_
  show Wlk p.tables e below (T47.setTop (mkF m 140 #[.val (.int p1), .val (.int p2), .val (.int p3), .val (.int p4), .val (.int v1), .val (.int v2), .val (.int v3), .val (.double v4), .second, .val (.double v5), .second, .val (.double v6), .second, .val (.ref b7), .val (.ref nw_35), .val (.long v49), .second, .val (.long v50), .second, .val (.long v51), .second, .val (.long v52), .second, .val (.long v53), .second, .val (.long v54), .second, .unset, .unset, .unset, .unset, .unset] [(.long v51), (.long (16 : Int64))])) K
  refine Wlk.of (fun _ k => XS.lload X47.here hx rfl (hb hby at_140) rfl k) ?_
  show Wlk p.tables e below (T47.setTop (mkF m 142 #[.val (.int p1), .val (.int p2), .val (.int p3), .val (.int p4), .val (.int v1), .val (.int v2), .val (.int v3), .val (.double v4), .second, .val (.double v5), .second, .val (.double v6), .second, .val (.ref b7), .val (.ref nw_35), .val (.long v49), .second, .val (.long v50), .second, .val (.long v51), .second, .val (.long v52), .second, .val (.long v53), .second, .val (.long v54), .second, .unset, .unset, .unset, .unset, .unset] [(.long v51), (.long v51), (.long (16 : Int64))])) K
  refine Wlk.of (fun _ k => XS.lmul X47.here hx rfl (hb hby at_142) rfl k) ?_
  show Wlk p.tables e below (T47.setTop (mkF m 143 #[.val (.int p1), .val (.int p2), .val (.int p3), .val (.int p4), .val (.int v1), .val (.int v2), .val (.int v3), .val (.double v4), .second, .val (.double v5), .second, .val (.double v6), .second, .val (.ref b7), .val (.ref nw_35), .val (.long v49), .second, .val (.long v50), .second, .val (.long v51), .second, .val (.long v52), .second, .val (.long v53), .second, .val (.long v54), .second, .unset, .unset, .unset, .unset, .unset] [(.long (v51 * v51)), (.long (16 : Int64))])) K
  refine Wlk.of (fun _ k => XS.lsub X47.here hx rfl (hb hby at_143) rfl k) ?_
  show Wlk p.tables e below (T47.setTop (mkF m 144 #[.val (.int p1), .val (.int p2), .val (.int p3), .val (.int p4), .val (.int v1), .val (.int v2), .val (.int v3), .val (.double v4), .second, .val (.double v5), .second, .val (.double v6), .second, .val (.ref b7), .val (.ref nw_35), .val (.long v49), .second, .val (.long v50), .second, .val (.long v51), .second, .val (.long v52), .second, .val (.long v53), .second, .val (.long v54), .second, .unset, .unset, .unset, .unset, .unset] [(.long ((16 : Int64) - (v51 * v51)))])) K
  refine Wlk.of (fun _ k => XS.lstore X47.here hx rfl (hb hby at_144) rfl (l' := #[.val (.int p1), .val (.int p2), .val (.int p3), .val (.int p4), .val (.int v1), .val (.int v2), .val (.int v3), .val (.double v4), .second, .val (.double v5), .second, .val (.double v6), .second, .val (.ref b7), .val (.ref nw_35), .val (.long v49), .second, .val (.long v50), .second, .val (.long v51), .second, .val (.long v52), .second, .val (.long v53), .second, .val (.long v54), .second, .val (.long ((16 : Int64) - (v51 * v51))), .second, .unset, .unset, .unset]) rfl k) ?_
  show Wlk p.tables e below (T47.setTop (mkF m 146 #[.val (.int p1), .val (.int p2), .val (.int p3), .val (.int p4), .val (.int v1), .val (.int v2), .val (.int v3), .val (.double v4), .second, .val (.double v5), .second, .val (.double v6), .second, .val (.ref b7), .val (.ref nw_35), .val (.long v49), .second, .val (.long v50), .second, .val (.long v51), .second, .val (.long v52), .second, .val (.long v53), .second, .val (.long v54), .second, .val (.long ((16 : Int64) - (v51 * v51))), .second, .unset, .unset, .unset] [])) K
  generalize hv55 : ((16 : Int64) - (v51 * v51)) = v55
  have Ia : Iv v49 v1.toInt 8 := (Iv.i2l rfl ba).eq hv49
  have Ib : Iv v50 v2.toInt 8 := (Iv.i2l rfl bb).eq hv50
  have Ic : Iv v51 v3.toInt 8 := (Iv.i2l rfl bc).eq hv51
  have Ir : Iv v52 p1.toInt 2147483648 := (Iv.i2l rfl (FP.Core.int32_abs p1)).eq hv52
  have I16 : Iv (16 : Int64) 16 16 := Iv.lit 16 rfl (by decide)
  have I4 : Iv (4 : Int64) 4 4 := Iv.lit 4 rfl (by decide)
  have J1 := (I16.sub (Ia.mul Ia (by decide)) (by decide)).eq hv53
  have J2 := (I16.sub (Ib.mul Ib (by decide)) (by decide)).eq hv54
  have J3 := (I16.sub (Ic.mul Ic (by decide)) (by decide)).eq hv55
  have w0 := H0.mulp 4 own_b16 (k2 := 0) (by decide) (by decide)
  have w1 := H1.mulp 6 own_b64 (k2 := 0) (by decide) (by decide)
  have w2 := D3.mulp 2 own_four (k2 := 0) (by decide) (by decide)
  have y0 := ((((I4.mul Ia (by decide)).sub (Ia.mul Ib (by decide)) (by decide)).sub (Ib.mul Ic (by decide)) (by decide)).db (by decide))
  have y1 := ((((I16.mul Ib (by decide)).sub ((I4.mul Ia (by decide)).mul Ic (by decide)) (by decide)).add ((Ia.mul Ib (by decide)).mul Ic (by decide)) (by decide)).db (by decide))
  have y2 := (Ic.db (by decide))
  have x1 := V1.mulp 4 own_b16 (k2 := 0) (by decide) (by decide)
  have x2 := V2.mulp 8 own_b256 (k2 := 0) (by decide) (by decide)
  have x3 := V3.mulp 12 own_b4096 (k2 := 0) (by decide) (by decide)
  have z1 := ((Ir.mul J1 (by decide)).db (by decide))
  have z2 := (((Ir.mul J1 (by decide)).mul J2 (by decide)).db (by decide))
  have z3 := ((((Ir.mul J1 (by decide)).mul J2 (by decide)).mul J3 (by decide)).db (by decide))
  refine Wlk.of (fun _ k => XS.aload X47.here hx rfl (hb hby at_146) rfl rfl k) ?_
  show Wlk p.tables e below (T47.setTop (mkF m 148 #[.val (.int p1), .val (.int p2), .val (.int p3), .val (.int p4), .val (.int v1), .val (.int v2), .val (.int v3), .val (.double v4), .second, .val (.double v5), .second, .val (.double v6), .second, .val (.ref b7), .val (.ref nw_35), .val (.long v49), .second, .val (.long v50), .second, .val (.long v51), .second, .val (.long v52), .second, .val (.long v53), .second, .val (.long v54), .second, .val (.long v55), .second, .unset, .unset, .unset] [(.ref nw_35)])) K
  refine Wlk.of (fun _ k => XS.iconst X47.here hx rfl (hb hby at_148) k) ?_
  show Wlk p.tables e below (T47.setTop (mkF m 149 #[.val (.int p1), .val (.int p2), .val (.int p3), .val (.int p4), .val (.int v1), .val (.int v2), .val (.int v3), .val (.double v4), .second, .val (.double v5), .second, .val (.double v6), .second, .val (.ref b7), .val (.ref nw_35), .val (.long v49), .second, .val (.long v50), .second, .val (.long v51), .second, .val (.long v52), .second, .val (.long v53), .second, .val (.long v54), .second, .val (.long v55), .second, .unset, .unset, .unset] [(.int (0 : Int32)), (.ref nw_35)])) K
  refine Wlk.of (fun _ k => ldD X47 hx hZ hh47 p35_5 (j := (0 : Int32)) (i := 0) (by decide) (by decide) rfl (g := (mkF m 149 #[.val (.int p1), .val (.int p2), .val (.int p3), .val (.int p4), .val (.int v1), .val (.int v2), .val (.int v3), .val (.double v4), .second, .val (.double v5), .second, .val (.double v6), .second, .val (.ref b7), .val (.ref nw_35), .val (.long v49), .second, .val (.long v50), .second, .val (.long v51), .second, .val (.long v52), .second, .val (.long v53), .second, .val (.long v54), .second, .val (.long v55), .second, .unset, .unset, .unset] [(.int (0 : Int32)), (.ref nw_35)])) rfl rfl (hb hby at_149) _ k) ?_
  show Wlk p.tables e below (T47.setTop (mkF m 150 #[.val (.int p1), .val (.int p2), .val (.int p3), .val (.int p4), .val (.int v1), .val (.int v2), .val (.int v3), .val (.double v4), .second, .val (.double v5), .second, .val (.double v6), .second, .val (.ref b7), .val (.ref nw_35), .val (.long v49), .second, .val (.long v50), .second, .val (.long v51), .second, .val (.long v52), .second, .val (.long v53), .second, .val (.long v54), .second, .val (.long v55), .second, .unset, .unset, .unset] [(.double (FP.dsub (FP.dsub v4 (FP.dmul v5 v4)) (FP.dmul v6 v5)))])) K
  refine Wlk.of (fun _ k => X47.ldc2DoubleC hx hown (mvT hZ (hw _ (List.mem_of_getElem? (i := 33) rfl))) (g := (mkF m 150 #[.val (.int p1), .val (.int p2), .val (.int p3), .val (.int p4), .val (.int v1), .val (.int v2), .val (.int v3), .val (.double v4), .second, .val (.double v5), .second, .val (.double v6), .second, .val (.ref b7), .val (.ref nw_35), .val (.long v49), .second, .val (.long v50), .second, .val (.long v51), .second, .val (.long v52), .second, .val (.long v53), .second, .val (.long v54), .second, .val (.long v55), .second, .unset, .unset, .unset] [(.double (FP.dsub (FP.dsub v4 (FP.dmul v5 v4)) (FP.dmul v6 v5)))])) rfl (hb hby at_150) _ k) ?_
  show Wlk p.tables e below (T47.setTop (mkF m 153 #[.val (.int p1), .val (.int p2), .val (.int p3), .val (.int p4), .val (.int v1), .val (.int v2), .val (.int v3), .val (.double v4), .second, .val (.double v5), .second, .val (.double v6), .second, .val (.ref b7), .val (.ref nw_35), .val (.long v49), .second, .val (.long v50), .second, .val (.long v51), .second, .val (.long v52), .second, .val (.long v53), .second, .val (.long v54), .second, .val (.long v55), .second, .unset, .unset, .unset] [(.double (4625196817309499392 : UInt64)), (.double (FP.dsub (FP.dsub v4 (FP.dmul v5 v4)) (FP.dmul v6 v5)))])) K
  refine Wlk.of (fun _ k => XS.dmulS X47.here hx rfl (hb hby at_153) rfl w0.nn rfl k) ?_
  show Wlk p.tables e below (T47.setTop (mkF m 154 #[.val (.int p1), .val (.int p2), .val (.int p3), .val (.int p4), .val (.int v1), .val (.int v2), .val (.int v3), .val (.double v4), .second, .val (.double v5), .second, .val (.double v6), .second, .val (.ref b7), .val (.ref nw_35), .val (.long v49), .second, .val (.long v50), .second, .val (.long v51), .second, .val (.long v52), .second, .val (.long v53), .second, .val (.long v54), .second, .val (.long v55), .second, .unset, .unset, .unset] [(.double (FP.dmul (FP.dsub (FP.dsub v4 (FP.dmul v5 v4)) (FP.dmul v6 v5)) (4625196817309499392 : UInt64)))])) K
  refine Wlk.of (fun _ k => X47.ldc2Long hx hown (mvT hZ (hw _ (List.mem_of_getElem? (i := 34) rfl))) (g := (mkF m 154 #[.val (.int p1), .val (.int p2), .val (.int p3), .val (.int p4), .val (.int v1), .val (.int v2), .val (.int v3), .val (.double v4), .second, .val (.double v5), .second, .val (.double v6), .second, .val (.ref b7), .val (.ref nw_35), .val (.long v49), .second, .val (.long v50), .second, .val (.long v51), .second, .val (.long v52), .second, .val (.long v53), .second, .val (.long v54), .second, .val (.long v55), .second, .unset, .unset, .unset] [(.double (FP.dmul (FP.dsub (FP.dsub v4 (FP.dmul v5 v4)) (FP.dmul v6 v5)) (4625196817309499392 : UInt64)))])) rfl (hb hby at_154) _ k) ?_
  show Wlk p.tables e below (T47.setTop (mkF m 157 #[.val (.int p1), .val (.int p2), .val (.int p3), .val (.int p4), .val (.int v1), .val (.int v2), .val (.int v3), .val (.double v4), .second, .val (.double v5), .second, .val (.double v6), .second, .val (.ref b7), .val (.ref nw_35), .val (.long v49), .second, .val (.long v50), .second, .val (.long v51), .second, .val (.long v52), .second, .val (.long v53), .second, .val (.long v54), .second, .val (.long v55), .second, .unset, .unset, .unset] [(.long (4 : Int64)), (.double (FP.dmul (FP.dsub (FP.dsub v4 (FP.dmul v5 v4)) (FP.dmul v6 v5)) (4625196817309499392 : UInt64)))])) K
  refine Wlk.of (fun _ k => XS.lload X47.here hx rfl (hb hby at_157) rfl k) ?_
  show Wlk p.tables e below (T47.setTop (mkF m 159 #[.val (.int p1), .val (.int p2), .val (.int p3), .val (.int p4), .val (.int v1), .val (.int v2), .val (.int v3), .val (.double v4), .second, .val (.double v5), .second, .val (.double v6), .second, .val (.ref b7), .val (.ref nw_35), .val (.long v49), .second, .val (.long v50), .second, .val (.long v51), .second, .val (.long v52), .second, .val (.long v53), .second, .val (.long v54), .second, .val (.long v55), .second, .unset, .unset, .unset] [(.long v49), (.long (4 : Int64)), (.double (FP.dmul (FP.dsub (FP.dsub v4 (FP.dmul v5 v4)) (FP.dmul v6 v5)) (4625196817309499392 : UInt64)))])) K
  refine Wlk.of (fun _ k => XS.lmul X47.here hx rfl (hb hby at_159) rfl k) ?_
  show Wlk p.tables e below (T47.setTop (mkF m 160 #[.val (.int p1), .val (.int p2), .val (.int p3), .val (.int p4), .val (.int v1), .val (.int v2), .val (.int v3), .val (.double v4), .second, .val (.double v5), .second, .val (.double v6), .second, .val (.ref b7), .val (.ref nw_35), .val (.long v49), .second, .val (.long v50), .second, .val (.long v51), .second, .val (.long v52), .second, .val (.long v53), .second, .val (.long v54), .second, .val (.long v55), .second, .unset, .unset, .unset] [(.long ((4 : Int64) * v49)), (.double (FP.dmul (FP.dsub (FP.dsub v4 (FP.dmul v5 v4)) (FP.dmul v6 v5)) (4625196817309499392 : UInt64)))])) K
  refine Wlk.of (fun _ k => XS.lload X47.here hx rfl (hb hby at_160) rfl k) ?_
  show Wlk p.tables e below (T47.setTop (mkF m 162 #[.val (.int p1), .val (.int p2), .val (.int p3), .val (.int p4), .val (.int v1), .val (.int v2), .val (.int v3), .val (.double v4), .second, .val (.double v5), .second, .val (.double v6), .second, .val (.ref b7), .val (.ref nw_35), .val (.long v49), .second, .val (.long v50), .second, .val (.long v51), .second, .val (.long v52), .second, .val (.long v53), .second, .val (.long v54), .second, .val (.long v55), .second, .unset, .unset, .unset] [(.long v49), (.long ((4 : Int64) * v49)), (.double (FP.dmul (FP.dsub (FP.dsub v4 (FP.dmul v5 v4)) (FP.dmul v6 v5)) (4625196817309499392 : UInt64)))])) K
  refine Wlk.of (fun _ k => XS.lload X47.here hx rfl (hb hby at_162) rfl k) ?_
  show Wlk p.tables e below (T47.setTop (mkF m 164 #[.val (.int p1), .val (.int p2), .val (.int p3), .val (.int p4), .val (.int v1), .val (.int v2), .val (.int v3), .val (.double v4), .second, .val (.double v5), .second, .val (.double v6), .second, .val (.ref b7), .val (.ref nw_35), .val (.long v49), .second, .val (.long v50), .second, .val (.long v51), .second, .val (.long v52), .second, .val (.long v53), .second, .val (.long v54), .second, .val (.long v55), .second, .unset, .unset, .unset] [(.long v50), (.long v49), (.long ((4 : Int64) * v49)), (.double (FP.dmul (FP.dsub (FP.dsub v4 (FP.dmul v5 v4)) (FP.dmul v6 v5)) (4625196817309499392 : UInt64)))])) K
  refine Wlk.of (fun _ k => XS.lmul X47.here hx rfl (hb hby at_164) rfl k) ?_
  show Wlk p.tables e below (T47.setTop (mkF m 165 #[.val (.int p1), .val (.int p2), .val (.int p3), .val (.int p4), .val (.int v1), .val (.int v2), .val (.int v3), .val (.double v4), .second, .val (.double v5), .second, .val (.double v6), .second, .val (.ref b7), .val (.ref nw_35), .val (.long v49), .second, .val (.long v50), .second, .val (.long v51), .second, .val (.long v52), .second, .val (.long v53), .second, .val (.long v54), .second, .val (.long v55), .second, .unset, .unset, .unset] [(.long (v49 * v50)), (.long ((4 : Int64) * v49)), (.double (FP.dmul (FP.dsub (FP.dsub v4 (FP.dmul v5 v4)) (FP.dmul v6 v5)) (4625196817309499392 : UInt64)))])) K
  refine Wlk.of (fun _ k => XS.lsub X47.here hx rfl (hb hby at_165) rfl k) ?_
  show Wlk p.tables e below (T47.setTop (mkF m 166 #[.val (.int p1), .val (.int p2), .val (.int p3), .val (.int p4), .val (.int v1), .val (.int v2), .val (.int v3), .val (.double v4), .second, .val (.double v5), .second, .val (.double v6), .second, .val (.ref b7), .val (.ref nw_35), .val (.long v49), .second, .val (.long v50), .second, .val (.long v51), .second, .val (.long v52), .second, .val (.long v53), .second, .val (.long v54), .second, .val (.long v55), .second, .unset, .unset, .unset] [(.long (((4 : Int64) * v49) - (v49 * v50))), (.double (FP.dmul (FP.dsub (FP.dsub v4 (FP.dmul v5 v4)) (FP.dmul v6 v5)) (4625196817309499392 : UInt64)))])) K
  refine Wlk.of (fun _ k => XS.lload X47.here hx rfl (hb hby at_166) rfl k) ?_
  show Wlk p.tables e below (T47.setTop (mkF m 168 #[.val (.int p1), .val (.int p2), .val (.int p3), .val (.int p4), .val (.int v1), .val (.int v2), .val (.int v3), .val (.double v4), .second, .val (.double v5), .second, .val (.double v6), .second, .val (.ref b7), .val (.ref nw_35), .val (.long v49), .second, .val (.long v50), .second, .val (.long v51), .second, .val (.long v52), .second, .val (.long v53), .second, .val (.long v54), .second, .val (.long v55), .second, .unset, .unset, .unset] [(.long v50), (.long (((4 : Int64) * v49) - (v49 * v50))), (.double (FP.dmul (FP.dsub (FP.dsub v4 (FP.dmul v5 v4)) (FP.dmul v6 v5)) (4625196817309499392 : UInt64)))])) K
  refine Wlk.of (fun _ k => XS.lload X47.here hx rfl (hb hby at_168) rfl k) ?_
  show Wlk p.tables e below (T47.setTop (mkF m 170 #[.val (.int p1), .val (.int p2), .val (.int p3), .val (.int p4), .val (.int v1), .val (.int v2), .val (.int v3), .val (.double v4), .second, .val (.double v5), .second, .val (.double v6), .second, .val (.ref b7), .val (.ref nw_35), .val (.long v49), .second, .val (.long v50), .second, .val (.long v51), .second, .val (.long v52), .second, .val (.long v53), .second, .val (.long v54), .second, .val (.long v55), .second, .unset, .unset, .unset] [(.long v51), (.long v50), (.long (((4 : Int64) * v49) - (v49 * v50))), (.double (FP.dmul (FP.dsub (FP.dsub v4 (FP.dmul v5 v4)) (FP.dmul v6 v5)) (4625196817309499392 : UInt64)))])) K
  refine Wlk.of (fun _ k => XS.lmul X47.here hx rfl (hb hby at_170) rfl k) ?_
  show Wlk p.tables e below (T47.setTop (mkF m 171 #[.val (.int p1), .val (.int p2), .val (.int p3), .val (.int p4), .val (.int v1), .val (.int v2), .val (.int v3), .val (.double v4), .second, .val (.double v5), .second, .val (.double v6), .second, .val (.ref b7), .val (.ref nw_35), .val (.long v49), .second, .val (.long v50), .second, .val (.long v51), .second, .val (.long v52), .second, .val (.long v53), .second, .val (.long v54), .second, .val (.long v55), .second, .unset, .unset, .unset] [(.long (v50 * v51)), (.long (((4 : Int64) * v49) - (v49 * v50))), (.double (FP.dmul (FP.dsub (FP.dsub v4 (FP.dmul v5 v4)) (FP.dmul v6 v5)) (4625196817309499392 : UInt64)))])) K
  refine Wlk.of (fun _ k => XS.lsub X47.here hx rfl (hb hby at_171) rfl k) ?_
  show Wlk p.tables e below (T47.setTop (mkF m 172 #[.val (.int p1), .val (.int p2), .val (.int p3), .val (.int p4), .val (.int v1), .val (.int v2), .val (.int v3), .val (.double v4), .second, .val (.double v5), .second, .val (.double v6), .second, .val (.ref b7), .val (.ref nw_35), .val (.long v49), .second, .val (.long v50), .second, .val (.long v51), .second, .val (.long v52), .second, .val (.long v53), .second, .val (.long v54), .second, .val (.long v55), .second, .unset, .unset, .unset] [(.long ((((4 : Int64) * v49) - (v49 * v50)) - (v50 * v51))), (.double (FP.dmul (FP.dsub (FP.dsub v4 (FP.dmul v5 v4)) (FP.dmul v6 v5)) (4625196817309499392 : UInt64)))])) K
  refine Wlk.of (fun _ k => XS.l2dS X47.here hx rfl (hb hby at_172) rfl rfl k) ?_
  show Wlk p.tables e below (T47.setTop (mkF m 173 #[.val (.int p1), .val (.int p2), .val (.int p3), .val (.int p4), .val (.int v1), .val (.int v2), .val (.int v3), .val (.double v4), .second, .val (.double v5), .second, .val (.double v6), .second, .val (.ref b7), .val (.ref nw_35), .val (.long v49), .second, .val (.long v50), .second, .val (.long v51), .second, .val (.long v52), .second, .val (.long v53), .second, .val (.long v54), .second, .val (.long v55), .second, .unset, .unset, .unset] [(.double (FP.l2d ((((4 : Int64) * v49) - (v49 * v50)) - (v50 * v51)))), (.double (FP.dmul (FP.dsub (FP.dsub v4 (FP.dmul v5 v4)) (FP.dmul v6 v5)) (4625196817309499392 : UInt64)))])) K
  refine Wlk.of (fun _ k => XS.dcmpS X47.here hx rfl (hb hby at_173) rfl rfl k) ?_
  show Wlk p.tables e below (T47.setTop (mkF m 174 #[.val (.int p1), .val (.int p2), .val (.int p3), .val (.int p4), .val (.int v1), .val (.int v2), .val (.int v3), .val (.double v4), .second, .val (.double v5), .second, .val (.double v6), .second, .val (.ref b7), .val (.ref nw_35), .val (.long v49), .second, .val (.long v50), .second, .val (.long v51), .second, .val (.long v52), .second, .val (.long v53), .second, .val (.long v54), .second, .val (.long v55), .second, .unset, .unset, .unset] [(.int (cmpValue (FP.dcmp (FP.dmul (FP.dsub (FP.dsub v4 (FP.dmul v5 v4)) (FP.dmul v6 v5)) (4625196817309499392 : UInt64)) (FP.l2d ((((4 : Int64) * v49) - (v49 * v50)) - (v50 * v51)))) .l))])) K
  refine Wlk.of (fun _ k => XS.ifNo X47.here hx rfl (hb hby at_174) rfl ((if0 _ _).trans (teq (Db.cmpV w0 y0 (by grind) _ : (cmpValue (FP.dcmp (FP.dmul (FP.dsub (FP.dsub v4 (FP.dmul v5 v4)) (FP.dmul v6 v5)) (4625196817309499392 : UInt64)) (FP.l2d ((((4 : Int64) * v49) - (v49 * v50)) - (v50 * v51)))) .l) = (0 : Int32))).2) k) ?_
  show Wlk p.tables e below (T47.setTop (mkF m 177 #[.val (.int p1), .val (.int p2), .val (.int p3), .val (.int p4), .val (.int v1), .val (.int v2), .val (.int v3), .val (.double v4), .second, .val (.double v5), .second, .val (.double v6), .second, .val (.ref b7), .val (.ref nw_35), .val (.long v49), .second, .val (.long v50), .second, .val (.long v51), .second, .val (.long v52), .second, .val (.long v53), .second, .val (.long v54), .second, .val (.long v55), .second, .unset, .unset, .unset] [])) K
  refine Wlk.of (fun _ k => XS.aload X47.here hx rfl (hb hby at_177) rfl rfl k) ?_
  show Wlk p.tables e below (T47.setTop (mkF m 179 #[.val (.int p1), .val (.int p2), .val (.int p3), .val (.int p4), .val (.int v1), .val (.int v2), .val (.int v3), .val (.double v4), .second, .val (.double v5), .second, .val (.double v6), .second, .val (.ref b7), .val (.ref nw_35), .val (.long v49), .second, .val (.long v50), .second, .val (.long v51), .second, .val (.long v52), .second, .val (.long v53), .second, .val (.long v54), .second, .val (.long v55), .second, .unset, .unset, .unset] [(.ref nw_35)])) K
  refine Wlk.of (fun _ k => XS.iconst X47.here hx rfl (hb hby at_179) k) ?_
  show Wlk p.tables e below (T47.setTop (mkF m 180 #[.val (.int p1), .val (.int p2), .val (.int p3), .val (.int p4), .val (.int v1), .val (.int v2), .val (.int v3), .val (.double v4), .second, .val (.double v5), .second, .val (.double v6), .second, .val (.ref b7), .val (.ref nw_35), .val (.long v49), .second, .val (.long v50), .second, .val (.long v51), .second, .val (.long v52), .second, .val (.long v53), .second, .val (.long v54), .second, .val (.long v55), .second, .unset, .unset, .unset] [(.int (1 : Int32)), (.ref nw_35)])) K
  refine Wlk.of (fun _ k => ldD X47 hx hZ hh47 p35_5 (j := (1 : Int32)) (i := 1) (by decide) (by decide) rfl (g := (mkF m 180 #[.val (.int p1), .val (.int p2), .val (.int p3), .val (.int p4), .val (.int v1), .val (.int v2), .val (.int v3), .val (.double v4), .second, .val (.double v5), .second, .val (.double v6), .second, .val (.ref b7), .val (.ref nw_35), .val (.long v49), .second, .val (.long v50), .second, .val (.long v51), .second, .val (.long v52), .second, .val (.long v53), .second, .val (.long v54), .second, .val (.long v55), .second, .unset, .unset, .unset] [(.int (1 : Int32)), (.ref nw_35)])) rfl rfl (hb hby at_180) _ k) ?_
  show Wlk p.tables e below (T47.setTop (mkF m 181 #[.val (.int p1), .val (.int p2), .val (.int p3), .val (.int p4), .val (.int v1), .val (.int v2), .val (.int v3), .val (.double v4), .second, .val (.double v5), .second, .val (.double v6), .second, .val (.ref b7), .val (.ref nw_35), .val (.long v49), .second, .val (.long v50), .second, .val (.long v51), .second, .val (.long v52), .second, .val (.long v53), .second, .val (.long v54), .second, .val (.long v55), .second, .unset, .unset, .unset] [(.double (FP.dsub v5 (FP.dmul v6 (FP.dsub v4 (FP.dmul v5 v4)))))])) K
  refine Wlk.of (fun _ k => X47.ldc2DoubleC hx hown (mvT hZ (hw _ (List.mem_of_getElem? (i := 35) rfl))) (g := (mkF m 181 #[.val (.int p1), .val (.int p2), .val (.int p3), .val (.int p4), .val (.int v1), .val (.int v2), .val (.int v3), .val (.double v4), .second, .val (.double v5), .second, .val (.double v6), .second, .val (.ref b7), .val (.ref nw_35), .val (.long v49), .second, .val (.long v50), .second, .val (.long v51), .second, .val (.long v52), .second, .val (.long v53), .second, .val (.long v54), .second, .val (.long v55), .second, .unset, .unset, .unset] [(.double (FP.dsub v5 (FP.dmul v6 (FP.dsub v4 (FP.dmul v5 v4)))))])) rfl (hb hby at_181) _ k) ?_
  show Wlk p.tables e below (T47.setTop (mkF m 184 #[.val (.int p1), .val (.int p2), .val (.int p3), .val (.int p4), .val (.int v1), .val (.int v2), .val (.int v3), .val (.double v4), .second, .val (.double v5), .second, .val (.double v6), .second, .val (.ref b7), .val (.ref nw_35), .val (.long v49), .second, .val (.long v50), .second, .val (.long v51), .second, .val (.long v52), .second, .val (.long v53), .second, .val (.long v54), .second, .val (.long v55), .second, .unset, .unset, .unset] [(.double (4634204016564240384 : UInt64)), (.double (FP.dsub v5 (FP.dmul v6 (FP.dsub v4 (FP.dmul v5 v4)))))])) K
  refine Wlk.of (fun _ k => XS.dmulS X47.here hx rfl (hb hby at_184) rfl w1.nn rfl k) ?_
  show Wlk p.tables e below (T47.setTop (mkF m 185 #[.val (.int p1), .val (.int p2), .val (.int p3), .val (.int p4), .val (.int v1), .val (.int v2), .val (.int v3), .val (.double v4), .second, .val (.double v5), .second, .val (.double v6), .second, .val (.ref b7), .val (.ref nw_35), .val (.long v49), .second, .val (.long v50), .second, .val (.long v51), .second, .val (.long v52), .second, .val (.long v53), .second, .val (.long v54), .second, .val (.long v55), .second, .unset, .unset, .unset] [(.double (FP.dmul (FP.dsub v5 (FP.dmul v6 (FP.dsub v4 (FP.dmul v5 v4)))) (4634204016564240384 : UInt64)))])) K
  refine Wlk.of (fun _ k => X47.ldc2Long hx hown (mvT hZ (hw _ (List.mem_of_getElem? (i := 32) rfl))) (g := (mkF m 185 #[.val (.int p1), .val (.int p2), .val (.int p3), .val (.int p4), .val (.int v1), .val (.int v2), .val (.int v3), .val (.double v4), .second, .val (.double v5), .second, .val (.double v6), .second, .val (.ref b7), .val (.ref nw_35), .val (.long v49), .second, .val (.long v50), .second, .val (.long v51), .second, .val (.long v52), .second, .val (.long v53), .second, .val (.long v54), .second, .val (.long v55), .second, .unset, .unset, .unset] [(.double (FP.dmul (FP.dsub v5 (FP.dmul v6 (FP.dsub v4 (FP.dmul v5 v4)))) (4634204016564240384 : UInt64)))])) rfl (hb hby at_185) _ k) ?_
  show Wlk p.tables e below (T47.setTop (mkF m 188 #[.val (.int p1), .val (.int p2), .val (.int p3), .val (.int p4), .val (.int v1), .val (.int v2), .val (.int v3), .val (.double v4), .second, .val (.double v5), .second, .val (.double v6), .second, .val (.ref b7), .val (.ref nw_35), .val (.long v49), .second, .val (.long v50), .second, .val (.long v51), .second, .val (.long v52), .second, .val (.long v53), .second, .val (.long v54), .second, .val (.long v55), .second, .unset, .unset, .unset] [(.long (16 : Int64)), (.double (FP.dmul (FP.dsub v5 (FP.dmul v6 (FP.dsub v4 (FP.dmul v5 v4)))) (4634204016564240384 : UInt64)))])) K
  refine Wlk.of (fun _ k => XS.lload X47.here hx rfl (hb hby at_188) rfl k) ?_
  show Wlk p.tables e below (T47.setTop (mkF m 190 #[.val (.int p1), .val (.int p2), .val (.int p3), .val (.int p4), .val (.int v1), .val (.int v2), .val (.int v3), .val (.double v4), .second, .val (.double v5), .second, .val (.double v6), .second, .val (.ref b7), .val (.ref nw_35), .val (.long v49), .second, .val (.long v50), .second, .val (.long v51), .second, .val (.long v52), .second, .val (.long v53), .second, .val (.long v54), .second, .val (.long v55), .second, .unset, .unset, .unset] [(.long v50), (.long (16 : Int64)), (.double (FP.dmul (FP.dsub v5 (FP.dmul v6 (FP.dsub v4 (FP.dmul v5 v4)))) (4634204016564240384 : UInt64)))])) K
  refine Wlk.of (fun _ k => XS.lmul X47.here hx rfl (hb hby at_190) rfl k) ?_
  show Wlk p.tables e below (T47.setTop (mkF m 191 #[.val (.int p1), .val (.int p2), .val (.int p3), .val (.int p4), .val (.int v1), .val (.int v2), .val (.int v3), .val (.double v4), .second, .val (.double v5), .second, .val (.double v6), .second, .val (.ref b7), .val (.ref nw_35), .val (.long v49), .second, .val (.long v50), .second, .val (.long v51), .second, .val (.long v52), .second, .val (.long v53), .second, .val (.long v54), .second, .val (.long v55), .second, .unset, .unset, .unset] [(.long ((16 : Int64) * v50)), (.double (FP.dmul (FP.dsub v5 (FP.dmul v6 (FP.dsub v4 (FP.dmul v5 v4)))) (4634204016564240384 : UInt64)))])) K
  refine Wlk.of (fun _ k => X47.ldc2Long hx hown (mvT hZ (hw _ (List.mem_of_getElem? (i := 34) rfl))) (g := (mkF m 191 #[.val (.int p1), .val (.int p2), .val (.int p3), .val (.int p4), .val (.int v1), .val (.int v2), .val (.int v3), .val (.double v4), .second, .val (.double v5), .second, .val (.double v6), .second, .val (.ref b7), .val (.ref nw_35), .val (.long v49), .second, .val (.long v50), .second, .val (.long v51), .second, .val (.long v52), .second, .val (.long v53), .second, .val (.long v54), .second, .val (.long v55), .second, .unset, .unset, .unset] [(.long ((16 : Int64) * v50)), (.double (FP.dmul (FP.dsub v5 (FP.dmul v6 (FP.dsub v4 (FP.dmul v5 v4)))) (4634204016564240384 : UInt64)))])) rfl (hb hby at_191) _ k) ?_
  show Wlk p.tables e below (T47.setTop (mkF m 194 #[.val (.int p1), .val (.int p2), .val (.int p3), .val (.int p4), .val (.int v1), .val (.int v2), .val (.int v3), .val (.double v4), .second, .val (.double v5), .second, .val (.double v6), .second, .val (.ref b7), .val (.ref nw_35), .val (.long v49), .second, .val (.long v50), .second, .val (.long v51), .second, .val (.long v52), .second, .val (.long v53), .second, .val (.long v54), .second, .val (.long v55), .second, .unset, .unset, .unset] [(.long (4 : Int64)), (.long ((16 : Int64) * v50)), (.double (FP.dmul (FP.dsub v5 (FP.dmul v6 (FP.dsub v4 (FP.dmul v5 v4)))) (4634204016564240384 : UInt64)))])) K
  refine Wlk.of (fun _ k => XS.lload X47.here hx rfl (hb hby at_194) rfl k) ?_
  show Wlk p.tables e below (T47.setTop (mkF m 196 #[.val (.int p1), .val (.int p2), .val (.int p3), .val (.int p4), .val (.int v1), .val (.int v2), .val (.int v3), .val (.double v4), .second, .val (.double v5), .second, .val (.double v6), .second, .val (.ref b7), .val (.ref nw_35), .val (.long v49), .second, .val (.long v50), .second, .val (.long v51), .second, .val (.long v52), .second, .val (.long v53), .second, .val (.long v54), .second, .val (.long v55), .second, .unset, .unset, .unset] [(.long v49), (.long (4 : Int64)), (.long ((16 : Int64) * v50)), (.double (FP.dmul (FP.dsub v5 (FP.dmul v6 (FP.dsub v4 (FP.dmul v5 v4)))) (4634204016564240384 : UInt64)))])) K
  refine Wlk.of (fun _ k => XS.lmul X47.here hx rfl (hb hby at_196) rfl k) ?_
  show Wlk p.tables e below (T47.setTop (mkF m 197 #[.val (.int p1), .val (.int p2), .val (.int p3), .val (.int p4), .val (.int v1), .val (.int v2), .val (.int v3), .val (.double v4), .second, .val (.double v5), .second, .val (.double v6), .second, .val (.ref b7), .val (.ref nw_35), .val (.long v49), .second, .val (.long v50), .second, .val (.long v51), .second, .val (.long v52), .second, .val (.long v53), .second, .val (.long v54), .second, .val (.long v55), .second, .unset, .unset, .unset] [(.long ((4 : Int64) * v49)), (.long ((16 : Int64) * v50)), (.double (FP.dmul (FP.dsub v5 (FP.dmul v6 (FP.dsub v4 (FP.dmul v5 v4)))) (4634204016564240384 : UInt64)))])) K
  refine Wlk.of (fun _ k => XS.lload X47.here hx rfl (hb hby at_197) rfl k) ?_
  show Wlk p.tables e below (T47.setTop (mkF m 199 #[.val (.int p1), .val (.int p2), .val (.int p3), .val (.int p4), .val (.int v1), .val (.int v2), .val (.int v3), .val (.double v4), .second, .val (.double v5), .second, .val (.double v6), .second, .val (.ref b7), .val (.ref nw_35), .val (.long v49), .second, .val (.long v50), .second, .val (.long v51), .second, .val (.long v52), .second, .val (.long v53), .second, .val (.long v54), .second, .val (.long v55), .second, .unset, .unset, .unset] [(.long v51), (.long ((4 : Int64) * v49)), (.long ((16 : Int64) * v50)), (.double (FP.dmul (FP.dsub v5 (FP.dmul v6 (FP.dsub v4 (FP.dmul v5 v4)))) (4634204016564240384 : UInt64)))])) K
  refine Wlk.of (fun _ k => XS.lmul X47.here hx rfl (hb hby at_199) rfl k) ?_
  show Wlk p.tables e below (T47.setTop (mkF m 200 #[.val (.int p1), .val (.int p2), .val (.int p3), .val (.int p4), .val (.int v1), .val (.int v2), .val (.int v3), .val (.double v4), .second, .val (.double v5), .second, .val (.double v6), .second, .val (.ref b7), .val (.ref nw_35), .val (.long v49), .second, .val (.long v50), .second, .val (.long v51), .second, .val (.long v52), .second, .val (.long v53), .second, .val (.long v54), .second, .val (.long v55), .second, .unset, .unset, .unset] [(.long (((4 : Int64) * v49) * v51)), (.long ((16 : Int64) * v50)), (.double (FP.dmul (FP.dsub v5 (FP.dmul v6 (FP.dsub v4 (FP.dmul v5 v4)))) (4634204016564240384 : UInt64)))])) K
  refine Wlk.of (fun _ k => XS.lsub X47.here hx rfl (hb hby at_200) rfl k) ?_
  show Wlk p.tables e below (T47.setTop (mkF m 201 #[.val (.int p1), .val (.int p2), .val (.int p3), .val (.int p4), .val (.int v1), .val (.int v2), .val (.int v3), .val (.double v4), .second, .val (.double v5), .second, .val (.double v6), .second, .val (.ref b7), .val (.ref nw_35), .val (.long v49), .second, .val (.long v50), .second, .val (.long v51), .second, .val (.long v52), .second, .val (.long v53), .second, .val (.long v54), .second, .val (.long v55), .second, .unset, .unset, .unset] [(.long (((16 : Int64) * v50) - (((4 : Int64) * v49) * v51))), (.double (FP.dmul (FP.dsub v5 (FP.dmul v6 (FP.dsub v4 (FP.dmul v5 v4)))) (4634204016564240384 : UInt64)))])) K
  refine Wlk.of (fun _ k => XS.lload X47.here hx rfl (hb hby at_201) rfl k) ?_
  show Wlk p.tables e below (T47.setTop (mkF m 203 #[.val (.int p1), .val (.int p2), .val (.int p3), .val (.int p4), .val (.int v1), .val (.int v2), .val (.int v3), .val (.double v4), .second, .val (.double v5), .second, .val (.double v6), .second, .val (.ref b7), .val (.ref nw_35), .val (.long v49), .second, .val (.long v50), .second, .val (.long v51), .second, .val (.long v52), .second, .val (.long v53), .second, .val (.long v54), .second, .val (.long v55), .second, .unset, .unset, .unset] [(.long v49), (.long (((16 : Int64) * v50) - (((4 : Int64) * v49) * v51))), (.double (FP.dmul (FP.dsub v5 (FP.dmul v6 (FP.dsub v4 (FP.dmul v5 v4)))) (4634204016564240384 : UInt64)))])) K
  refine Wlk.of (fun _ k => XS.lload X47.here hx rfl (hb hby at_203) rfl k) ?_
  show Wlk p.tables e below (T47.setTop (mkF m 205 #[.val (.int p1), .val (.int p2), .val (.int p3), .val (.int p4), .val (.int v1), .val (.int v2), .val (.int v3), .val (.double v4), .second, .val (.double v5), .second, .val (.double v6), .second, .val (.ref b7), .val (.ref nw_35), .val (.long v49), .second, .val (.long v50), .second, .val (.long v51), .second, .val (.long v52), .second, .val (.long v53), .second, .val (.long v54), .second, .val (.long v55), .second, .unset, .unset, .unset] [(.long v50), (.long v49), (.long (((16 : Int64) * v50) - (((4 : Int64) * v49) * v51))), (.double (FP.dmul (FP.dsub v5 (FP.dmul v6 (FP.dsub v4 (FP.dmul v5 v4)))) (4634204016564240384 : UInt64)))])) K
  refine Wlk.of (fun _ k => XS.lmul X47.here hx rfl (hb hby at_205) rfl k) ?_
  show Wlk p.tables e below (T47.setTop (mkF m 206 #[.val (.int p1), .val (.int p2), .val (.int p3), .val (.int p4), .val (.int v1), .val (.int v2), .val (.int v3), .val (.double v4), .second, .val (.double v5), .second, .val (.double v6), .second, .val (.ref b7), .val (.ref nw_35), .val (.long v49), .second, .val (.long v50), .second, .val (.long v51), .second, .val (.long v52), .second, .val (.long v53), .second, .val (.long v54), .second, .val (.long v55), .second, .unset, .unset, .unset] [(.long (v49 * v50)), (.long (((16 : Int64) * v50) - (((4 : Int64) * v49) * v51))), (.double (FP.dmul (FP.dsub v5 (FP.dmul v6 (FP.dsub v4 (FP.dmul v5 v4)))) (4634204016564240384 : UInt64)))])) K
  refine Wlk.of (fun _ k => XS.lload X47.here hx rfl (hb hby at_206) rfl k) ?_
  show Wlk p.tables e below (T47.setTop (mkF m 208 #[.val (.int p1), .val (.int p2), .val (.int p3), .val (.int p4), .val (.int v1), .val (.int v2), .val (.int v3), .val (.double v4), .second, .val (.double v5), .second, .val (.double v6), .second, .val (.ref b7), .val (.ref nw_35), .val (.long v49), .second, .val (.long v50), .second, .val (.long v51), .second, .val (.long v52), .second, .val (.long v53), .second, .val (.long v54), .second, .val (.long v55), .second, .unset, .unset, .unset] [(.long v51), (.long (v49 * v50)), (.long (((16 : Int64) * v50) - (((4 : Int64) * v49) * v51))), (.double (FP.dmul (FP.dsub v5 (FP.dmul v6 (FP.dsub v4 (FP.dmul v5 v4)))) (4634204016564240384 : UInt64)))])) K
  refine Wlk.of (fun _ k => XS.lmul X47.here hx rfl (hb hby at_208) rfl k) ?_
  show Wlk p.tables e below (T47.setTop (mkF m 209 #[.val (.int p1), .val (.int p2), .val (.int p3), .val (.int p4), .val (.int v1), .val (.int v2), .val (.int v3), .val (.double v4), .second, .val (.double v5), .second, .val (.double v6), .second, .val (.ref b7), .val (.ref nw_35), .val (.long v49), .second, .val (.long v50), .second, .val (.long v51), .second, .val (.long v52), .second, .val (.long v53), .second, .val (.long v54), .second, .val (.long v55), .second, .unset, .unset, .unset] [(.long ((v49 * v50) * v51)), (.long (((16 : Int64) * v50) - (((4 : Int64) * v49) * v51))), (.double (FP.dmul (FP.dsub v5 (FP.dmul v6 (FP.dsub v4 (FP.dmul v5 v4)))) (4634204016564240384 : UInt64)))])) K
  refine Wlk.of (fun _ k => XS.ladd X47.here hx rfl (hb hby at_209) rfl k) ?_
  show Wlk p.tables e below (T47.setTop (mkF m 210 #[.val (.int p1), .val (.int p2), .val (.int p3), .val (.int p4), .val (.int v1), .val (.int v2), .val (.int v3), .val (.double v4), .second, .val (.double v5), .second, .val (.double v6), .second, .val (.ref b7), .val (.ref nw_35), .val (.long v49), .second, .val (.long v50), .second, .val (.long v51), .second, .val (.long v52), .second, .val (.long v53), .second, .val (.long v54), .second, .val (.long v55), .second, .unset, .unset, .unset] [(.long ((((16 : Int64) * v50) - (((4 : Int64) * v49) * v51)) + ((v49 * v50) * v51))), (.double (FP.dmul (FP.dsub v5 (FP.dmul v6 (FP.dsub v4 (FP.dmul v5 v4)))) (4634204016564240384 : UInt64)))])) K
  refine Wlk.of (fun _ k => XS.l2dS X47.here hx rfl (hb hby at_210) rfl rfl k) ?_
  show Wlk p.tables e below (T47.setTop (mkF m 211 #[.val (.int p1), .val (.int p2), .val (.int p3), .val (.int p4), .val (.int v1), .val (.int v2), .val (.int v3), .val (.double v4), .second, .val (.double v5), .second, .val (.double v6), .second, .val (.ref b7), .val (.ref nw_35), .val (.long v49), .second, .val (.long v50), .second, .val (.long v51), .second, .val (.long v52), .second, .val (.long v53), .second, .val (.long v54), .second, .val (.long v55), .second, .unset, .unset, .unset] [(.double (FP.l2d ((((16 : Int64) * v50) - (((4 : Int64) * v49) * v51)) + ((v49 * v50) * v51)))), (.double (FP.dmul (FP.dsub v5 (FP.dmul v6 (FP.dsub v4 (FP.dmul v5 v4)))) (4634204016564240384 : UInt64)))])) K
  refine Wlk.of (fun _ k => XS.dcmpS X47.here hx rfl (hb hby at_211) rfl rfl k) ?_
  show Wlk p.tables e below (T47.setTop (mkF m 212 #[.val (.int p1), .val (.int p2), .val (.int p3), .val (.int p4), .val (.int v1), .val (.int v2), .val (.int v3), .val (.double v4), .second, .val (.double v5), .second, .val (.double v6), .second, .val (.ref b7), .val (.ref nw_35), .val (.long v49), .second, .val (.long v50), .second, .val (.long v51), .second, .val (.long v52), .second, .val (.long v53), .second, .val (.long v54), .second, .val (.long v55), .second, .unset, .unset, .unset] [(.int (cmpValue (FP.dcmp (FP.dmul (FP.dsub v5 (FP.dmul v6 (FP.dsub v4 (FP.dmul v5 v4)))) (4634204016564240384 : UInt64)) (FP.l2d ((((16 : Int64) * v50) - (((4 : Int64) * v49) * v51)) + ((v49 * v50) * v51)))) .l))])) K
  refine Wlk.of (fun _ k => XS.ifNo X47.here hx rfl (hb hby at_212) rfl ((if0 _ _).trans (teq (Db.cmpV w1 y1 (by grind) _ : (cmpValue (FP.dcmp (FP.dmul (FP.dsub v5 (FP.dmul v6 (FP.dsub v4 (FP.dmul v5 v4)))) (4634204016564240384 : UInt64)) (FP.l2d ((((16 : Int64) * v50) - (((4 : Int64) * v49) * v51)) + ((v49 * v50) * v51)))) .l) = (0 : Int32))).2) k) ?_
  show Wlk p.tables e below (T47.setTop (mkF m 215 #[.val (.int p1), .val (.int p2), .val (.int p3), .val (.int p4), .val (.int v1), .val (.int v2), .val (.int v3), .val (.double v4), .second, .val (.double v5), .second, .val (.double v6), .second, .val (.ref b7), .val (.ref nw_35), .val (.long v49), .second, .val (.long v50), .second, .val (.long v51), .second, .val (.long v52), .second, .val (.long v53), .second, .val (.long v54), .second, .val (.long v55), .second, .unset, .unset, .unset] [])) K
  refine Wlk.of (fun _ k => XS.aload X47.here hx rfl (hb hby at_215) rfl rfl k) ?_
  show Wlk p.tables e below (T47.setTop (mkF m 217 #[.val (.int p1), .val (.int p2), .val (.int p3), .val (.int p4), .val (.int v1), .val (.int v2), .val (.int v3), .val (.double v4), .second, .val (.double v5), .second, .val (.double v6), .second, .val (.ref b7), .val (.ref nw_35), .val (.long v49), .second, .val (.long v50), .second, .val (.long v51), .second, .val (.long v52), .second, .val (.long v53), .second, .val (.long v54), .second, .val (.long v55), .second, .unset, .unset, .unset] [(.ref nw_35)])) K
  refine Wlk.of (fun _ k => XS.iconst X47.here hx rfl (hb hby at_217) k) ?_
  show Wlk p.tables e below (T47.setTop (mkF m 218 #[.val (.int p1), .val (.int p2), .val (.int p3), .val (.int p4), .val (.int v1), .val (.int v2), .val (.int v3), .val (.double v4), .second, .val (.double v5), .second, .val (.double v6), .second, .val (.ref b7), .val (.ref nw_35), .val (.long v49), .second, .val (.long v50), .second, .val (.long v51), .second, .val (.long v52), .second, .val (.long v53), .second, .val (.long v54), .second, .val (.long v55), .second, .unset, .unset, .unset] [(.int (2 : Int32)), (.ref nw_35)])) K
  refine Wlk.of (fun _ k => ldD X47 hx hZ hh47 p35_5 (j := (2 : Int32)) (i := 2) (by decide) (by decide) rfl (g := (mkF m 218 #[.val (.int p1), .val (.int p2), .val (.int p3), .val (.int p4), .val (.int v1), .val (.int v2), .val (.int v3), .val (.double v4), .second, .val (.double v5), .second, .val (.double v6), .second, .val (.ref b7), .val (.ref nw_35), .val (.long v49), .second, .val (.long v50), .second, .val (.long v51), .second, .val (.long v52), .second, .val (.long v53), .second, .val (.long v54), .second, .val (.long v55), .second, .unset, .unset, .unset] [(.int (2 : Int32)), (.ref nw_35)])) rfl rfl (hb hby at_218) _ k) ?_
  show Wlk p.tables e below (T47.setTop (mkF m 219 #[.val (.int p1), .val (.int p2), .val (.int p3), .val (.int p4), .val (.int v1), .val (.int v2), .val (.int v3), .val (.double v4), .second, .val (.double v5), .second, .val (.double v6), .second, .val (.ref b7), .val (.ref nw_35), .val (.long v49), .second, .val (.long v50), .second, .val (.long v51), .second, .val (.long v52), .second, .val (.long v53), .second, .val (.long v54), .second, .val (.long v55), .second, .unset, .unset, .unset] [(.double v6)])) K
  refine Wlk.of (fun _ k => X47.ldc2DoubleC hx hown (mvT hZ (hw _ (List.mem_of_getElem? (i := 0) rfl))) (g := (mkF m 219 #[.val (.int p1), .val (.int p2), .val (.int p3), .val (.int p4), .val (.int v1), .val (.int v2), .val (.int v3), .val (.double v4), .second, .val (.double v5), .second, .val (.double v6), .second, .val (.ref b7), .val (.ref nw_35), .val (.long v49), .second, .val (.long v50), .second, .val (.long v51), .second, .val (.long v52), .second, .val (.long v53), .second, .val (.long v54), .second, .val (.long v55), .second, .unset, .unset, .unset] [(.double v6)])) rfl (hb hby at_219) _ k) ?_
  show Wlk p.tables e below (T47.setTop (mkF m 222 #[.val (.int p1), .val (.int p2), .val (.int p3), .val (.int p4), .val (.int v1), .val (.int v2), .val (.int v3), .val (.double v4), .second, .val (.double v5), .second, .val (.double v6), .second, .val (.ref b7), .val (.ref nw_35), .val (.long v49), .second, .val (.long v50), .second, .val (.long v51), .second, .val (.long v52), .second, .val (.long v53), .second, .val (.long v54), .second, .val (.long v55), .second, .unset, .unset, .unset] [(.double (4616189618054758400 : UInt64)), (.double v6)])) K
  refine Wlk.of (fun _ k => XS.dmulS X47.here hx rfl (hb hby at_222) rfl w2.nn rfl k) ?_
  show Wlk p.tables e below (T47.setTop (mkF m 223 #[.val (.int p1), .val (.int p2), .val (.int p3), .val (.int p4), .val (.int v1), .val (.int v2), .val (.int v3), .val (.double v4), .second, .val (.double v5), .second, .val (.double v6), .second, .val (.ref b7), .val (.ref nw_35), .val (.long v49), .second, .val (.long v50), .second, .val (.long v51), .second, .val (.long v52), .second, .val (.long v53), .second, .val (.long v54), .second, .val (.long v55), .second, .unset, .unset, .unset] [(.double (FP.dmul v6 (4616189618054758400 : UInt64)))])) K
  refine Wlk.of (fun _ k => XS.lload X47.here hx rfl (hb hby at_223) rfl k) ?_
  show Wlk p.tables e below (T47.setTop (mkF m 225 #[.val (.int p1), .val (.int p2), .val (.int p3), .val (.int p4), .val (.int v1), .val (.int v2), .val (.int v3), .val (.double v4), .second, .val (.double v5), .second, .val (.double v6), .second, .val (.ref b7), .val (.ref nw_35), .val (.long v49), .second, .val (.long v50), .second, .val (.long v51), .second, .val (.long v52), .second, .val (.long v53), .second, .val (.long v54), .second, .val (.long v55), .second, .unset, .unset, .unset] [(.long v51), (.double (FP.dmul v6 (4616189618054758400 : UInt64)))])) K
  refine Wlk.of (fun _ k => XS.l2dS X47.here hx rfl (hb hby at_225) rfl rfl k) ?_
  show Wlk p.tables e below (T47.setTop (mkF m 226 #[.val (.int p1), .val (.int p2), .val (.int p3), .val (.int p4), .val (.int v1), .val (.int v2), .val (.int v3), .val (.double v4), .second, .val (.double v5), .second, .val (.double v6), .second, .val (.ref b7), .val (.ref nw_35), .val (.long v49), .second, .val (.long v50), .second, .val (.long v51), .second, .val (.long v52), .second, .val (.long v53), .second, .val (.long v54), .second, .val (.long v55), .second, .unset, .unset, .unset] [(.double (FP.l2d v51)), (.double (FP.dmul v6 (4616189618054758400 : UInt64)))])) K
  refine Wlk.of (fun _ k => XS.dcmpS X47.here hx rfl (hb hby at_226) rfl rfl k) ?_
  show Wlk p.tables e below (T47.setTop (mkF m 227 #[.val (.int p1), .val (.int p2), .val (.int p3), .val (.int p4), .val (.int v1), .val (.int v2), .val (.int v3), .val (.double v4), .second, .val (.double v5), .second, .val (.double v6), .second, .val (.ref b7), .val (.ref nw_35), .val (.long v49), .second, .val (.long v50), .second, .val (.long v51), .second, .val (.long v52), .second, .val (.long v53), .second, .val (.long v54), .second, .val (.long v55), .second, .unset, .unset, .unset] [(.int (cmpValue (FP.dcmp (FP.dmul v6 (4616189618054758400 : UInt64)) (FP.l2d v51)) .l))])) K
  refine Wlk.of (fun _ k => XS.ifNo X47.here hx rfl (hb hby at_227) rfl ((if0 _ _).trans (teq (Db.cmpV w2 y2 (by grind) _ : (cmpValue (FP.dcmp (FP.dmul v6 (4616189618054758400 : UInt64)) (FP.l2d v51)) .l) = (0 : Int32))).2) k) ?_
  show Wlk p.tables e below (T47.setTop (mkF m 230 #[.val (.int p1), .val (.int p2), .val (.int p3), .val (.int p4), .val (.int v1), .val (.int v2), .val (.int v3), .val (.double v4), .second, .val (.double v5), .second, .val (.double v6), .second, .val (.ref b7), .val (.ref nw_35), .val (.long v49), .second, .val (.long v50), .second, .val (.long v51), .second, .val (.long v52), .second, .val (.long v53), .second, .val (.long v54), .second, .val (.long v55), .second, .unset, .unset, .unset] [])) K
  refine Wlk.of (fun _ k => XS.iconst X47.here hx rfl (hb hby at_230) k) ?_
  show Wlk p.tables e below (T47.setTop (mkF m 231 #[.val (.int p1), .val (.int p2), .val (.int p3), .val (.int p4), .val (.int v1), .val (.int v2), .val (.int v3), .val (.double v4), .second, .val (.double v5), .second, .val (.double v6), .second, .val (.ref b7), .val (.ref nw_35), .val (.long v49), .second, .val (.long v50), .second, .val (.long v51), .second, .val (.long v52), .second, .val (.long v53), .second, .val (.long v54), .second, .val (.long v55), .second, .unset, .unset, .unset] [(.int (1 : Int32))])) K
  refine Wlk.of (fun _ k => XS.goto X47.here hx rfl (pc0 := 231) (pc' := 235) rfl (hb hby at_231) (by decide) (by decide) k) ?_
  show Wlk p.tables e below (T47.setTop (mkF m 235 #[.val (.int p1), .val (.int p2), .val (.int p3), .val (.int p4), .val (.int v1), .val (.int v2), .val (.int v3), .val (.double v4), .second, .val (.double v5), .second, .val (.double v6), .second, .val (.ref b7), .val (.ref nw_35), .val (.long v49), .second, .val (.long v50), .second, .val (.long v51), .second, .val (.long v52), .second, .val (.long v53), .second, .val (.long v54), .second, .val (.long v55), .second, .unset, .unset, .unset] [(.int (1 : Int32))])) K
  refine Wlk.of (fun _ k => XS.istore X47.here hx rfl (hb hby at_235) rfl (l' := #[.val (.int p1), .val (.int p2), .val (.int p3), .val (.int p4), .val (.int v1), .val (.int v2), .val (.int v3), .val (.double v4), .second, .val (.double v5), .second, .val (.double v6), .second, .val (.ref b7), .val (.ref nw_35), .val (.long v49), .second, .val (.long v50), .second, .val (.long v51), .second, .val (.long v52), .second, .val (.long v53), .second, .val (.long v54), .second, .val (.long v55), .second, .val (.int (1 : Int32)), .unset, .unset]) rfl k) ?_
  show Wlk p.tables e below (T47.setTop (mkF m 237 #[.val (.int p1), .val (.int p2), .val (.int p3), .val (.int p4), .val (.int v1), .val (.int v2), .val (.int v3), .val (.double v4), .second, .val (.double v5), .second, .val (.double v6), .second, .val (.ref b7), .val (.ref nw_35), .val (.long v49), .second, .val (.long v50), .second, .val (.long v51), .second, .val (.long v52), .second, .val (.long v53), .second, .val (.long v54), .second, .val (.long v55), .second, .val (.int (1 : Int32)), .unset, .unset] [])) K
  refine Wlk.of (fun _ k => XS.aload X47.here hx rfl (hb hby at_237) rfl rfl k) ?_
  show Wlk p.tables e below (T47.setTop (mkF m 239 #[.val (.int p1), .val (.int p2), .val (.int p3), .val (.int p4), .val (.int v1), .val (.int v2), .val (.int v3), .val (.double v4), .second, .val (.double v5), .second, .val (.double v6), .second, .val (.ref b7), .val (.ref nw_35), .val (.long v49), .second, .val (.long v50), .second, .val (.long v51), .second, .val (.long v52), .second, .val (.long v53), .second, .val (.long v54), .second, .val (.long v55), .second, .val (.int (1 : Int32)), .unset, .unset] [(.ref b7)])) K
  refine Wlk.of (fun _ k => XS.iconst X47.here hx rfl (hb hby at_239) k) ?_
  show Wlk p.tables e below (T47.setTop (mkF m 240 #[.val (.int p1), .val (.int p2), .val (.int p3), .val (.int p4), .val (.int v1), .val (.int v2), .val (.int v3), .val (.double v4), .second, .val (.double v5), .second, .val (.double v6), .second, .val (.ref b7), .val (.ref nw_35), .val (.long v49), .second, .val (.long v50), .second, .val (.long v51), .second, .val (.long v52), .second, .val (.long v53), .second, .val (.long v54), .second, .val (.long v55), .second, .val (.int (1 : Int32)), .unset, .unset] [(.int (1 : Int32)), (.ref b7)])) K
  obtain ⟨v56, T56, L56, X56, q56, st56⟩ := Ctr.virtual (y := (⟨"lagwise/estimators/ArRecursion", "reflection", "(I)D"⟩ : MethodName)) (rmR0 l Z a0 hw b7 rf_10 v4 v5 v6 T35.heap n0 (Nat.le_trans Z0 K45.1) p35_2 p35_6) X47 hx hZ hh47 hown (hw _ (List.mem_of_getElem? (i := 36) rfl)) (hw _ (List.mem_of_getElem? (i := 37) rfl)) (notFace_of_selects (args := #[]) (mvT hZ (hw _ (List.mem_of_getElem? (i := 39) rfl)))) (hw _ (List.mem_of_getElem? (i := 39) rfl)) (hw _ (List.mem_of_getElem? (i := 38) rfl)) (hw _ (List.mem_of_getElem? (i := 3) rfl)) (hw _ (List.mem_of_getElem? (i := 40) rfl)) (by decide) f46 pd_284 (g := (mkF m 240 #[.val (.int p1), .val (.int p2), .val (.int p3), .val (.int p4), .val (.int v1), .val (.int v2), .val (.int v3), .val (.double v4), .second, .val (.double v5), .second, .val (.double v6), .second, .val (.ref b7), .val (.ref nw_35), .val (.long v49), .second, .val (.long v50), .second, .val (.long v51), .second, .val (.long v52), .second, .val (.long v53), .second, .val (.long v54), .second, .val (.long v55), .second, .val (.int (1 : Int32)), .unset, .unset] [(.int (1 : Int32)), (.ref b7)])) rfl (by rw [hml]; rfl) (argsL := [(.int (1 : Int32))]) (rest := []) rfl rfl rfl (W := 0) (by show 2 * 0 + _ ≤ _; exact Nat.le_of_eq rfl) (by decide) (by decide) (hb hby at_240) (by decide) (by decide)
  obtain ⟨rfl, N56q, hh56⟩ := q56
  have N57 := Fr.app N48 N56q
  refine Wlk.of (fun _ k => st56 _ k) ?_
  show Wlk p.tables e below (T56.setTop (mkF m 243 #[.val (.int p1), .val (.int p2), .val (.int p3), .val (.int p4), .val (.int v1), .val (.int v2), .val (.int v3), .val (.double v4), .second, .val (.double v5), .second, .val (.double v6), .second, .val (.ref b7), .val (.ref nw_35), .val (.long v49), .second, .val (.long v50), .second, .val (.long v51), .second, .val (.long v52), .second, .val (.long v53), .second, .val (.long v54), .second, .val (.long v55), .second, .val (.int (1 : Int32)), .unset, .unset] [(.double v4)])) K
  refine Wlk.of (fun _ k => XS.dload X56.here hx rfl (hb hby at_243) rfl k) ?_
  show Wlk p.tables e below (T56.setTop (mkF m 245 #[.val (.int p1), .val (.int p2), .val (.int p3), .val (.int p4), .val (.int v1), .val (.int v2), .val (.int v3), .val (.double v4), .second, .val (.double v5), .second, .val (.double v6), .second, .val (.ref b7), .val (.ref nw_35), .val (.long v49), .second, .val (.long v50), .second, .val (.long v51), .second, .val (.long v52), .second, .val (.long v53), .second, .val (.long v54), .second, .val (.long v55), .second, .val (.int (1 : Int32)), .unset, .unset] [(.double v4), (.double v4)])) K
  refine Wlk.of (fun _ k => XS.dcmpS X56.here hx rfl (hb hby at_245) rfl rfl k) ?_
  show Wlk p.tables e below (T56.setTop (mkF m 246 #[.val (.int p1), .val (.int p2), .val (.int p3), .val (.int p4), .val (.int v1), .val (.int v2), .val (.int v3), .val (.double v4), .second, .val (.double v5), .second, .val (.double v6), .second, .val (.ref b7), .val (.ref nw_35), .val (.long v49), .second, .val (.long v50), .second, .val (.long v51), .second, .val (.long v52), .second, .val (.long v53), .second, .val (.long v54), .second, .val (.long v55), .second, .val (.int (1 : Int32)), .unset, .unset] [(.int (cmpValue (FP.dcmp v4 v4) .l))])) K
  refine Wlk.of (fun _ k => XS.ifNo X56.here hx rfl (hb hby at_246) rfl ((if0 _ _).trans (teq (dcmpV_self D1.nn _ : (cmpValue (FP.dcmp v4 v4) .l) = (0 : Int32))).2) k) ?_
  show Wlk p.tables e below (T56.setTop (mkF m 249 #[.val (.int p1), .val (.int p2), .val (.int p3), .val (.int p4), .val (.int v1), .val (.int v2), .val (.int v3), .val (.double v4), .second, .val (.double v5), .second, .val (.double v6), .second, .val (.ref b7), .val (.ref nw_35), .val (.long v49), .second, .val (.long v50), .second, .val (.long v51), .second, .val (.long v52), .second, .val (.long v53), .second, .val (.long v54), .second, .val (.long v55), .second, .val (.int (1 : Int32)), .unset, .unset] [])) K
  refine Wlk.of (fun _ k => XS.aload X56.here hx rfl (hb hby at_249) rfl rfl k) ?_
  show Wlk p.tables e below (T56.setTop (mkF m 251 #[.val (.int p1), .val (.int p2), .val (.int p3), .val (.int p4), .val (.int v1), .val (.int v2), .val (.int v3), .val (.double v4), .second, .val (.double v5), .second, .val (.double v6), .second, .val (.ref b7), .val (.ref nw_35), .val (.long v49), .second, .val (.long v50), .second, .val (.long v51), .second, .val (.long v52), .second, .val (.long v53), .second, .val (.long v54), .second, .val (.long v55), .second, .val (.int (1 : Int32)), .unset, .unset] [(.ref b7)])) K
  refine Wlk.of (fun _ k => XS.iconst X56.here hx rfl (hb hby at_251) k) ?_
  show Wlk p.tables e below (T56.setTop (mkF m 252 #[.val (.int p1), .val (.int p2), .val (.int p3), .val (.int p4), .val (.int v1), .val (.int v2), .val (.int v3), .val (.double v4), .second, .val (.double v5), .second, .val (.double v6), .second, .val (.ref b7), .val (.ref nw_35), .val (.long v49), .second, .val (.long v50), .second, .val (.long v51), .second, .val (.long v52), .second, .val (.long v53), .second, .val (.long v54), .second, .val (.long v55), .second, .val (.int (1 : Int32)), .unset, .unset] [(.int (2 : Int32)), (.ref b7)])) K
  obtain ⟨v58, T58, L58, X58, q58, st58⟩ := Ctr.virtual (y := (⟨"lagwise/estimators/ArRecursion", "reflection", "(I)D"⟩ : MethodName)) (rmR1 l Z a0 hw b7 rf_10 v4 v5 v6 T35.heap n0 (Nat.le_trans Z0 K45.1) p35_2 p35_6) X56 hx hZ hh56 hown (hw _ (List.mem_of_getElem? (i := 36) rfl)) (hw _ (List.mem_of_getElem? (i := 37) rfl)) (notFace_of_selects (args := #[]) (mvT hZ (hw _ (List.mem_of_getElem? (i := 39) rfl)))) (hw _ (List.mem_of_getElem? (i := 39) rfl)) (hw _ (List.mem_of_getElem? (i := 38) rfl)) (hw _ (List.mem_of_getElem? (i := 3) rfl)) (hw _ (List.mem_of_getElem? (i := 40) rfl)) (by decide) f46 pd_284 (g := (mkF m 252 #[.val (.int p1), .val (.int p2), .val (.int p3), .val (.int p4), .val (.int v1), .val (.int v2), .val (.int v3), .val (.double v4), .second, .val (.double v5), .second, .val (.double v6), .second, .val (.ref b7), .val (.ref nw_35), .val (.long v49), .second, .val (.long v50), .second, .val (.long v51), .second, .val (.long v52), .second, .val (.long v53), .second, .val (.long v54), .second, .val (.long v55), .second, .val (.int (1 : Int32)), .unset, .unset] [(.int (2 : Int32)), (.ref b7)])) rfl (by rw [hml]; rfl) (argsL := [(.int (2 : Int32))]) (rest := []) rfl rfl rfl (W := 0) (by show 2 * 0 + _ ≤ _; exact Nat.le_of_eq rfl) (by decide) (by decide) (hb hby at_252) (by decide) (by decide)
  obtain ⟨rfl, N58q, hh58⟩ := q58
  have N59 := Fr.app N57 N58q
  refine Wlk.of (fun _ k => st58 _ k) ?_
  show Wlk p.tables e below (T58.setTop (mkF m 255 #[.val (.int p1), .val (.int p2), .val (.int p3), .val (.int p4), .val (.int v1), .val (.int v2), .val (.int v3), .val (.double v4), .second, .val (.double v5), .second, .val (.double v6), .second, .val (.ref b7), .val (.ref nw_35), .val (.long v49), .second, .val (.long v50), .second, .val (.long v51), .second, .val (.long v52), .second, .val (.long v53), .second, .val (.long v54), .second, .val (.long v55), .second, .val (.int (1 : Int32)), .unset, .unset] [(.double v5)])) K
  refine Wlk.of (fun _ k => XS.dload X58.here hx rfl (hb hby at_255) rfl k) ?_
  show Wlk p.tables e below (T58.setTop (mkF m 257 #[.val (.int p1), .val (.int p2), .val (.int p3), .val (.int p4), .val (.int v1), .val (.int v2), .val (.int v3), .val (.double v4), .second, .val (.double v5), .second, .val (.double v6), .second, .val (.ref b7), .val (.ref nw_35), .val (.long v49), .second, .val (.long v50), .second, .val (.long v51), .second, .val (.long v52), .second, .val (.long v53), .second, .val (.long v54), .second, .val (.long v55), .second, .val (.int (1 : Int32)), .unset, .unset] [(.double v5), (.double v5)])) K
  refine Wlk.of (fun _ k => XS.dcmpS X58.here hx rfl (hb hby at_257) rfl rfl k) ?_
  show Wlk p.tables e below (T58.setTop (mkF m 258 #[.val (.int p1), .val (.int p2), .val (.int p3), .val (.int p4), .val (.int v1), .val (.int v2), .val (.int v3), .val (.double v4), .second, .val (.double v5), .second, .val (.double v6), .second, .val (.ref b7), .val (.ref nw_35), .val (.long v49), .second, .val (.long v50), .second, .val (.long v51), .second, .val (.long v52), .second, .val (.long v53), .second, .val (.long v54), .second, .val (.long v55), .second, .val (.int (1 : Int32)), .unset, .unset] [(.int (cmpValue (FP.dcmp v5 v5) .l))])) K
  refine Wlk.of (fun _ k => XS.ifNo X58.here hx rfl (hb hby at_258) rfl ((if0 _ _).trans (teq (dcmpV_self D2.nn _ : (cmpValue (FP.dcmp v5 v5) .l) = (0 : Int32))).2) k) ?_
  show Wlk p.tables e below (T58.setTop (mkF m 261 #[.val (.int p1), .val (.int p2), .val (.int p3), .val (.int p4), .val (.int v1), .val (.int v2), .val (.int v3), .val (.double v4), .second, .val (.double v5), .second, .val (.double v6), .second, .val (.ref b7), .val (.ref nw_35), .val (.long v49), .second, .val (.long v50), .second, .val (.long v51), .second, .val (.long v52), .second, .val (.long v53), .second, .val (.long v54), .second, .val (.long v55), .second, .val (.int (1 : Int32)), .unset, .unset] [])) K
  refine Wlk.of (fun _ k => XS.aload X58.here hx rfl (hb hby at_261) rfl rfl k) ?_
  show Wlk p.tables e below (T58.setTop (mkF m 263 #[.val (.int p1), .val (.int p2), .val (.int p3), .val (.int p4), .val (.int v1), .val (.int v2), .val (.int v3), .val (.double v4), .second, .val (.double v5), .second, .val (.double v6), .second, .val (.ref b7), .val (.ref nw_35), .val (.long v49), .second, .val (.long v50), .second, .val (.long v51), .second, .val (.long v52), .second, .val (.long v53), .second, .val (.long v54), .second, .val (.long v55), .second, .val (.int (1 : Int32)), .unset, .unset] [(.ref b7)])) K
  refine Wlk.of (fun _ k => XS.iconst X58.here hx rfl (hb hby at_263) k) ?_
  show Wlk p.tables e below (T58.setTop (mkF m 264 #[.val (.int p1), .val (.int p2), .val (.int p3), .val (.int p4), .val (.int v1), .val (.int v2), .val (.int v3), .val (.double v4), .second, .val (.double v5), .second, .val (.double v6), .second, .val (.ref b7), .val (.ref nw_35), .val (.long v49), .second, .val (.long v50), .second, .val (.long v51), .second, .val (.long v52), .second, .val (.long v53), .second, .val (.long v54), .second, .val (.long v55), .second, .val (.int (1 : Int32)), .unset, .unset] [(.int (3 : Int32)), (.ref b7)])) K
  obtain ⟨v60, T60, L60, X60, q60, st60⟩ := Ctr.virtual (y := (⟨"lagwise/estimators/ArRecursion", "reflection", "(I)D"⟩ : MethodName)) (rmR2 l Z a0 hw b7 rf_10 v4 v5 v6 T35.heap n0 (Nat.le_trans Z0 K45.1) p35_2 p35_6) X58 hx hZ hh58 hown (hw _ (List.mem_of_getElem? (i := 36) rfl)) (hw _ (List.mem_of_getElem? (i := 37) rfl)) (notFace_of_selects (args := #[]) (mvT hZ (hw _ (List.mem_of_getElem? (i := 39) rfl)))) (hw _ (List.mem_of_getElem? (i := 39) rfl)) (hw _ (List.mem_of_getElem? (i := 38) rfl)) (hw _ (List.mem_of_getElem? (i := 3) rfl)) (hw _ (List.mem_of_getElem? (i := 40) rfl)) (by decide) f46 pd_284 (g := (mkF m 264 #[.val (.int p1), .val (.int p2), .val (.int p3), .val (.int p4), .val (.int v1), .val (.int v2), .val (.int v3), .val (.double v4), .second, .val (.double v5), .second, .val (.double v6), .second, .val (.ref b7), .val (.ref nw_35), .val (.long v49), .second, .val (.long v50), .second, .val (.long v51), .second, .val (.long v52), .second, .val (.long v53), .second, .val (.long v54), .second, .val (.long v55), .second, .val (.int (1 : Int32)), .unset, .unset] [(.int (3 : Int32)), (.ref b7)])) rfl (by rw [hml]; rfl) (argsL := [(.int (3 : Int32))]) (rest := []) rfl rfl rfl (W := 0) (by show 2 * 0 + _ ≤ _; exact Nat.le_of_eq rfl) (by decide) (by decide) (hb hby at_264) (by decide) (by decide)
  obtain ⟨rfl, N60q, hh60⟩ := q60
  have N61 := Fr.app N59 N60q
  refine Wlk.of (fun _ k => st60 _ k) ?_
  show Wlk p.tables e below (T60.setTop (mkF m 267 #[.val (.int p1), .val (.int p2), .val (.int p3), .val (.int p4), .val (.int v1), .val (.int v2), .val (.int v3), .val (.double v4), .second, .val (.double v5), .second, .val (.double v6), .second, .val (.ref b7), .val (.ref nw_35), .val (.long v49), .second, .val (.long v50), .second, .val (.long v51), .second, .val (.long v52), .second, .val (.long v53), .second, .val (.long v54), .second, .val (.long v55), .second, .val (.int (1 : Int32)), .unset, .unset] [(.double v6)])) K
  refine Wlk.of (fun _ k => XS.dload X60.here hx rfl (hb hby at_267) rfl k) ?_
  show Wlk p.tables e below (T60.setTop (mkF m 269 #[.val (.int p1), .val (.int p2), .val (.int p3), .val (.int p4), .val (.int v1), .val (.int v2), .val (.int v3), .val (.double v4), .second, .val (.double v5), .second, .val (.double v6), .second, .val (.ref b7), .val (.ref nw_35), .val (.long v49), .second, .val (.long v50), .second, .val (.long v51), .second, .val (.long v52), .second, .val (.long v53), .second, .val (.long v54), .second, .val (.long v55), .second, .val (.int (1 : Int32)), .unset, .unset] [(.double v6), (.double v6)])) K
  refine Wlk.of (fun _ k => XS.dcmpS X60.here hx rfl (hb hby at_269) rfl rfl k) ?_
  show Wlk p.tables e below (T60.setTop (mkF m 270 #[.val (.int p1), .val (.int p2), .val (.int p3), .val (.int p4), .val (.int v1), .val (.int v2), .val (.int v3), .val (.double v4), .second, .val (.double v5), .second, .val (.double v6), .second, .val (.ref b7), .val (.ref nw_35), .val (.long v49), .second, .val (.long v50), .second, .val (.long v51), .second, .val (.long v52), .second, .val (.long v53), .second, .val (.long v54), .second, .val (.long v55), .second, .val (.int (1 : Int32)), .unset, .unset] [(.int (cmpValue (FP.dcmp v6 v6) .l))])) K
  refine Wlk.of (fun _ k => XS.ifNo X60.here hx rfl (hb hby at_270) rfl ((if0 _ _).trans (teq (dcmpV_self D3.nn _ : (cmpValue (FP.dcmp v6 v6) .l) = (0 : Int32))).2) k) ?_
  show Wlk p.tables e below (T60.setTop (mkF m 273 #[.val (.int p1), .val (.int p2), .val (.int p3), .val (.int p4), .val (.int v1), .val (.int v2), .val (.int v3), .val (.double v4), .second, .val (.double v5), .second, .val (.double v6), .second, .val (.ref b7), .val (.ref nw_35), .val (.long v49), .second, .val (.long v50), .second, .val (.long v51), .second, .val (.long v52), .second, .val (.long v53), .second, .val (.long v54), .second, .val (.long v55), .second, .val (.int (1 : Int32)), .unset, .unset] [])) K
  refine Wlk.of (fun _ k => XS.iconst X60.here hx rfl (hb hby at_273) k) ?_
  show Wlk p.tables e below (T60.setTop (mkF m 274 #[.val (.int p1), .val (.int p2), .val (.int p3), .val (.int p4), .val (.int v1), .val (.int v2), .val (.int v3), .val (.double v4), .second, .val (.double v5), .second, .val (.double v6), .second, .val (.ref b7), .val (.ref nw_35), .val (.long v49), .second, .val (.long v50), .second, .val (.long v51), .second, .val (.long v52), .second, .val (.long v53), .second, .val (.long v54), .second, .val (.long v55), .second, .val (.int (1 : Int32)), .unset, .unset] [(.int (1 : Int32))])) K
  refine Wlk.of (fun _ k => XS.goto X60.here hx rfl (pc0 := 274) (pc' := 278) rfl (hb hby at_274) (by decide) (by decide) k) ?_
  show Wlk p.tables e below (T60.setTop (mkF m 278 #[.val (.int p1), .val (.int p2), .val (.int p3), .val (.int p4), .val (.int v1), .val (.int v2), .val (.int v3), .val (.double v4), .second, .val (.double v5), .second, .val (.double v6), .second, .val (.ref b7), .val (.ref nw_35), .val (.long v49), .second, .val (.long v50), .second, .val (.long v51), .second, .val (.long v52), .second, .val (.long v53), .second, .val (.long v54), .second, .val (.long v55), .second, .val (.int (1 : Int32)), .unset, .unset] [(.int (1 : Int32))])) K
  refine Wlk.of (fun _ k => XS.istore X60.here hx rfl (hb hby at_278) rfl (l' := #[.val (.int p1), .val (.int p2), .val (.int p3), .val (.int p4), .val (.int v1), .val (.int v2), .val (.int v3), .val (.double v4), .second, .val (.double v5), .second, .val (.double v6), .second, .val (.ref b7), .val (.ref nw_35), .val (.long v49), .second, .val (.long v50), .second, .val (.long v51), .second, .val (.long v52), .second, .val (.long v53), .second, .val (.long v54), .second, .val (.long v55), .second, .val (.int (1 : Int32)), .val (.int (1 : Int32)), .unset]) rfl k) ?_
  show Wlk p.tables e below (T60.setTop (mkF m 280 #[.val (.int p1), .val (.int p2), .val (.int p3), .val (.int p4), .val (.int v1), .val (.int v2), .val (.int v3), .val (.double v4), .second, .val (.double v5), .second, .val (.double v6), .second, .val (.ref b7), .val (.ref nw_35), .val (.long v49), .second, .val (.long v50), .second, .val (.long v51), .second, .val (.long v52), .second, .val (.long v53), .second, .val (.long v54), .second, .val (.long v55), .second, .val (.int (1 : Int32)), .val (.int (1 : Int32)), .unset] [])) K
  refine Wlk.of (fun _ k => XS.aload X60.here hx rfl (hb hby at_280) rfl rfl k) ?_
  show Wlk p.tables e below (T60.setTop (mkF m 282 #[.val (.int p1), .val (.int p2), .val (.int p3), .val (.int p4), .val (.int v1), .val (.int v2), .val (.int v3), .val (.double v4), .second, .val (.double v5), .second, .val (.double v6), .second, .val (.ref b7), .val (.ref nw_35), .val (.long v49), .second, .val (.long v50), .second, .val (.long v51), .second, .val (.long v52), .second, .val (.long v53), .second, .val (.long v54), .second, .val (.long v55), .second, .val (.int (1 : Int32)), .val (.int (1 : Int32)), .unset] [(.ref b7)])) K
  refine Wlk.of (fun _ k => XS.iconst X60.here hx rfl (hb hby at_282) k) ?_
  show Wlk p.tables e below (T60.setTop (mkF m 283 #[.val (.int p1), .val (.int p2), .val (.int p3), .val (.int p4), .val (.int v1), .val (.int v2), .val (.int v3), .val (.double v4), .second, .val (.double v5), .second, .val (.double v6), .second, .val (.ref b7), .val (.ref nw_35), .val (.long v49), .second, .val (.long v50), .second, .val (.long v51), .second, .val (.long v52), .second, .val (.long v53), .second, .val (.long v54), .second, .val (.long v55), .second, .val (.int (1 : Int32)), .val (.int (1 : Int32)), .unset] [(.int (1 : Int32)), (.ref b7)])) K
  obtain ⟨v62, T62, L62, X62, q62, st62⟩ := Ctr.virtual (y := (⟨"lagwise/estimators/ArRecursion", "residualVariance", "(I)D"⟩ : MethodName)) (rmV0 l Z a0 hw b7 rv_10 ((FP.i2d p1)) ((FP.dmul (FP.i2d p1) (FP.dsub FP.dconst1 (FP.dmul v4 v4)))) ((FP.dmul (FP.dmul (FP.i2d p1) (FP.dsub FP.dconst1 (FP.dmul v4 v4))) (FP.dsub FP.dconst1 (FP.dmul v5 v5)))) ((FP.dmul (FP.dmul (FP.dmul (FP.i2d p1) (FP.dsub FP.dconst1 (FP.dmul v4 v4))) (FP.dsub FP.dconst1 (FP.dmul v5 v5))) (FP.dsub FP.dconst1 (FP.dmul v6 v6)))) T35.heap n0 (Nat.le_trans Z0 K45.1) p35_3 p35_7) X60 hx hZ hh60 hown (hw _ (List.mem_of_getElem? (i := 41) rfl)) (hw _ (List.mem_of_getElem? (i := 42) rfl)) (notFace_of_selects (args := #[]) (mvT hZ (hw _ (List.mem_of_getElem? (i := 44) rfl)))) (hw _ (List.mem_of_getElem? (i := 44) rfl)) (hw _ (List.mem_of_getElem? (i := 43) rfl)) (hw _ (List.mem_of_getElem? (i := 3) rfl)) (hw _ (List.mem_of_getElem? (i := 45) rfl)) (by decide) f46 pd_284 (g := (mkF m 283 #[.val (.int p1), .val (.int p2), .val (.int p3), .val (.int p4), .val (.int v1), .val (.int v2), .val (.int v3), .val (.double v4), .second, .val (.double v5), .second, .val (.double v6), .second, .val (.ref b7), .val (.ref nw_35), .val (.long v49), .second, .val (.long v50), .second, .val (.long v51), .second, .val (.long v52), .second, .val (.long v53), .second, .val (.long v54), .second, .val (.long v55), .second, .val (.int (1 : Int32)), .val (.int (1 : Int32)), .unset] [(.int (1 : Int32)), (.ref b7)])) rfl (by rw [hml]; rfl) (argsL := [(.int (1 : Int32))]) (rest := []) rfl rfl rfl (W := 0) (by show 2 * 0 + _ ≤ _; exact Nat.le_of_eq rfl) (by decide) (by decide) (hb hby at_283) (by decide) (by decide)
  obtain ⟨rfl, N62q, hh62⟩ := q62
  have N63 := Fr.app N61 N62q
  refine Wlk.of (fun _ k => st62 _ k) ?_
  show Wlk p.tables e below (T62.setTop (mkF m 286 #[.val (.int p1), .val (.int p2), .val (.int p3), .val (.int p4), .val (.int v1), .val (.int v2), .val (.int v3), .val (.double v4), .second, .val (.double v5), .second, .val (.double v6), .second, .val (.ref b7), .val (.ref nw_35), .val (.long v49), .second, .val (.long v50), .second, .val (.long v51), .second, .val (.long v52), .second, .val (.long v53), .second, .val (.long v54), .second, .val (.long v55), .second, .val (.int (1 : Int32)), .val (.int (1 : Int32)), .unset] [(.double (FP.dmul (FP.i2d p1) (FP.dsub FP.dconst1 (FP.dmul v4 v4))))])) K
  refine Wlk.of (fun _ k => X62.ldc2DoubleC hx hown (mvT hZ (hw _ (List.mem_of_getElem? (i := 33) rfl))) (g := (mkF m 286 #[.val (.int p1), .val (.int p2), .val (.int p3), .val (.int p4), .val (.int v1), .val (.int v2), .val (.int v3), .val (.double v4), .second, .val (.double v5), .second, .val (.double v6), .second, .val (.ref b7), .val (.ref nw_35), .val (.long v49), .second, .val (.long v50), .second, .val (.long v51), .second, .val (.long v52), .second, .val (.long v53), .second, .val (.long v54), .second, .val (.long v55), .second, .val (.int (1 : Int32)), .val (.int (1 : Int32)), .unset] [(.double (FP.dmul (FP.i2d p1) (FP.dsub FP.dconst1 (FP.dmul v4 v4))))])) rfl (hb hby at_286) _ k) ?_
  show Wlk p.tables e below (T62.setTop (mkF m 289 #[.val (.int p1), .val (.int p2), .val (.int p3), .val (.int p4), .val (.int v1), .val (.int v2), .val (.int v3), .val (.double v4), .second, .val (.double v5), .second, .val (.double v6), .second, .val (.ref b7), .val (.ref nw_35), .val (.long v49), .second, .val (.long v50), .second, .val (.long v51), .second, .val (.long v52), .second, .val (.long v53), .second, .val (.long v54), .second, .val (.long v55), .second, .val (.int (1 : Int32)), .val (.int (1 : Int32)), .unset] [(.double (4625196817309499392 : UInt64)), (.double (FP.dmul (FP.i2d p1) (FP.dsub FP.dconst1 (FP.dmul v4 v4))))])) K
  refine Wlk.of (fun _ k => XS.dmulS X62.here hx rfl (hb hby at_289) rfl x1.nn rfl k) ?_
  show Wlk p.tables e below (T62.setTop (mkF m 290 #[.val (.int p1), .val (.int p2), .val (.int p3), .val (.int p4), .val (.int v1), .val (.int v2), .val (.int v3), .val (.double v4), .second, .val (.double v5), .second, .val (.double v6), .second, .val (.ref b7), .val (.ref nw_35), .val (.long v49), .second, .val (.long v50), .second, .val (.long v51), .second, .val (.long v52), .second, .val (.long v53), .second, .val (.long v54), .second, .val (.long v55), .second, .val (.int (1 : Int32)), .val (.int (1 : Int32)), .unset] [(.double (FP.dmul (FP.dmul (FP.i2d p1) (FP.dsub FP.dconst1 (FP.dmul v4 v4))) (4625196817309499392 : UInt64)))])) K
  refine Wlk.of (fun _ k => XS.lload X62.here hx rfl (hb hby at_290) rfl k) ?_
  show Wlk p.tables e below (T62.setTop (mkF m 292 #[.val (.int p1), .val (.int p2), .val (.int p3), .val (.int p4), .val (.int v1), .val (.int v2), .val (.int v3), .val (.double v4), .second, .val (.double v5), .second, .val (.double v6), .second, .val (.ref b7), .val (.ref nw_35), .val (.long v49), .second, .val (.long v50), .second, .val (.long v51), .second, .val (.long v52), .second, .val (.long v53), .second, .val (.long v54), .second, .val (.long v55), .second, .val (.int (1 : Int32)), .val (.int (1 : Int32)), .unset] [(.long v52), (.double (FP.dmul (FP.dmul (FP.i2d p1) (FP.dsub FP.dconst1 (FP.dmul v4 v4))) (4625196817309499392 : UInt64)))])) K
  refine Wlk.of (fun _ k => XS.lload X62.here hx rfl (hb hby at_292) rfl k) ?_
  show Wlk p.tables e below (T62.setTop (mkF m 294 #[.val (.int p1), .val (.int p2), .val (.int p3), .val (.int p4), .val (.int v1), .val (.int v2), .val (.int v3), .val (.double v4), .second, .val (.double v5), .second, .val (.double v6), .second, .val (.ref b7), .val (.ref nw_35), .val (.long v49), .second, .val (.long v50), .second, .val (.long v51), .second, .val (.long v52), .second, .val (.long v53), .second, .val (.long v54), .second, .val (.long v55), .second, .val (.int (1 : Int32)), .val (.int (1 : Int32)), .unset] [(.long v53), (.long v52), (.double (FP.dmul (FP.dmul (FP.i2d p1) (FP.dsub FP.dconst1 (FP.dmul v4 v4))) (4625196817309499392 : UInt64)))])) K
  refine Wlk.of (fun _ k => XS.lmul X62.here hx rfl (hb hby at_294) rfl k) ?_
  show Wlk p.tables e below (T62.setTop (mkF m 295 #[.val (.int p1), .val (.int p2), .val (.int p3), .val (.int p4), .val (.int v1), .val (.int v2), .val (.int v3), .val (.double v4), .second, .val (.double v5), .second, .val (.double v6), .second, .val (.ref b7), .val (.ref nw_35), .val (.long v49), .second, .val (.long v50), .second, .val (.long v51), .second, .val (.long v52), .second, .val (.long v53), .second, .val (.long v54), .second, .val (.long v55), .second, .val (.int (1 : Int32)), .val (.int (1 : Int32)), .unset] [(.long (v52 * v53)), (.double (FP.dmul (FP.dmul (FP.i2d p1) (FP.dsub FP.dconst1 (FP.dmul v4 v4))) (4625196817309499392 : UInt64)))])) K
  refine Wlk.of (fun _ k => XS.l2dS X62.here hx rfl (hb hby at_295) rfl rfl k) ?_
  show Wlk p.tables e below (T62.setTop (mkF m 296 #[.val (.int p1), .val (.int p2), .val (.int p3), .val (.int p4), .val (.int v1), .val (.int v2), .val (.int v3), .val (.double v4), .second, .val (.double v5), .second, .val (.double v6), .second, .val (.ref b7), .val (.ref nw_35), .val (.long v49), .second, .val (.long v50), .second, .val (.long v51), .second, .val (.long v52), .second, .val (.long v53), .second, .val (.long v54), .second, .val (.long v55), .second, .val (.int (1 : Int32)), .val (.int (1 : Int32)), .unset] [(.double (FP.l2d (v52 * v53))), (.double (FP.dmul (FP.dmul (FP.i2d p1) (FP.dsub FP.dconst1 (FP.dmul v4 v4))) (4625196817309499392 : UInt64)))])) K
  refine Wlk.of (fun _ k => XS.dcmpS X62.here hx rfl (hb hby at_296) rfl rfl k) ?_
  show Wlk p.tables e below (T62.setTop (mkF m 297 #[.val (.int p1), .val (.int p2), .val (.int p3), .val (.int p4), .val (.int v1), .val (.int v2), .val (.int v3), .val (.double v4), .second, .val (.double v5), .second, .val (.double v6), .second, .val (.ref b7), .val (.ref nw_35), .val (.long v49), .second, .val (.long v50), .second, .val (.long v51), .second, .val (.long v52), .second, .val (.long v53), .second, .val (.long v54), .second, .val (.long v55), .second, .val (.int (1 : Int32)), .val (.int (1 : Int32)), .unset] [(.int (cmpValue (FP.dcmp (FP.dmul (FP.dmul (FP.i2d p1) (FP.dsub FP.dconst1 (FP.dmul v4 v4))) (4625196817309499392 : UInt64)) (FP.l2d (v52 * v53))) .l))])) K
  refine Wlk.of (fun _ k => XS.ifNo X62.here hx rfl (hb hby at_297) rfl ((if0 _ _).trans (teq (Db.cmpV x1 z1 (by grind) _ : (cmpValue (FP.dcmp (FP.dmul (FP.dmul (FP.i2d p1) (FP.dsub FP.dconst1 (FP.dmul v4 v4))) (4625196817309499392 : UInt64)) (FP.l2d (v52 * v53))) .l) = (0 : Int32))).2) k) ?_
  show Wlk p.tables e below (T62.setTop (mkF m 300 #[.val (.int p1), .val (.int p2), .val (.int p3), .val (.int p4), .val (.int v1), .val (.int v2), .val (.int v3), .val (.double v4), .second, .val (.double v5), .second, .val (.double v6), .second, .val (.ref b7), .val (.ref nw_35), .val (.long v49), .second, .val (.long v50), .second, .val (.long v51), .second, .val (.long v52), .second, .val (.long v53), .second, .val (.long v54), .second, .val (.long v55), .second, .val (.int (1 : Int32)), .val (.int (1 : Int32)), .unset] [])) K
  refine Wlk.of (fun _ k => XS.aload X62.here hx rfl (hb hby at_300) rfl rfl k) ?_
  show Wlk p.tables e below (T62.setTop (mkF m 302 #[.val (.int p1), .val (.int p2), .val (.int p3), .val (.int p4), .val (.int v1), .val (.int v2), .val (.int v3), .val (.double v4), .second, .val (.double v5), .second, .val (.double v6), .second, .val (.ref b7), .val (.ref nw_35), .val (.long v49), .second, .val (.long v50), .second, .val (.long v51), .second, .val (.long v52), .second, .val (.long v53), .second, .val (.long v54), .second, .val (.long v55), .second, .val (.int (1 : Int32)), .val (.int (1 : Int32)), .unset] [(.ref b7)])) K
  refine Wlk.of (fun _ k => XS.iconst X62.here hx rfl (hb hby at_302) k) ?_
  show Wlk p.tables e below (T62.setTop (mkF m 303 #[.val (.int p1), .val (.int p2), .val (.int p3), .val (.int p4), .val (.int v1), .val (.int v2), .val (.int v3), .val (.double v4), .second, .val (.double v5), .second, .val (.double v6), .second, .val (.ref b7), .val (.ref nw_35), .val (.long v49), .second, .val (.long v50), .second, .val (.long v51), .second, .val (.long v52), .second, .val (.long v53), .second, .val (.long v54), .second, .val (.long v55), .second, .val (.int (1 : Int32)), .val (.int (1 : Int32)), .unset] [(.int (2 : Int32)), (.ref b7)])) K
  obtain ⟨v64, T64, L64, X64, q64, st64⟩ := Ctr.virtual (y := (⟨"lagwise/estimators/ArRecursion", "residualVariance", "(I)D"⟩ : MethodName)) (rmV1 l Z a0 hw b7 rv_10 ((FP.i2d p1)) ((FP.dmul (FP.i2d p1) (FP.dsub FP.dconst1 (FP.dmul v4 v4)))) ((FP.dmul (FP.dmul (FP.i2d p1) (FP.dsub FP.dconst1 (FP.dmul v4 v4))) (FP.dsub FP.dconst1 (FP.dmul v5 v5)))) ((FP.dmul (FP.dmul (FP.dmul (FP.i2d p1) (FP.dsub FP.dconst1 (FP.dmul v4 v4))) (FP.dsub FP.dconst1 (FP.dmul v5 v5))) (FP.dsub FP.dconst1 (FP.dmul v6 v6)))) T35.heap n0 (Nat.le_trans Z0 K45.1) p35_3 p35_7) X62 hx hZ hh62 hown (hw _ (List.mem_of_getElem? (i := 41) rfl)) (hw _ (List.mem_of_getElem? (i := 42) rfl)) (notFace_of_selects (args := #[]) (mvT hZ (hw _ (List.mem_of_getElem? (i := 44) rfl)))) (hw _ (List.mem_of_getElem? (i := 44) rfl)) (hw _ (List.mem_of_getElem? (i := 43) rfl)) (hw _ (List.mem_of_getElem? (i := 3) rfl)) (hw _ (List.mem_of_getElem? (i := 45) rfl)) (by decide) f46 pd_284 (g := (mkF m 303 #[.val (.int p1), .val (.int p2), .val (.int p3), .val (.int p4), .val (.int v1), .val (.int v2), .val (.int v3), .val (.double v4), .second, .val (.double v5), .second, .val (.double v6), .second, .val (.ref b7), .val (.ref nw_35), .val (.long v49), .second, .val (.long v50), .second, .val (.long v51), .second, .val (.long v52), .second, .val (.long v53), .second, .val (.long v54), .second, .val (.long v55), .second, .val (.int (1 : Int32)), .val (.int (1 : Int32)), .unset] [(.int (2 : Int32)), (.ref b7)])) rfl (by rw [hml]; rfl) (argsL := [(.int (2 : Int32))]) (rest := []) rfl rfl rfl (W := 0) (by show 2 * 0 + _ ≤ _; exact Nat.le_of_eq rfl) (by decide) (by decide) (hb hby at_303) (by decide) (by decide)
  obtain ⟨rfl, N64q, hh64⟩ := q64
  have N65 := Fr.app N63 N64q
  refine Wlk.of (fun _ k => st64 _ k) ?_
  show Wlk p.tables e below (T64.setTop (mkF m 306 #[.val (.int p1), .val (.int p2), .val (.int p3), .val (.int p4), .val (.int v1), .val (.int v2), .val (.int v3), .val (.double v4), .second, .val (.double v5), .second, .val (.double v6), .second, .val (.ref b7), .val (.ref nw_35), .val (.long v49), .second, .val (.long v50), .second, .val (.long v51), .second, .val (.long v52), .second, .val (.long v53), .second, .val (.long v54), .second, .val (.long v55), .second, .val (.int (1 : Int32)), .val (.int (1 : Int32)), .unset] [(.double (FP.dmul (FP.dmul (FP.i2d p1) (FP.dsub FP.dconst1 (FP.dmul v4 v4))) (FP.dsub FP.dconst1 (FP.dmul v5 v5))))])) K
  refine Wlk.of (fun _ k => X64.ldc2DoubleC hx hown (mvT hZ (hw _ (List.mem_of_getElem? (i := 46) rfl))) (g := (mkF m 306 #[.val (.int p1), .val (.int p2), .val (.int p3), .val (.int p4), .val (.int v1), .val (.int v2), .val (.int v3), .val (.double v4), .second, .val (.double v5), .second, .val (.double v6), .second, .val (.ref b7), .val (.ref nw_35), .val (.long v49), .second, .val (.long v50), .second, .val (.long v51), .second, .val (.long v52), .second, .val (.long v53), .second, .val (.long v54), .second, .val (.long v55), .second, .val (.int (1 : Int32)), .val (.int (1 : Int32)), .unset] [(.double (FP.dmul (FP.dmul (FP.i2d p1) (FP.dsub FP.dconst1 (FP.dmul v4 v4))) (FP.dsub FP.dconst1 (FP.dmul v5 v5))))])) rfl (hb hby at_306) _ k) ?_
  show Wlk p.tables e below (T64.setTop (mkF m 309 #[.val (.int p1), .val (.int p2), .val (.int p3), .val (.int p4), .val (.int v1), .val (.int v2), .val (.int v3), .val (.double v4), .second, .val (.double v5), .second, .val (.double v6), .second, .val (.ref b7), .val (.ref nw_35), .val (.long v49), .second, .val (.long v50), .second, .val (.long v51), .second, .val (.long v52), .second, .val (.long v53), .second, .val (.long v54), .second, .val (.long v55), .second, .val (.int (1 : Int32)), .val (.int (1 : Int32)), .unset] [(.double (4643211215818981376 : UInt64)), (.double (FP.dmul (FP.dmul (FP.i2d p1) (FP.dsub FP.dconst1 (FP.dmul v4 v4))) (FP.dsub FP.dconst1 (FP.dmul v5 v5))))])) K
  refine Wlk.of (fun _ k => XS.dmulS X64.here hx rfl (hb hby at_309) rfl x2.nn rfl k) ?_
  show Wlk p.tables e below (T64.setTop (mkF m 310 #[.val (.int p1), .val (.int p2), .val (.int p3), .val (.int p4), .val (.int v1), .val (.int v2), .val (.int v3), .val (.double v4), .second, .val (.double v5), .second, .val (.double v6), .second, .val (.ref b7), .val (.ref nw_35), .val (.long v49), .second, .val (.long v50), .second, .val (.long v51), .second, .val (.long v52), .second, .val (.long v53), .second, .val (.long v54), .second, .val (.long v55), .second, .val (.int (1 : Int32)), .val (.int (1 : Int32)), .unset] [(.double (FP.dmul (FP.dmul (FP.dmul (FP.i2d p1) (FP.dsub FP.dconst1 (FP.dmul v4 v4))) (FP.dsub FP.dconst1 (FP.dmul v5 v5))) (4643211215818981376 : UInt64)))])) K
  refine Wlk.of (fun _ k => XS.lload X64.here hx rfl (hb hby at_310) rfl k) ?_
  show Wlk p.tables e below (T64.setTop (mkF m 312 #[.val (.int p1), .val (.int p2), .val (.int p3), .val (.int p4), .val (.int v1), .val (.int v2), .val (.int v3), .val (.double v4), .second, .val (.double v5), .second, .val (.double v6), .second, .val (.ref b7), .val (.ref nw_35), .val (.long v49), .second, .val (.long v50), .second, .val (.long v51), .second, .val (.long v52), .second, .val (.long v53), .second, .val (.long v54), .second, .val (.long v55), .second, .val (.int (1 : Int32)), .val (.int (1 : Int32)), .unset] [(.long v52), (.double (FP.dmul (FP.dmul (FP.dmul (FP.i2d p1) (FP.dsub FP.dconst1 (FP.dmul v4 v4))) (FP.dsub FP.dconst1 (FP.dmul v5 v5))) (4643211215818981376 : UInt64)))])) K
  refine Wlk.of (fun _ k => XS.lload X64.here hx rfl (hb hby at_312) rfl k) ?_
  show Wlk p.tables e below (T64.setTop (mkF m 314 #[.val (.int p1), .val (.int p2), .val (.int p3), .val (.int p4), .val (.int v1), .val (.int v2), .val (.int v3), .val (.double v4), .second, .val (.double v5), .second, .val (.double v6), .second, .val (.ref b7), .val (.ref nw_35), .val (.long v49), .second, .val (.long v50), .second, .val (.long v51), .second, .val (.long v52), .second, .val (.long v53), .second, .val (.long v54), .second, .val (.long v55), .second, .val (.int (1 : Int32)), .val (.int (1 : Int32)), .unset] [(.long v53), (.long v52), (.double (FP.dmul (FP.dmul (FP.dmul (FP.i2d p1) (FP.dsub FP.dconst1 (FP.dmul v4 v4))) (FP.dsub FP.dconst1 (FP.dmul v5 v5))) (4643211215818981376 : UInt64)))])) K
  refine Wlk.of (fun _ k => XS.lmul X64.here hx rfl (hb hby at_314) rfl k) ?_
  show Wlk p.tables e below (T64.setTop (mkF m 315 #[.val (.int p1), .val (.int p2), .val (.int p3), .val (.int p4), .val (.int v1), .val (.int v2), .val (.int v3), .val (.double v4), .second, .val (.double v5), .second, .val (.double v6), .second, .val (.ref b7), .val (.ref nw_35), .val (.long v49), .second, .val (.long v50), .second, .val (.long v51), .second, .val (.long v52), .second, .val (.long v53), .second, .val (.long v54), .second, .val (.long v55), .second, .val (.int (1 : Int32)), .val (.int (1 : Int32)), .unset] [(.long (v52 * v53)), (.double (FP.dmul (FP.dmul (FP.dmul (FP.i2d p1) (FP.dsub FP.dconst1 (FP.dmul v4 v4))) (FP.dsub FP.dconst1 (FP.dmul v5 v5))) (4643211215818981376 : UInt64)))])) K
  refine Wlk.of (fun _ k => XS.lload X64.here hx rfl (hb hby at_315) rfl k) ?_
  show Wlk p.tables e below (T64.setTop (mkF m 317 #[.val (.int p1), .val (.int p2), .val (.int p3), .val (.int p4), .val (.int v1), .val (.int v2), .val (.int v3), .val (.double v4), .second, .val (.double v5), .second, .val (.double v6), .second, .val (.ref b7), .val (.ref nw_35), .val (.long v49), .second, .val (.long v50), .second, .val (.long v51), .second, .val (.long v52), .second, .val (.long v53), .second, .val (.long v54), .second, .val (.long v55), .second, .val (.int (1 : Int32)), .val (.int (1 : Int32)), .unset] [(.long v54), (.long (v52 * v53)), (.double (FP.dmul (FP.dmul (FP.dmul (FP.i2d p1) (FP.dsub FP.dconst1 (FP.dmul v4 v4))) (FP.dsub FP.dconst1 (FP.dmul v5 v5))) (4643211215818981376 : UInt64)))])) K
  refine Wlk.of (fun _ k => XS.lmul X64.here hx rfl (hb hby at_317) rfl k) ?_
  show Wlk p.tables e below (T64.setTop (mkF m 318 #[.val (.int p1), .val (.int p2), .val (.int p3), .val (.int p4), .val (.int v1), .val (.int v2), .val (.int v3), .val (.double v4), .second, .val (.double v5), .second, .val (.double v6), .second, .val (.ref b7), .val (.ref nw_35), .val (.long v49), .second, .val (.long v50), .second, .val (.long v51), .second, .val (.long v52), .second, .val (.long v53), .second, .val (.long v54), .second, .val (.long v55), .second, .val (.int (1 : Int32)), .val (.int (1 : Int32)), .unset] [(.long ((v52 * v53) * v54)), (.double (FP.dmul (FP.dmul (FP.dmul (FP.i2d p1) (FP.dsub FP.dconst1 (FP.dmul v4 v4))) (FP.dsub FP.dconst1 (FP.dmul v5 v5))) (4643211215818981376 : UInt64)))])) K
  refine Wlk.of (fun _ k => XS.l2dS X64.here hx rfl (hb hby at_318) rfl rfl k) ?_
  show Wlk p.tables e below (T64.setTop (mkF m 319 #[.val (.int p1), .val (.int p2), .val (.int p3), .val (.int p4), .val (.int v1), .val (.int v2), .val (.int v3), .val (.double v4), .second, .val (.double v5), .second, .val (.double v6), .second, .val (.ref b7), .val (.ref nw_35), .val (.long v49), .second, .val (.long v50), .second, .val (.long v51), .second, .val (.long v52), .second, .val (.long v53), .second, .val (.long v54), .second, .val (.long v55), .second, .val (.int (1 : Int32)), .val (.int (1 : Int32)), .unset] [(.double (FP.l2d ((v52 * v53) * v54))), (.double (FP.dmul (FP.dmul (FP.dmul (FP.i2d p1) (FP.dsub FP.dconst1 (FP.dmul v4 v4))) (FP.dsub FP.dconst1 (FP.dmul v5 v5))) (4643211215818981376 : UInt64)))])) K
  refine Wlk.of (fun _ k => XS.dcmpS X64.here hx rfl (hb hby at_319) rfl rfl k) ?_
  show Wlk p.tables e below (T64.setTop (mkF m 320 #[.val (.int p1), .val (.int p2), .val (.int p3), .val (.int p4), .val (.int v1), .val (.int v2), .val (.int v3), .val (.double v4), .second, .val (.double v5), .second, .val (.double v6), .second, .val (.ref b7), .val (.ref nw_35), .val (.long v49), .second, .val (.long v50), .second, .val (.long v51), .second, .val (.long v52), .second, .val (.long v53), .second, .val (.long v54), .second, .val (.long v55), .second, .val (.int (1 : Int32)), .val (.int (1 : Int32)), .unset] [(.int (cmpValue (FP.dcmp (FP.dmul (FP.dmul (FP.dmul (FP.i2d p1) (FP.dsub FP.dconst1 (FP.dmul v4 v4))) (FP.dsub FP.dconst1 (FP.dmul v5 v5))) (4643211215818981376 : UInt64)) (FP.l2d ((v52 * v53) * v54))) .l))])) K
  refine Wlk.of (fun _ k => XS.ifNo X64.here hx rfl (hb hby at_320) rfl ((if0 _ _).trans (teq (Db.cmpV x2 z2 (by grind) _ : (cmpValue (FP.dcmp (FP.dmul (FP.dmul (FP.dmul (FP.i2d p1) (FP.dsub FP.dconst1 (FP.dmul v4 v4))) (FP.dsub FP.dconst1 (FP.dmul v5 v5))) (4643211215818981376 : UInt64)) (FP.l2d ((v52 * v53) * v54))) .l) = (0 : Int32))).2) k) ?_
  show Wlk p.tables e below (T64.setTop (mkF m 323 #[.val (.int p1), .val (.int p2), .val (.int p3), .val (.int p4), .val (.int v1), .val (.int v2), .val (.int v3), .val (.double v4), .second, .val (.double v5), .second, .val (.double v6), .second, .val (.ref b7), .val (.ref nw_35), .val (.long v49), .second, .val (.long v50), .second, .val (.long v51), .second, .val (.long v52), .second, .val (.long v53), .second, .val (.long v54), .second, .val (.long v55), .second, .val (.int (1 : Int32)), .val (.int (1 : Int32)), .unset] [])) K
  refine Wlk.of (fun _ k => XS.aload X64.here hx rfl (hb hby at_323) rfl rfl k) ?_
  show Wlk p.tables e below (T64.setTop (mkF m 325 #[.val (.int p1), .val (.int p2), .val (.int p3), .val (.int p4), .val (.int v1), .val (.int v2), .val (.int v3), .val (.double v4), .second, .val (.double v5), .second, .val (.double v6), .second, .val (.ref b7), .val (.ref nw_35), .val (.long v49), .second, .val (.long v50), .second, .val (.long v51), .second, .val (.long v52), .second, .val (.long v53), .second, .val (.long v54), .second, .val (.long v55), .second, .val (.int (1 : Int32)), .val (.int (1 : Int32)), .unset] [(.ref b7)])) K
  refine Wlk.of (fun _ k => XS.iconst X64.here hx rfl (hb hby at_325) k) ?_
  show Wlk p.tables e below (T64.setTop (mkF m 326 #[.val (.int p1), .val (.int p2), .val (.int p3), .val (.int p4), .val (.int v1), .val (.int v2), .val (.int v3), .val (.double v4), .second, .val (.double v5), .second, .val (.double v6), .second, .val (.ref b7), .val (.ref nw_35), .val (.long v49), .second, .val (.long v50), .second, .val (.long v51), .second, .val (.long v52), .second, .val (.long v53), .second, .val (.long v54), .second, .val (.long v55), .second, .val (.int (1 : Int32)), .val (.int (1 : Int32)), .unset] [(.int (3 : Int32)), (.ref b7)])) K
  obtain ⟨v66, T66, L66, X66, q66, st66⟩ := Ctr.virtual (y := (⟨"lagwise/estimators/ArRecursion", "residualVariance", "(I)D"⟩ : MethodName)) (rmV2 l Z a0 hw b7 rv_10 ((FP.i2d p1)) ((FP.dmul (FP.i2d p1) (FP.dsub FP.dconst1 (FP.dmul v4 v4)))) ((FP.dmul (FP.dmul (FP.i2d p1) (FP.dsub FP.dconst1 (FP.dmul v4 v4))) (FP.dsub FP.dconst1 (FP.dmul v5 v5)))) ((FP.dmul (FP.dmul (FP.dmul (FP.i2d p1) (FP.dsub FP.dconst1 (FP.dmul v4 v4))) (FP.dsub FP.dconst1 (FP.dmul v5 v5))) (FP.dsub FP.dconst1 (FP.dmul v6 v6)))) T35.heap n0 (Nat.le_trans Z0 K45.1) p35_3 p35_7) X64 hx hZ hh64 hown (hw _ (List.mem_of_getElem? (i := 41) rfl)) (hw _ (List.mem_of_getElem? (i := 42) rfl)) (notFace_of_selects (args := #[]) (mvT hZ (hw _ (List.mem_of_getElem? (i := 44) rfl)))) (hw _ (List.mem_of_getElem? (i := 44) rfl)) (hw _ (List.mem_of_getElem? (i := 43) rfl)) (hw _ (List.mem_of_getElem? (i := 3) rfl)) (hw _ (List.mem_of_getElem? (i := 45) rfl)) (by decide) f46 pd_284 (g := (mkF m 326 #[.val (.int p1), .val (.int p2), .val (.int p3), .val (.int p4), .val (.int v1), .val (.int v2), .val (.int v3), .val (.double v4), .second, .val (.double v5), .second, .val (.double v6), .second, .val (.ref b7), .val (.ref nw_35), .val (.long v49), .second, .val (.long v50), .second, .val (.long v51), .second, .val (.long v52), .second, .val (.long v53), .second, .val (.long v54), .second, .val (.long v55), .second, .val (.int (1 : Int32)), .val (.int (1 : Int32)), .unset] [(.int (3 : Int32)), (.ref b7)])) rfl (by rw [hml]; rfl) (argsL := [(.int (3 : Int32))]) (rest := []) rfl rfl rfl (W := 0) (by show 2 * 0 + _ ≤ _; exact Nat.le_of_eq rfl) (by decide) (by decide) (hb hby at_326) (by decide) (by decide)
  obtain ⟨rfl, N66q, hh66⟩ := q66
  have N67 := Fr.app N65 N66q
  refine Wlk.of (fun _ k => st66 _ k) ?_
  show Wlk p.tables e below (T66.setTop (mkF m 329 #[.val (.int p1), .val (.int p2), .val (.int p3), .val (.int p4), .val (.int v1), .val (.int v2), .val (.int v3), .val (.double v4), .second, .val (.double v5), .second, .val (.double v6), .second, .val (.ref b7), .val (.ref nw_35), .val (.long v49), .second, .val (.long v50), .second, .val (.long v51), .second, .val (.long v52), .second, .val (.long v53), .second, .val (.long v54), .second, .val (.long v55), .second, .val (.int (1 : Int32)), .val (.int (1 : Int32)), .unset] [(.double (FP.dmul (FP.dmul (FP.dmul (FP.i2d p1) (FP.dsub FP.dconst1 (FP.dmul v4 v4))) (FP.dsub FP.dconst1 (FP.dmul v5 v5))) (FP.dsub FP.dconst1 (FP.dmul v6 v6))))])) K
  refine Wlk.of (fun _ k => X66.ldc2DoubleC hx hown (mvT hZ (hw _ (List.mem_of_getElem? (i := 47) rfl))) (g := (mkF m 329 #[.val (.int p1), .val (.int p2), .val (.int p3), .val (.int p4), .val (.int v1), .val (.int v2), .val (.int v3), .val (.double v4), .second, .val (.double v5), .second, .val (.double v6), .second, .val (.ref b7), .val (.ref nw_35), .val (.long v49), .second, .val (.long v50), .second, .val (.long v51), .second, .val (.long v52), .second, .val (.long v53), .second, .val (.long v54), .second, .val (.long v55), .second, .val (.int (1 : Int32)), .val (.int (1 : Int32)), .unset] [(.double (FP.dmul (FP.dmul (FP.dmul (FP.i2d p1) (FP.dsub FP.dconst1 (FP.dmul v4 v4))) (FP.dsub FP.dconst1 (FP.dmul v5 v5))) (FP.dsub FP.dconst1 (FP.dmul v6 v6))))])) rfl (hb hby at_329) _ k) ?_
  show Wlk p.tables e below (T66.setTop (mkF m 332 #[.val (.int p1), .val (.int p2), .val (.int p3), .val (.int p4), .val (.int v1), .val (.int v2), .val (.int v3), .val (.double v4), .second, .val (.double v5), .second, .val (.double v6), .second, .val (.ref b7), .val (.ref nw_35), .val (.long v49), .second, .val (.long v50), .second, .val (.long v51), .second, .val (.long v52), .second, .val (.long v53), .second, .val (.long v54), .second, .val (.long v55), .second, .val (.int (1 : Int32)), .val (.int (1 : Int32)), .unset] [(.double (4661225614328463360 : UInt64)), (.double (FP.dmul (FP.dmul (FP.dmul (FP.i2d p1) (FP.dsub FP.dconst1 (FP.dmul v4 v4))) (FP.dsub FP.dconst1 (FP.dmul v5 v5))) (FP.dsub FP.dconst1 (FP.dmul v6 v6))))])) K
  refine Wlk.of (fun _ k => XS.dmulS X66.here hx rfl (hb hby at_332) rfl x3.nn rfl k) ?_
  show Wlk p.tables e below (T66.setTop (mkF m 333 #[.val (.int p1), .val (.int p2), .val (.int p3), .val (.int p4), .val (.int v1), .val (.int v2), .val (.int v3), .val (.double v4), .second, .val (.double v5), .second, .val (.double v6), .second, .val (.ref b7), .val (.ref nw_35), .val (.long v49), .second, .val (.long v50), .second, .val (.long v51), .second, .val (.long v52), .second, .val (.long v53), .second, .val (.long v54), .second, .val (.long v55), .second, .val (.int (1 : Int32)), .val (.int (1 : Int32)), .unset] [(.double (FP.dmul (FP.dmul (FP.dmul (FP.dmul (FP.i2d p1) (FP.dsub FP.dconst1 (FP.dmul v4 v4))) (FP.dsub FP.dconst1 (FP.dmul v5 v5))) (FP.dsub FP.dconst1 (FP.dmul v6 v6))) (4661225614328463360 : UInt64)))])) K
  refine Wlk.of (fun _ k => XS.lload X66.here hx rfl (hb hby at_333) rfl k) ?_
  show Wlk p.tables e below (T66.setTop (mkF m 335 #[.val (.int p1), .val (.int p2), .val (.int p3), .val (.int p4), .val (.int v1), .val (.int v2), .val (.int v3), .val (.double v4), .second, .val (.double v5), .second, .val (.double v6), .second, .val (.ref b7), .val (.ref nw_35), .val (.long v49), .second, .val (.long v50), .second, .val (.long v51), .second, .val (.long v52), .second, .val (.long v53), .second, .val (.long v54), .second, .val (.long v55), .second, .val (.int (1 : Int32)), .val (.int (1 : Int32)), .unset] [(.long v52), (.double (FP.dmul (FP.dmul (FP.dmul (FP.dmul (FP.i2d p1) (FP.dsub FP.dconst1 (FP.dmul v4 v4))) (FP.dsub FP.dconst1 (FP.dmul v5 v5))) (FP.dsub FP.dconst1 (FP.dmul v6 v6))) (4661225614328463360 : UInt64)))])) K
  refine Wlk.of (fun _ k => XS.lload X66.here hx rfl (hb hby at_335) rfl k) ?_
  show Wlk p.tables e below (T66.setTop (mkF m 337 #[.val (.int p1), .val (.int p2), .val (.int p3), .val (.int p4), .val (.int v1), .val (.int v2), .val (.int v3), .val (.double v4), .second, .val (.double v5), .second, .val (.double v6), .second, .val (.ref b7), .val (.ref nw_35), .val (.long v49), .second, .val (.long v50), .second, .val (.long v51), .second, .val (.long v52), .second, .val (.long v53), .second, .val (.long v54), .second, .val (.long v55), .second, .val (.int (1 : Int32)), .val (.int (1 : Int32)), .unset] [(.long v53), (.long v52), (.double (FP.dmul (FP.dmul (FP.dmul (FP.dmul (FP.i2d p1) (FP.dsub FP.dconst1 (FP.dmul v4 v4))) (FP.dsub FP.dconst1 (FP.dmul v5 v5))) (FP.dsub FP.dconst1 (FP.dmul v6 v6))) (4661225614328463360 : UInt64)))])) K
  refine Wlk.of (fun _ k => XS.lmul X66.here hx rfl (hb hby at_337) rfl k) ?_
  show Wlk p.tables e below (T66.setTop (mkF m 338 #[.val (.int p1), .val (.int p2), .val (.int p3), .val (.int p4), .val (.int v1), .val (.int v2), .val (.int v3), .val (.double v4), .second, .val (.double v5), .second, .val (.double v6), .second, .val (.ref b7), .val (.ref nw_35), .val (.long v49), .second, .val (.long v50), .second, .val (.long v51), .second, .val (.long v52), .second, .val (.long v53), .second, .val (.long v54), .second, .val (.long v55), .second, .val (.int (1 : Int32)), .val (.int (1 : Int32)), .unset] [(.long (v52 * v53)), (.double (FP.dmul (FP.dmul (FP.dmul (FP.dmul (FP.i2d p1) (FP.dsub FP.dconst1 (FP.dmul v4 v4))) (FP.dsub FP.dconst1 (FP.dmul v5 v5))) (FP.dsub FP.dconst1 (FP.dmul v6 v6))) (4661225614328463360 : UInt64)))])) K
  refine Wlk.of (fun _ k => XS.lload X66.here hx rfl (hb hby at_338) rfl k) ?_
  show Wlk p.tables e below (T66.setTop (mkF m 340 #[.val (.int p1), .val (.int p2), .val (.int p3), .val (.int p4), .val (.int v1), .val (.int v2), .val (.int v3), .val (.double v4), .second, .val (.double v5), .second, .val (.double v6), .second, .val (.ref b7), .val (.ref nw_35), .val (.long v49), .second, .val (.long v50), .second, .val (.long v51), .second, .val (.long v52), .second, .val (.long v53), .second, .val (.long v54), .second, .val (.long v55), .second, .val (.int (1 : Int32)), .val (.int (1 : Int32)), .unset] [(.long v54), (.long (v52 * v53)), (.double (FP.dmul (FP.dmul (FP.dmul (FP.dmul (FP.i2d p1) (FP.dsub FP.dconst1 (FP.dmul v4 v4))) (FP.dsub FP.dconst1 (FP.dmul v5 v5))) (FP.dsub FP.dconst1 (FP.dmul v6 v6))) (4661225614328463360 : UInt64)))])) K
  refine Wlk.of (fun _ k => XS.lmul X66.here hx rfl (hb hby at_340) rfl k) ?_
  show Wlk p.tables e below (T66.setTop (mkF m 341 #[.val (.int p1), .val (.int p2), .val (.int p3), .val (.int p4), .val (.int v1), .val (.int v2), .val (.int v3), .val (.double v4), .second, .val (.double v5), .second, .val (.double v6), .second, .val (.ref b7), .val (.ref nw_35), .val (.long v49), .second, .val (.long v50), .second, .val (.long v51), .second, .val (.long v52), .second, .val (.long v53), .second, .val (.long v54), .second, .val (.long v55), .second, .val (.int (1 : Int32)), .val (.int (1 : Int32)), .unset] [(.long ((v52 * v53) * v54)), (.double (FP.dmul (FP.dmul (FP.dmul (FP.dmul (FP.i2d p1) (FP.dsub FP.dconst1 (FP.dmul v4 v4))) (FP.dsub FP.dconst1 (FP.dmul v5 v5))) (FP.dsub FP.dconst1 (FP.dmul v6 v6))) (4661225614328463360 : UInt64)))])) K
  refine Wlk.of (fun _ k => XS.lload X66.here hx rfl (hb hby at_341) rfl k) ?_
  show Wlk p.tables e below (T66.setTop (mkF m 343 #[.val (.int p1), .val (.int p2), .val (.int p3), .val (.int p4), .val (.int v1), .val (.int v2), .val (.int v3), .val (.double v4), .second, .val (.double v5), .second, .val (.double v6), .second, .val (.ref b7), .val (.ref nw_35), .val (.long v49), .second, .val (.long v50), .second, .val (.long v51), .second, .val (.long v52), .second, .val (.long v53), .second, .val (.long v54), .second, .val (.long v55), .second, .val (.int (1 : Int32)), .val (.int (1 : Int32)), .unset] [(.long v55), (.long ((v52 * v53) * v54)), (.double (FP.dmul (FP.dmul (FP.dmul (FP.dmul (FP.i2d p1) (FP.dsub FP.dconst1 (FP.dmul v4 v4))) (FP.dsub FP.dconst1 (FP.dmul v5 v5))) (FP.dsub FP.dconst1 (FP.dmul v6 v6))) (4661225614328463360 : UInt64)))])) K
  refine Wlk.of (fun _ k => XS.lmul X66.here hx rfl (hb hby at_343) rfl k) ?_
  show Wlk p.tables e below (T66.setTop (mkF m 344 #[.val (.int p1), .val (.int p2), .val (.int p3), .val (.int p4), .val (.int v1), .val (.int v2), .val (.int v3), .val (.double v4), .second, .val (.double v5), .second, .val (.double v6), .second, .val (.ref b7), .val (.ref nw_35), .val (.long v49), .second, .val (.long v50), .second, .val (.long v51), .second, .val (.long v52), .second, .val (.long v53), .second, .val (.long v54), .second, .val (.long v55), .second, .val (.int (1 : Int32)), .val (.int (1 : Int32)), .unset] [(.long (((v52 * v53) * v54) * v55)), (.double (FP.dmul (FP.dmul (FP.dmul (FP.dmul (FP.i2d p1) (FP.dsub FP.dconst1 (FP.dmul v4 v4))) (FP.dsub FP.dconst1 (FP.dmul v5 v5))) (FP.dsub FP.dconst1 (FP.dmul v6 v6))) (4661225614328463360 : UInt64)))])) K
  refine Wlk.of (fun _ k => XS.l2dS X66.here hx rfl (hb hby at_344) rfl rfl k) ?_
  show Wlk p.tables e below (T66.setTop (mkF m 345 #[.val (.int p1), .val (.int p2), .val (.int p3), .val (.int p4), .val (.int v1), .val (.int v2), .val (.int v3), .val (.double v4), .second, .val (.double v5), .second, .val (.double v6), .second, .val (.ref b7), .val (.ref nw_35), .val (.long v49), .second, .val (.long v50), .second, .val (.long v51), .second, .val (.long v52), .second, .val (.long v53), .second, .val (.long v54), .second, .val (.long v55), .second, .val (.int (1 : Int32)), .val (.int (1 : Int32)), .unset] [(.double (FP.l2d (((v52 * v53) * v54) * v55))), (.double (FP.dmul (FP.dmul (FP.dmul (FP.dmul (FP.i2d p1) (FP.dsub FP.dconst1 (FP.dmul v4 v4))) (FP.dsub FP.dconst1 (FP.dmul v5 v5))) (FP.dsub FP.dconst1 (FP.dmul v6 v6))) (4661225614328463360 : UInt64)))])) K
  refine Wlk.of (fun _ k => XS.dcmpS X66.here hx rfl (hb hby at_345) rfl rfl k) ?_
  show Wlk p.tables e below (T66.setTop (mkF m 346 #[.val (.int p1), .val (.int p2), .val (.int p3), .val (.int p4), .val (.int v1), .val (.int v2), .val (.int v3), .val (.double v4), .second, .val (.double v5), .second, .val (.double v6), .second, .val (.ref b7), .val (.ref nw_35), .val (.long v49), .second, .val (.long v50), .second, .val (.long v51), .second, .val (.long v52), .second, .val (.long v53), .second, .val (.long v54), .second, .val (.long v55), .second, .val (.int (1 : Int32)), .val (.int (1 : Int32)), .unset] [(.int (cmpValue (FP.dcmp (FP.dmul (FP.dmul (FP.dmul (FP.dmul (FP.i2d p1) (FP.dsub FP.dconst1 (FP.dmul v4 v4))) (FP.dsub FP.dconst1 (FP.dmul v5 v5))) (FP.dsub FP.dconst1 (FP.dmul v6 v6))) (4661225614328463360 : UInt64)) (FP.l2d (((v52 * v53) * v54) * v55))) .l))])) K
  refine Wlk.of (fun _ k => XS.ifNo X66.here hx rfl (hb hby at_346) rfl ((if0 _ _).trans (teq (Db.cmpV x3 z3 (by grind) _ : (cmpValue (FP.dcmp (FP.dmul (FP.dmul (FP.dmul (FP.dmul (FP.i2d p1) (FP.dsub FP.dconst1 (FP.dmul v4 v4))) (FP.dsub FP.dconst1 (FP.dmul v5 v5))) (FP.dsub FP.dconst1 (FP.dmul v6 v6))) (4661225614328463360 : UInt64)) (FP.l2d (((v52 * v53) * v54) * v55))) .l) = (0 : Int32))).2) k) ?_
  show Wlk p.tables e below (T66.setTop (mkF m 349 #[.val (.int p1), .val (.int p2), .val (.int p3), .val (.int p4), .val (.int v1), .val (.int v2), .val (.int v3), .val (.double v4), .second, .val (.double v5), .second, .val (.double v6), .second, .val (.ref b7), .val (.ref nw_35), .val (.long v49), .second, .val (.long v50), .second, .val (.long v51), .second, .val (.long v52), .second, .val (.long v53), .second, .val (.long v54), .second, .val (.long v55), .second, .val (.int (1 : Int32)), .val (.int (1 : Int32)), .unset] [])) K
  refine Wlk.of (fun _ k => XS.iconst X66.here hx rfl (hb hby at_349) k) ?_
  show Wlk p.tables e below (T66.setTop (mkF m 350 #[.val (.int p1), .val (.int p2), .val (.int p3), .val (.int p4), .val (.int v1), .val (.int v2), .val (.int v3), .val (.double v4), .second, .val (.double v5), .second, .val (.double v6), .second, .val (.ref b7), .val (.ref nw_35), .val (.long v49), .second, .val (.long v50), .second, .val (.long v51), .second, .val (.long v52), .second, .val (.long v53), .second, .val (.long v54), .second, .val (.long v55), .second, .val (.int (1 : Int32)), .val (.int (1 : Int32)), .unset] [(.int (1 : Int32))])) K
  refine Wlk.of (fun _ k => XS.goto X66.here hx rfl (pc0 := 350) (pc' := 354) rfl (hb hby at_350) (by decide) (by decide) k) ?_
  show Wlk p.tables e below (T66.setTop (mkF m 354 #[.val (.int p1), .val (.int p2), .val (.int p3), .val (.int p4), .val (.int v1), .val (.int v2), .val (.int v3), .val (.double v4), .second, .val (.double v5), .second, .val (.double v6), .second, .val (.ref b7), .val (.ref nw_35), .val (.long v49), .second, .val (.long v50), .second, .val (.long v51), .second, .val (.long v52), .second, .val (.long v53), .second, .val (.long v54), .second, .val (.long v55), .second, .val (.int (1 : Int32)), .val (.int (1 : Int32)), .unset] [(.int (1 : Int32))])) K
  refine Wlk.of (fun _ k => XS.istore X66.here hx rfl (hb hby at_354) rfl (l' := #[.val (.int p1), .val (.int p2), .val (.int p3), .val (.int p4), .val (.int v1), .val (.int v2), .val (.int v3), .val (.double v4), .second, .val (.double v5), .second, .val (.double v6), .second, .val (.ref b7), .val (.ref nw_35), .val (.long v49), .second, .val (.long v50), .second, .val (.long v51), .second, .val (.long v52), .second, .val (.long v53), .second, .val (.long v54), .second, .val (.long v55), .second, .val (.int (1 : Int32)), .val (.int (1 : Int32)), .val (.int (1 : Int32))]) rfl k) ?_
  show Wlk p.tables e below (T66.setTop (mkF m 356 #[.val (.int p1), .val (.int p2), .val (.int p3), .val (.int p4), .val (.int v1), .val (.int v2), .val (.int v3), .val (.double v4), .second, .val (.double v5), .second, .val (.double v6), .second, .val (.ref b7), .val (.ref nw_35), .val (.long v49), .second, .val (.long v50), .second, .val (.long v51), .second, .val (.long v52), .second, .val (.long v53), .second, .val (.long v54), .second, .val (.long v55), .second, .val (.int (1 : Int32)), .val (.int (1 : Int32)), .val (.int (1 : Int32))] [])) K
  refine Wlk.of (fun _ k => XS.iload X66.here hx rfl (hb hby at_356) rfl k) ?_
  show Wlk p.tables e below (T66.setTop (mkF m 358 #[.val (.int p1), .val (.int p2), .val (.int p3), .val (.int p4), .val (.int v1), .val (.int v2), .val (.int v3), .val (.double v4), .second, .val (.double v5), .second, .val (.double v6), .second, .val (.ref b7), .val (.ref nw_35), .val (.long v49), .second, .val (.long v50), .second, .val (.long v51), .second, .val (.long v52), .second, .val (.long v53), .second, .val (.long v54), .second, .val (.long v55), .second, .val (.int (1 : Int32)), .val (.int (1 : Int32)), .val (.int (1 : Int32))] [(.int (1 : Int32))])) K
  refine Wlk.of (fun _ k => XS.ifNo X66.here hx rfl (hb hby at_358) rfl ((if0 _ _).trans (feq (by decide : ¬ ((1 : Int32) = (0 : Int32)))).1) k) ?_
  show Wlk p.tables e below (T66.setTop (mkF m 361 #[.val (.int p1), .val (.int p2), .val (.int p3), .val (.int p4), .val (.int v1), .val (.int v2), .val (.int v3), .val (.double v4), .second, .val (.double v5), .second, .val (.double v6), .second, .val (.ref b7), .val (.ref nw_35), .val (.long v49), .second, .val (.long v50), .second, .val (.long v51), .second, .val (.long v52), .second, .val (.long v53), .second, .val (.long v54), .second, .val (.long v55), .second, .val (.int (1 : Int32)), .val (.int (1 : Int32)), .val (.int (1 : Int32))] [])) K
  refine Wlk.of (fun _ k => XS.iload X66.here hx rfl (hb hby at_361) rfl k) ?_
  show Wlk p.tables e below (T66.setTop (mkF m 363 #[.val (.int p1), .val (.int p2), .val (.int p3), .val (.int p4), .val (.int v1), .val (.int v2), .val (.int v3), .val (.double v4), .second, .val (.double v5), .second, .val (.double v6), .second, .val (.ref b7), .val (.ref nw_35), .val (.long v49), .second, .val (.long v50), .second, .val (.long v51), .second, .val (.long v52), .second, .val (.long v53), .second, .val (.long v54), .second, .val (.long v55), .second, .val (.int (1 : Int32)), .val (.int (1 : Int32)), .val (.int (1 : Int32))] [(.int (1 : Int32))])) K
  refine Wlk.of (fun _ k => XS.ifNo X66.here hx rfl (hb hby at_363) rfl ((if0 _ _).trans (feq (by decide : ¬ ((1 : Int32) = (0 : Int32)))).1) k) ?_
  show Wlk p.tables e below (T66.setTop (mkF m 366 #[.val (.int p1), .val (.int p2), .val (.int p3), .val (.int p4), .val (.int v1), .val (.int v2), .val (.int v3), .val (.double v4), .second, .val (.double v5), .second, .val (.double v6), .second, .val (.ref b7), .val (.ref nw_35), .val (.long v49), .second, .val (.long v50), .second, .val (.long v51), .second, .val (.long v52), .second, .val (.long v53), .second, .val (.long v54), .second, .val (.long v55), .second, .val (.int (1 : Int32)), .val (.int (1 : Int32)), .val (.int (1 : Int32))] [])) K
  refine Wlk.of (fun _ k => XS.iload X66.here hx rfl (hb hby at_366) rfl k) ?_
  show Wlk p.tables e below (T66.setTop (mkF m 368 #[.val (.int p1), .val (.int p2), .val (.int p3), .val (.int p4), .val (.int v1), .val (.int v2), .val (.int v3), .val (.double v4), .second, .val (.double v5), .second, .val (.double v6), .second, .val (.ref b7), .val (.ref nw_35), .val (.long v49), .second, .val (.long v50), .second, .val (.long v51), .second, .val (.long v52), .second, .val (.long v53), .second, .val (.long v54), .second, .val (.long v55), .second, .val (.int (1 : Int32)), .val (.int (1 : Int32)), .val (.int (1 : Int32))] [(.int (1 : Int32))])) K
  refine Wlk.of (fun _ k => XS.ifNo X66.here hx rfl (hb hby at_368) rfl ((if0 _ _).trans (feq (by decide : ¬ ((1 : Int32) = (0 : Int32)))).1) k) ?_
  show Wlk p.tables e below (T66.setTop (mkF m 371 #[.val (.int p1), .val (.int p2), .val (.int p3), .val (.int p4), .val (.int v1), .val (.int v2), .val (.int v3), .val (.double v4), .second, .val (.double v5), .second, .val (.double v6), .second, .val (.ref b7), .val (.ref nw_35), .val (.long v49), .second, .val (.long v50), .second, .val (.long v51), .second, .val (.long v52), .second, .val (.long v53), .second, .val (.long v54), .second, .val (.long v55), .second, .val (.int (1 : Int32)), .val (.int (1 : Int32)), .val (.int (1 : Int32))] [])) K
  refine Wlk.of (fun _ k => XS.iconst X66.here hx rfl (hb hby at_371) k) ?_
  show Wlk p.tables e below (T66.setTop (mkF m 372 #[.val (.int p1), .val (.int p2), .val (.int p3), .val (.int p4), .val (.int v1), .val (.int v2), .val (.int v3), .val (.double v4), .second, .val (.double v5), .second, .val (.double v6), .second, .val (.ref b7), .val (.ref nw_35), .val (.long v49), .second, .val (.long v50), .second, .val (.long v51), .second, .val (.long v52), .second, .val (.long v53), .second, .val (.long v54), .second, .val (.long v55), .second, .val (.int (1 : Int32)), .val (.int (1 : Int32)), .val (.int (1 : Int32))] [(.int (1 : Int32))])) K
  refine Wlk.of (fun _ k => XS.goto X66.here hx rfl (pc0 := 372) (pc' := 376) rfl (hb hby at_372) (by decide) (by decide) k) ?_
  show Wlk p.tables e below (T66.setTop (mkF m 376 #[.val (.int p1), .val (.int p2), .val (.int p3), .val (.int p4), .val (.int v1), .val (.int v2), .val (.int v3), .val (.double v4), .second, .val (.double v5), .second, .val (.double v6), .second, .val (.ref b7), .val (.ref nw_35), .val (.long v49), .second, .val (.long v50), .second, .val (.long v51), .second, .val (.long v52), .second, .val (.long v53), .second, .val (.long v54), .second, .val (.long v55), .second, .val (.int (1 : Int32)), .val (.int (1 : Int32)), .val (.int (1 : Int32))] [(.int (1 : Int32))])) K
  refine hK (some (.int (1 : Int32))) X66 (fun q => by cases q) (fun fs hr => retN X66 hx (t := .boolean) hret (by simp) (hb hby at_376) hr) ?_ (by decide) (by decide)
  rw [show T66.heap = T35.heap from hh66]
  exact ⟨rfl, N67⟩
set_option maxRecDepth 65536 in
set_option maxHeartbeats 40000000 in
theorem comes_1 {Post : Tables → Env → Array Value → State → Outcome → State → Prop} (hpost : ∀ tb e args s v u, (limb_1_1.after args s (.returned v) u = true ∧ limb_1_2.after args s (.returned v) u = true ∧ True) → FrameEnd s (.returned v) u (Jvm.fieldLocs frame_1_writes args s ++ Jvm.arrayLocs frame_1_arrays args s ++ Jvm.staticLocs frame_1_statics s) 24 128 → Post tb e args s (.returned v) u) :
    ArmFor flags0 classFile x code maxLocals ret World_1 tables_1 room_1 Calls_1 rest_1 Pre_1 Post := by
  intro l hfl _ _ p e ha hc hk s m args below hf hA hF happ hP
  obtain ⟨hcalls, hrest, hpre⟩ := hP
  obtain ⟨-, -, -, hnamed, -, -, -, hat⟩ := (Spec.applies_iff hf).mp happ
  obtain ⟨hg, hn⟩ := and_e (Cond.before_iff.mp (show (Jvm.Cond.and given_1 narrow_1).before args s = true from hpre))
  obtain ⟨g1, g2⟩ := and_e hg
  obtain ⟨g3, g4⟩ := and_e g2
  obtain ⟨g5, g6⟩ := and_e g4
  obtain ⟨g7, g8⟩ := and_e g6
  obtain ⟨w0, w1, w2, w3, rfl⟩ : ∃ w0 w1 w2 w3 : Value, args = #[w0, w1, w2, w3] := by
    have hs : args.size = 4 := by simpa [Cond.value, given_1] using g1
    obtain ⟨L⟩ := args
    match L, hs with
    | [w0, w1, w2, w3], _ => exact ⟨w0, w1, w2, w3, rfl⟩
  have hw := fun d (hd : d ∈ tables_1) => atoms_spec (ws := Jvm.Cond.code x code maxLocals ret :: tables_1) hat d (List.mem_cons_of_mem _ hd)
  have hfit : Fit s := fun {y c} hc i hi => by
    obtain ⟨ha, rfl⟩ := Array.getElem?_eq_some_iff.mp hc
    have q := List.all_eq_true.mp ((Array.all_eq_true_iff_forall_mem.mp hF) _ (Array.getElem_mem ha)) i (List.mem_range.mpr hi)
    simpa [Array.getElem?_eq_getElem hi] using q
  obtain ⟨i0, ei0⟩ := is_v g3
  obtain rfl : w0 = (.int i0) := Option.some.inj ei0
  obtain ⟨i1, ei1⟩ := is_v g5
  obtain rfl : w1 = (.int i1) := Option.some.inj ei1
  obtain ⟨i2, ei2⟩ := is_v g7
  obtain rfl : w2 = (.int i2) := Option.some.inj ei2
  obtain ⟨i3, ei3⟩ := is_v g8
  obtain rfl : w3 = (.int i3) := Option.some.inj ei3
  obtain ⟨n, o, h1, h2, h3, _, L, rfl, ⟨rfl, N⟩, hq⟩ := rm0 l s _ hw tables_1 i0 i1 i2 i3  s.heap s.heap.size (Nat.le_refl _)  p e ha hc hk s m _ below hf ((Spec.applies_iff_loose hf).mp happ).1 ⟨rfl, State.Warmed39.refl s, rfl⟩ trivial
  refine ⟨n, _, h1, h2, h3, hpost _ _ _ _ _ _ ⟨Cond.after_iff.mpr rfl, Cond.after_iff.mpr (eq_i res_at (Term.int_eval (1)) rfl), trivial⟩ ⟨hq.1, hq.2.1, (hq.2.2.sift fun y hy => Or.inr (N y hy)).mono (by decide) (by decide)⟩⟩
theorem main_1_1 : Claimed_1_1 := comes_1 fun _ _ _ _ _ _ h hF => ⟨h.1, hF⟩
theorem main_1_2 : Claimed_1_2 := comes_1 fun _ _ _ _ _ _ h hF => ⟨h.2.1, hF⟩
end Jvm.Pilot.@@N@@
namespace Jvm.Pilot.@@N@@
open Jvm Jvm.ClassFile Sem Op Lib Jvm.Free Jvm.Stand Jvm.Pilot.@@N@@.Jvm.D
/-! MADE BY PROGRAM (witnessworld.py) out of the Statement's table words and the real class files: 11 classes; the members and pool entries that the words name. The judged class is class 1, her method 1. -/
namespace start1
open Jvm.ClassFile
def u (s : String) : CpInfo := .utf8 (stringToUtf16 s)
/-- a pool by its gaps: so many unusable entries, then the entry; so many at the end -/
def gap : Nat → List CpInfo → List CpInfo
  | 0, r => r
  | n + 1, r => .unusable :: gap n r
def poolList (es : List (Nat × CpInfo)) (last : Nat) : List CpInfo := es.foldr (fun e r => gap e.1 (e.2 :: r)) (gap last [])
def pool (es : List (Nat × CpInfo)) (last : Nat) : Array CpInfo := ⟨poolList es last⟩
def fileOf (pool : Array CpInfo) (this : Nat) (attrs : Array Attribute := #[]) (ms : Array MethodInfo := #[]) (fl : Nat := 33) (sup : Nat := 0) (ifs : Array Nat := #[]) (fds : Array FieldInfo := #[]) : ClassFile where
  minorVersion := 0
  majorVersion := 65
  constantPool := pool
  accessFlags := fl
  thisClass := this
  superClass := sup
  interfaces := ifs
  fields := fds
  methods := ms
  attributes := attrs
def plain (name : String) (sup : Option ClassId) : Class where
  name := name
  kind := .ordinary
  loader := none
  accessFlags := 33
  super := sup
  interfaces := #[]
  cf := none
  fields := #[]
  methods := #[]
  instanceTypes := #[]
  staticTypes := #[]
  resolved := #[]
  callSites := []
  init := .initialized
  statics := none
  mirror := none

def pool0 : Array CpInfo := pool [(5, u "<init>"), (0, u "()V"), (1, .class_ 10), (1, u "java/lang/Object")] 113

def k0c0 : Code := { maxStack := 0, maxLocals := 1, code := object_method_1_code, exceptionTable := #[], attributes := #[] }
def k0m0 : Method := { name := "<init>", desc := "()V", sig := { parameters := [], returnType := none }, accessFlags := 1, code := some k0c0 }
/-- java/lang/Object -/
def k0 : Class := { plain "java/lang/Object" none with
  accessFlags := 33
  interfaces := #[]
  cf := some (fileOf pool0 8 #[] #[{ accessFlags := 1, nameIndex := 5, descriptorIndex := 6, attributes := #[] }] 33 0 #[] #[])
  fields := #[]
  methods := #[k0m0]
  instanceTypes := #[]
  staticTypes := #[]
  resolved := Array.replicate 124 none
  statics := none }

def pool1 : Array CpInfo := pool [(2, .class_ 4), (1, u "java/lang/Object"), (0, u "<init>"), (0, u "()V"), (0, .double 4616189618054758400), (1, .class_ 10), (0, u "lagwise/estimators/ArRecursion"), (0, .methodref 9 12), (0, .nameAndType 5 13), (0, u "(DI)V"), (0, .methodref 9 15), (0, .nameAndType 16 17), (0, u "add"), (0, u "(D)V"), (0, .methodref 9 19), (0, .nameAndType 20 21), (0, u "highestCoefficients"), (0, u "()[D"), (0, .long 16), (1, .double 4625196817309499392), (1, .long 4), (1, .double 4634204016564240384), (1, .methodref 9 31), (0, .nameAndType 32 33), (0, u "reflection"), (0, u "(I)D"), (0, .methodref 9 35), (0, .nameAndType 36 33), (0, u "residualVariance"), (0, .double 4643211215818981376), (1, .double 4661225614328463360), (1, .class_ 42), (0, u "lagwise/estimators/ArRecursionAddPinLaw"), (2, u "law"), (0, u "(IIII)Z")] 5

def k1m0 : Method := { name := "<init>", desc := "()V", sig := { parameters := [], returnType := none }, accessFlags := 1, code := none }
def k1c1 : Code := { maxStack := 8, maxLocals := 32, code := code, exceptionTable := #[], attributes := #[] }
def k1m1 : Method := { name := "law", desc := "(IIII)Z", sig := { parameters := [.int, .int, .int, .int], returnType := some .boolean }, accessFlags := 9, code := some k1c1 }
/-- lagwise/estimators/ArRecursionAddPinLaw -/
def k1 : Class := { plain "lagwise/estimators/ArRecursionAddPinLaw" (some 0) with
  accessFlags := 49
  interfaces := #[]
  cf := some (fileOf pool1 41 #[] #[{ accessFlags := 1, nameIndex := 5, descriptorIndex := 6, attributes := #[] }, { accessFlags := 9, nameIndex := 45, descriptorIndex := 46, attributes := #[] }] 49 2 #[] #[])
  fields := #[]
  methods := #[k1m0, k1m1]
  instanceTypes := #[]
  staticTypes := #[]
  resolved := Array.replicate 52 none
  statics := none }

def pool2 : Array CpInfo := pool [(1, .methodref 2 3), (0, .class_ 4), (0, .nameAndType 5 6), (0, u "java/lang/Object"), (0, u "<init>"), (0, u "()V"), (0, .fieldref 8 9), (0, .class_ 10), (0, .nameAndType 11 12), (0, u "lagwise/estimators/ArRecursion"), (0, u "highestCoefficients"), (0, u "[D"), (0, .fieldref 8 14), (0, .nameAndType 15 12), (0, u "reflections"), (0, .fieldref 8 17), (0, .nameAndType 18 12), (0, u "residualVariances"), (0, .methodref 8 20), (0, .nameAndType 21 22), (0, u "stepUp"), (0, u "([DD)[D"), (0, .fieldref 8 24), (0, .nameAndType 25 26), (0, u "highestOrder"), (0, u "I"), (9, u "reflection"), (0, u "(I)D"), (6, u "(DI)V"), (2, u "add"), (0, u "(D)V"), (0, u "()[D"), (0, u "residualVariance")] 7

def k2c0 : Code := { maxStack := 4, maxLocals := 4, code := prog_4_method_1_code, exceptionTable := #[], attributes := #[] }
def k2m0 : Method := { name := "<init>", desc := "(DI)V", sig := { parameters := [.double, .int], returnType := none }, accessFlags := 0, code := some k2c0 }
def k2c1 : Code := { maxStack := 10, maxLocals := 3, code := prog_4_method_2_code, exceptionTable := #[], attributes := #[] }
def k2m1 : Method := { name := "add", desc := "(D)V", sig := { parameters := [.double], returnType := none }, accessFlags := 0, code := some k2c1 }
def k2c2 : Code := { maxStack := 1, maxLocals := 1, code := prog_4_method_3_code, exceptionTable := #[], attributes := #[] }
def k2m2 : Method := { name := "highestCoefficients", desc := "()[D", sig := { parameters := [], returnType := some (.array .double) }, accessFlags := 0, code := some k2c2 }
def k2c3 : Code := { maxStack := 3, maxLocals := 2, code := prog_4_method_5_code, exceptionTable := #[], attributes := #[] }
def k2m3 : Method := { name := "reflection", desc := "(I)D", sig := { parameters := [.int], returnType := some .double }, accessFlags := 0, code := some k2c3 }
def k2c4 : Code := { maxStack := 2, maxLocals := 2, code := prog_4_method_6_code, exceptionTable := #[], attributes := #[] }
def k2m4 : Method := { name := "residualVariance", desc := "(I)D", sig := { parameters := [.int], returnType := some .double }, accessFlags := 0, code := some k2c4 }
def k2c5 : Code := { maxStack := 9, maxLocals := 6, code := prog_4_method_10_code, exceptionTable := #[], attributes := #[] }
def k2m5 : Method := { name := "stepUp", desc := "([DD)[D", sig := { parameters := [(.array .double), .double], returnType := some (.array .double) }, accessFlags := 8, code := some k2c5 }
/-- lagwise/estimators/ArRecursion -/
def k2 : Class := { plain "lagwise/estimators/ArRecursion" (some 0) with
  accessFlags := 48
  interfaces := #[]
  cf := some (fileOf pool2 8 #[] #[{ accessFlags := 0, nameIndex := 5, descriptorIndex := 44, attributes := #[] }, { accessFlags := 0, nameIndex := 47, descriptorIndex := 48, attributes := #[] }, { accessFlags := 0, nameIndex := 11, descriptorIndex := 49, attributes := #[] }, { accessFlags := 0, nameIndex := 36, descriptorIndex := 37, attributes := #[] }, { accessFlags := 0, nameIndex := 50, descriptorIndex := 37, attributes := #[] }, { accessFlags := 8, nameIndex := 21, descriptorIndex := 22, attributes := #[] }] 48 2 #[] #[{ accessFlags := 18, nameIndex := 15, descriptorIndex := 12, attributes := #[] }, { accessFlags := 18, nameIndex := 18, descriptorIndex := 12, attributes := #[] }, { accessFlags := 2, nameIndex := 11, descriptorIndex := 12, attributes := #[] }, { accessFlags := 2, nameIndex := 25, descriptorIndex := 26, attributes := #[] }])
  fields := #[{ name := "reflections", type := (.array .double), accessFlags := 18, slot := 0, constantValue := 0 }, { name := "residualVariances", type := (.array .double), accessFlags := 18, slot := 1, constantValue := 0 }, { name := "highestCoefficients", type := (.array .double), accessFlags := 2, slot := 2, constantValue := 0 }, { name := "highestOrder", type := .int, accessFlags := 2, slot := 3, constantValue := 0 }]
  methods := #[k2m0, k2m1, k2m2, k2m3, k2m4, k2m5]
  instanceTypes := #[(.array .double), (.array .double), (.array .double), .int]
  staticTypes := #[]
  resolved := Array.replicate 58 none
  statics := none }

def pool3 : Array CpInfo := pool [(1, u "java/lang/Cloneable"), (0, .class_ 1), (0, u "java/lang/Object"), (0, .class_ 3)] 3

/-- java/lang/Cloneable -/
def k3 : Class := { plain "java/lang/Cloneable" (some 0) with
  accessFlags := 1537
  interfaces := #[]
  cf := some (fileOf pool3 2 #[] #[] 1537 4 #[] #[])
  fields := #[]
  methods := #[]
  instanceTypes := #[]
  staticTypes := #[]
  resolved := Array.replicate 8 none
  statics := none }

def pool4 : Array CpInfo := pool [(1, u "java/io/Serializable"), (0, .class_ 1), (0, u "java/lang/Object"), (0, .class_ 3)] 3

/-- java/io/Serializable -/
def k4 : Class := { plain "java/io/Serializable" (some 0) with
  accessFlags := 1537
  interfaces := #[]
  cf := some (fileOf pool4 2 #[] #[] 1537 4 #[] #[])
  fields := #[]
  methods := #[]
  instanceTypes := #[]
  staticTypes := #[]
  resolved := Array.replicate 8 none
  statics := none }

/-- the primitive byte -/
def k5 : Class := { plain "byte" none with kind := .primitive 'B', accessFlags := 0x411 }
/-- [B -/
def k6 : Class := { plain "[B" (some 0) with kind := .array 5 .byte, interfaces := #[3, 4], accessFlags := 1041 }

/-- the primitive double -/
def k7 : Class := { plain "double" none with kind := .primitive 'D', accessFlags := 0x411 }
/-- [D -/
def k8 : Class := { plain "[D" (some 0) with kind := .array 7 .double, interfaces := #[3, 4], accessFlags := 1041 }

/-- the primitive int -/
def k9 : Class := { plain "int" none with kind := .primitive 'I', accessFlags := 0x411 }
/-- [I -/
def k10 : Class := { plain "[I" (some 0) with kind := .array 9 .int, interfaces := #[3, 4], accessFlags := 1041 }

def heap : Heap := #[]
def classes : Array Class := #[k0, k1, k2, k3, k4, k5, k6, k7, k8, k9, k10]
def interned : List (Array UInt16 × Addr) := []
def slotsUsed : Nat := 0
def theMethod : MethodId := ⟨1, 1⟩
def args0 : Array Value := #[.int 5, .int 7, .int 1, .int 2]
def aboutOver (below : List Frame) : State where
  vm := { classes := classes, interned := interned.toArray }
  heap := heap
  slotsUsed := slotsUsed
  threads := #[{ frames := .invoking theMethod args0 :: below }]
def below0 : List Frame := [.native { method := ⟨0, 0⟩, args := #[] }]
def about1 : State := aboutOver below0
def p0 : Program := .bare "" "" ""
def e0 : Env := launch0.env 0 0 0
theorem w_frames : about1.frames = Frame.invoking theMethod args0 :: below0 := rfl
set_option maxRecDepth 65536 in
theorem w_args : argsFit about1.vm theMethod args0 = true := by decide +kernel
set_option maxRecDepth 65536 in
theorem w_heap : heapFits about1 = true := by decide +kernel
set_option maxRecDepth 65536 in
theorem w_runnable : about1.curStatus? = some .runnable := by decide +kernel
set_option maxRecDepth 65536 in
theorem w_alone : about1.alone = true := by decide +kernel
set_option maxRecDepth 65536 in
theorem w_named : about1.methodNamed? x = some theMethod := by decide +kernel
set_option maxRecDepth 65536 in
theorem w_hears : about1.hears theMethod below0 = true := by decide +kernel
set_option maxRecDepth 65536 in
theorem w_ripe : about1.ripe theMethod args0 below0 = true := by decide +kernel
theorem w_running : about1.status = .running := rfl
set_option maxRecDepth 65536 in
theorem w_room : about1.hasRoom e0.platform room_1 = true :=
  launch0.hasRoom_least _ room_1 (by decide +kernel) (by decide +kernel) (by decide +kernel) (by decide +kernel) (by decide +kernel) (by decide +kernel)
theorem allAtoms_all (ts : List Jvm.Cond) (a : Array Jvm.Value) (st : Jvm.State) : (allAtoms ts).before a st = ts.all (fun c => c.before a st) := by
  induction ts with
  | nil => rfl
  | cons c t ih =>
    show (Jvm.Cond.and c (allAtoms t)).before a st = _
    rw [Jvm.Cond.before_and, ih, List.all_cons]
def words1 : List Jvm.Cond := Jvm.Cond.code x code maxLocals ret :: tables_1
/-- a 'code' word, met by the world's own term for the bytes: nothing is compared byte by byte -/
theorem code_word {y : MethodName} {bytes : ByteArray} {mx : Nat} {rt : Option FieldType} {a : Array Value} {s : State} {m : MethodId} {meth : Method} {c : Code} (h1 : s.methodNamed? y = some m) (h2 : s.vm.method? m = some meth) (h3 : meth.code = some c) (h4 : c.code = bytes)
    (h5 : (c.maxLocals == mx && c.exceptionTable.isEmpty && decide (c.maxStack ≤ mostOperands) && decide (meth.sig.returnType = rt) && !meth.locks && decide (parseMethodDescriptor y.desc = some meth.sig)) = true) : (Jvm.Cond.code y bytes mx rt).before a s = true := by
  simp only [Bool.and_eq_true, beq_iff_eq, Bool.not_eq_true', decide_eq_true_eq] at h5
  obtain ⟨⟨⟨⟨⟨g1, g2⟩, g3⟩, g4⟩, g5⟩, g6⟩ := h5
  simp [Cond.before, Cond.holds, Cond.value, h1, h2, h3, h4, g1, g2, g3, g4, g5, g6]
def isCode : Jvm.Cond → Bool
  | .code _ _ _ _ => true
  | _ => false
theorem all_split {L : List Jvm.Cond} {P : Jvm.Cond → Bool} (h1 : L.all (fun c => isCode c || P c) = true) (h2 : ∀ c ∈ L.filter isCode, P c = true) : L.all P = true := by
  refine List.all_eq_true.mpr fun c hc => ?_
  have h := List.all_eq_true.mp h1 c hc
  rcases Bool.eq_false_or_eq_true (isCode c) with hi | hi
  · exact h2 c (List.mem_filter.mpr ⟨hc, hi⟩)
  · simpa [hi] using h
set_option maxRecDepth 65536 in
theorem w_c0 : (Jvm.Cond.code x code maxLocals ret).before args0 about1 = true := code_word (m := ⟨1, 1⟩) (meth := k1m1) (c := k1c1) (by decide +kernel) rfl rfl rfl (by decide +kernel)
set_option maxRecDepth 65536 in
theorem w_c1 : (Jvm.Cond.code ({ cls := "lagwise/estimators/ArRecursion", name := "<init>", desc := "(DI)V" } : Jvm.MethodName) prog_4_method_1_code (4 : Nat) (Option.none : Option Jvm.ClassFile.FieldType)).before args0 about1 = true := code_word (m := ⟨2, 0⟩) (meth := k2m0) (c := k2c0) (by decide +kernel) rfl rfl rfl (by decide +kernel)
set_option maxRecDepth 65536 in
theorem w_c2 : (Jvm.Cond.code ({ cls := "java/lang/Object", name := "<init>", desc := "()V" } : Jvm.MethodName) object_method_1_code (1 : Nat) (Option.none : Option Jvm.ClassFile.FieldType)).before args0 about1 = true := code_word (m := ⟨0, 0⟩) (meth := k0m0) (c := k0c0) (by decide +kernel) rfl rfl rfl (by decide +kernel)
set_option maxRecDepth 65536 in
theorem w_c3 : (Jvm.Cond.code ({ cls := "lagwise/estimators/ArRecursion", name := "add", desc := "(D)V" } : Jvm.MethodName) prog_4_method_2_code (3 : Nat) (Option.none : Option Jvm.ClassFile.FieldType)).before args0 about1 = true := code_word (m := ⟨2, 1⟩) (meth := k2m1) (c := k2c1) (by decide +kernel) rfl rfl rfl (by decide +kernel)
set_option maxRecDepth 65536 in
theorem w_c4 : (Jvm.Cond.code ({ cls := "lagwise/estimators/ArRecursion", name := "stepUp", desc := "([DD)[D" } : Jvm.MethodName) prog_4_method_10_code (6 : Nat) (Option.some (Jvm.ClassFile.FieldType.array Jvm.ClassFile.FieldType.double))).before args0 about1 = true := code_word (m := ⟨2, 5⟩) (meth := k2m5) (c := k2c5) (by decide +kernel) rfl rfl rfl (by decide +kernel)
set_option maxRecDepth 65536 in
theorem w_c5 : (Jvm.Cond.code ({ cls := "lagwise/estimators/ArRecursion", name := "highestCoefficients", desc := "()[D" } : Jvm.MethodName) prog_4_method_3_code (1 : Nat) (Option.some (Jvm.ClassFile.FieldType.array Jvm.ClassFile.FieldType.double))).before args0 about1 = true := code_word (m := ⟨2, 2⟩) (meth := k2m2) (c := k2c2) (by decide +kernel) rfl rfl rfl (by decide +kernel)
set_option maxRecDepth 65536 in
theorem w_c6 : (Jvm.Cond.code ({ cls := "lagwise/estimators/ArRecursion", name := "reflection", desc := "(I)D" } : Jvm.MethodName) prog_4_method_5_code (2 : Nat) (Option.some Jvm.ClassFile.FieldType.double)).before args0 about1 = true := code_word (m := ⟨2, 3⟩) (meth := k2m3) (c := k2c3) (by decide +kernel) rfl rfl rfl (by decide +kernel)
set_option maxRecDepth 65536 in
theorem w_c7 : (Jvm.Cond.code ({ cls := "lagwise/estimators/ArRecursion", name := "residualVariance", desc := "(I)D" } : Jvm.MethodName) prog_4_method_6_code (2 : Nat) (Option.some Jvm.ClassFile.FieldType.double)).before args0 about1 = true := code_word (m := ⟨2, 4⟩) (meth := k2m4) (c := k2c4) (by decide +kernel) rfl rfl rfl (by decide +kernel)
def codes1 : List Jvm.Cond := [Jvm.Cond.code x code maxLocals ret, Jvm.Cond.code ({ cls := "lagwise/estimators/ArRecursion", name := "<init>", desc := "(DI)V" } : Jvm.MethodName) prog_4_method_1_code (4 : Nat) (Option.none : Option Jvm.ClassFile.FieldType), Jvm.Cond.code ({ cls := "java/lang/Object", name := "<init>", desc := "()V" } : Jvm.MethodName) object_method_1_code (1 : Nat) (Option.none : Option Jvm.ClassFile.FieldType), Jvm.Cond.code ({ cls := "lagwise/estimators/ArRecursion", name := "add", desc := "(D)V" } : Jvm.MethodName) prog_4_method_2_code (3 : Nat) (Option.none : Option Jvm.ClassFile.FieldType), Jvm.Cond.code ({ cls := "lagwise/estimators/ArRecursion", name := "stepUp", desc := "([DD)[D" } : Jvm.MethodName) prog_4_method_10_code (6 : Nat) (Option.some (Jvm.ClassFile.FieldType.array Jvm.ClassFile.FieldType.double)), Jvm.Cond.code ({ cls := "lagwise/estimators/ArRecursion", name := "highestCoefficients", desc := "()[D" } : Jvm.MethodName) prog_4_method_3_code (1 : Nat) (Option.some (Jvm.ClassFile.FieldType.array Jvm.ClassFile.FieldType.double)), Jvm.Cond.code ({ cls := "lagwise/estimators/ArRecursion", name := "reflection", desc := "(I)D" } : Jvm.MethodName) prog_4_method_5_code (2 : Nat) (Option.some Jvm.ClassFile.FieldType.double), Jvm.Cond.code ({ cls := "lagwise/estimators/ArRecursion", name := "residualVariance", desc := "(I)D" } : Jvm.MethodName) prog_4_method_6_code (2 : Nat) (Option.some Jvm.ClassFile.FieldType.double)]
set_option maxRecDepth 65536 in
theorem codes_eq : words1.filter isCode = codes1 := rfl
theorem w_codes : ∀ c ∈ words1.filter isCode, c.before args0 about1 = true := by
  rw [codes_eq]
  intro c hc
  simp only [codes1, List.mem_cons, List.not_mem_nil, or_false] at hc
  rcases hc with rfl | rfl | rfl | rfl | rfl | rfl | rfl | rfl
  · exact w_c0
  · exact w_c1
  · exact w_c2
  · exact w_c3
  · exact w_c4
  · exact w_c5
  · exact w_c6
  · exact w_c7
set_option maxRecDepth 65536 in
theorem w_t1 : (words1.take 24).all (fun c => isCode c || c.before args0 about1) = true := by decide +kernel
set_option maxRecDepth 65536 in
theorem w_t2 : ((words1.drop 24).take 24).all (fun c => isCode c || c.before args0 about1) = true := by decide +kernel
set_option maxRecDepth 65536 in
theorem w_t3 : ((words1.drop 24).drop 24).all (fun c => isCode c || c.before args0 about1) = true := by decide +kernel
theorem w_tables : (allAtoms (Jvm.Cond.code x code maxLocals ret :: tables_1)).before args0 about1 = true := by
  rw [allAtoms_all]
  show words1.all (fun c => c.before args0 about1) = true
  refine all_split ?_ w_codes
  rw [← List.take_append_drop 24 words1, List.all_append, w_t1, ← List.take_append_drop 24 (words1.drop 24), List.all_append, w_t2, w_t3]
  rfl
set_option maxRecDepth 65536 in
theorem w_case : (Jvm.Cond.and given_1 narrow_1).before args0 about1 = true := by decide +kernel
theorem w_applies : (headSpec (Jvm.Cond.code x code maxLocals ret :: tables_1) room_1).applies x e0.platform about1 = true :=
  (Spec.applies_iff w_frames).mpr ⟨w_running, w_runnable, w_alone, w_named, w_hears, w_ripe, w_room, w_tables⟩
theorem atStart : AtStart classFile x code maxLocals ret World_1 tables_1 room_1 Calls_1 rest_1 Pre_1 launch0 p0 e0 about1 theMethod args0 below0 :=
  ⟨lists_1, trivial, launch0.admits_env _ _ _, launch0.least_env, fairChoices_fair.cas, fairChoices_fair.clock, w_frames, w_args, w_heap, w_applies, trivial, trivial, w_case⟩
end start1
theorem witness_1 : WitnessClaimed_1 := ⟨start1.p0, start1.e0, start1.about1, start1.theMethod, start1.args0, start1.below0, start1.atStart⟩
end Jvm.Pilot.@@N@@
