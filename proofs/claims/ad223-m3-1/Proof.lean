import JvmDerived
import JvmDerived.Pilot.@@N@@Statement
import JvmDerived.Pilot.@@N@@Code
set_option linter.unusedVariables false
set_option linter.unusedSimpArgs false
namespace Jvm.OwnKit
open Sem ClassFile Op Lib Jvm.Stand Jvm.Free Jvm.LawKit Jvm.RoadKit
abbrev jv (x : Int64) : Slot := .val (.long x)
abbrev dv (x : UInt64) : Slot := .val (.double x)
abbrev nv : Slot := .val .null
abbrev un : Slot := .unset
abbrev sd : Slot := .second
theorem wd {ws : List Jvm.Cond} {a0 : Array Value} {Z : State} (hw : ∀ d ∈ ws, d.before a0 Z = true) (i : Nat) {d : Jvm.Cond} (h : ws[i]? = some d) : d.before a0 Z = true := hw _ (List.mem_of_getElem? h)
/-! ## the walk, backwards: from S the run comes to an end that K speaks of -/
def Wlk (tb : Tables) (e : Env) (below : List Frame) (S : State) (K : State → Outcome → Prop) : Prop := ∃ s₂ o, Steps tb e below S s₂ ∧ K s₂ o
section Wlks
variable {tb : Tables} {e : Env} {below : List Frame} {S S' : State} {K : State → Outcome → Prop}
theorem Wlk.of (f : ∀ t, Steps tb e below S' t → Steps tb e below S t) (h : Wlk tb e below S' K) : Wlk tb e below S K := by
  obtain ⟨t, o, h1, h2⟩ := h; exact ⟨t, o, f t h1, h2⟩
end Wlks
/-! ## a body's contract -/
def Ctr (l : Launch) (Z : State) (h0 : Heap) (y : MethodName) (bytes : ByteArray) (maxL : Nat) (ret : Option FieldType) (ws : List Jvm.Cond) (rm : Room) (as' : Array Value) (Q : Option Value → Heap → List Loc → Prop) : Prop :=
  MetFree l y (head1 (Jvm.Cond.code y bytes maxL ret :: ws) rm) (fun a U => a = as' ∧ Z.Warmed39 U.vm ∧ U.heap = h0) (fun _ _ _ _ _ => True) (fun _ U o U' => ∃ v L, o = .returned v ∧ Q v U'.heap L ∧ FrameEnd U o U' L rm.cells rm.slots)
/-- what the end of a body's walk must show -/
def Fin (p : Program) (l : Launch) (e : Env) (rm : Room) (s : State) (m : MethodId) (as' : Array Value) (below : List Frame) (meth : Method) (c : Code) (ret : Option FieldType) (Q : Option Value → Heap → List Loc → Prop) (K : State → Outcome → Prop) : Prop :=
  ∀ {T : State} {locs : List Loc} {cells slots : Nat} {F : JFrame} (v : Option Value), Stand p l e rm s m as' below meth c T locs cells slots → (ret = none → v = none) →
    (∀ fs, (∀ (f : JFrame) (acts : List Action), f.method = m → f.locked = none → f.entered = [] → (doReturn e (T.setTop f) acts v).1 = T.setFrames fs) → Steps p.tables e below (T.setTop F) (T.setFrames fs)) →
    Q v T.heap locs → cells ≤ rm.cells → slots ≤ rm.slots → Wlk p.tables e below (T.setTop F) K
theorem Ctr.make {l : Launch} {Z : State} {h0 : Heap} {y : MethodName} {bytes : ByteArray} {maxL : Nat} {ret : Option FieldType} {ws : List Jvm.Cond} {rm : Room} {as' : Array Value} {Q : Option Value → Heap → List Loc → Prop} (hpn : plainFor y = true)
    (H : ∀ (p : Program) (e : Env) (s : State) (m : MethodId) (below : List Frame) (meth : Method) (c : Code) (s₁ : State) (K : State → Outcome → Prop), meth.sig.returnType = ret → c.maxLocals = maxL → p.tables.exec = Jvm.exec → c.code = bytes → s.vm.findClass y.cls = some m.cls → meth.name = y.name → Z.Warmed39 s.vm →
      Stand p l e rm s m as' below meth c s₁ [] 0 0 → s₁.heap = h0 → Fin p l e rm s m as' below meth c ret Q K → Wlk p.tables e below (s₁.setTop (entryFrame m as' maxL)) K) : Ctr l Z h0 y bytes maxL ret ws rm as' Q := by
  refine MetFree.of_bodySF hpn hisR ?_
  intro p e s m args below meth c s₁ Bd hml hP hK
  obtain ⟨rfl, hZ, hh⟩ := hP
  refine H p e s m below meth c s₁ (fun s₂ o => s₂.status = .running ∧ Ended s₂ below o ∧ ∃ v L, o = .returned v ∧ Q v s₂.heap L ∧ FrameEnd s o s₂ L rm.cells rm.slots) Bd.returns hml Bd.exec Bd.bytes (findClass_of_methodNamed Bd.named) (name_of_methodNamed Bd.named Bd.method).1 hZ (Stand.of_body Bd) (by rw [← hh, Bd.state]; rfl) ?_
  intro T locs cells slots F v X hv hst hq hc hs
  obtain ⟨fs, hr, hrun, hended, hW, hsame⟩ := X.leave (v := v) (fun h => hv (Bd.returns ▸ h)) Bd.notSynchronized
  exact ⟨_, _, hst fs hr, hrun, hended, v, locs, rfl, hq, ⟨_, rfl⟩, hW, hsame.mono hc hs⟩
section Calls
variable {p : Program} {l : Launch} {e : Env} {R : Room} {s : State} {m : MethodId} {args : Array Value} {below : List Frame} {meth : Method} {c : Code} {T : State} {locs : List Loc} {cells slots : Nat} {Z : State} {a0 : Array Value} {h : Heap}
variable {y z : MethodName} {bytes : ByteArray} {maxL : Nat} {ret : Option FieldType} {rm : Room} {as' : Array Value} {Q : Option Value → Heap → List Loc → Prop}
theorem Ctr.static (M : Ctr l Z h y bytes maxL ret [] rm as' Q) (X : Stand p l e R s m args below meth c T locs cells slots) (hx : p.tables.exec = Jvm.exec) (hZ : Z.Warmed39 s.vm) (eT : T.heap = h) {own : String} {index : Nat} (hown : s.vm.findClass own = some m.cls)
    (wl : (Jvm.Cond.methodLink own index y).before a0 Z = true) (wt : (Jvm.Cond.static y).before a0 Z = true) (wi : (Jvm.Cond.initialized y.cls).before a0 Z = true) (wc : (Jvm.Cond.code y bytes maxL ret).before a0 Z = true) (hy : y.cls ≠ "java/lang/invoke/MethodHandle" ∧ y.cls ≠ "java/lang/invoke/VarHandle")
    {ps : List FieldType} {rt : Option FieldType} (hpd : parseMethodDescriptor y.desc = some ⟨ps, rt⟩) {g : JFrame} (hg : g.method = m) (hsize : g.locals.size = c.maxLocals) {argsL rest : List Value} (ha : argsL.toArray = as') (hlen : argsL.length = ps.length) (hstack : g.stack = argsL.reverse ++ rest)
    {W : Nat} (hW : 2 * g.monitorRoom + (rest.map fun v => v.category).sum ≤ W) (hf : rm.frames + 1 ≤ R.frames) (hl : W + (maxL + 11) + rm.locals ≤ R.locals) (hd : decode c.code g.pc = .ok (.invokestatic index, 3)) (hc : cells + rm.cells ≤ R.cells) (hs : slots + rm.slots ≤ R.slots) :
    ∃ (v : Option Value) (T' : State) (L : List Loc), Stand p l e R s m args below meth c T' (locs ++ L) (cells + rm.cells) (slots + rm.slots) ∧ Q v T'.heap L ∧ ∀ target, Steps p.tables e below (T'.setTop { g with pc := g.pc + 3, stack := v.toList ++ rest }) target → Steps p.tables e below (T.setTop g) target := by
  obtain ⟨v, _, ⟨T', L, k, n⟩, -, X', ⟨Lc, hQ, l1, y1, z1⟩, st⟩ := Jvm.LawKit.callS X hx hown (mvT hZ wl) (mvT hZ wt) (mvT hZ wi) (mvT hZ wc) hy (backOf (W := W) M hZ wc wi hf hl) hg hsize (argsL := argsL) (rest := rest) (lenOf hpd hlen) hstack hW hd (fun _ _ => ⟨ha, eT, hc, hs⟩)
  dsimp only [Pt.U, Pt.locs, Pt.cells, Pt.slots] at X' l1 y1 z1 st hQ
  subst l1 y1 z1
  exact ⟨v, T', Lc, X', hQ, st⟩
theorem Ctr.special (M : Ctr l Z h y bytes maxL none [] rm as' Q) (X : Stand p l e R s m args below meth c T locs cells slots) (hx : p.tables.exec = Jvm.exec) (hZ : Z.Warmed39 s.vm) (eT : T.heap = h) {own : String} {index : Nat} (hown : s.vm.findClass own = some m.cls) (hy1 : y.name = "<init>")
    (wl : (Jvm.Cond.methodLink own index y).before a0 Z = true) (wt : (Jvm.Cond.instanceMethod y).before a0 Z = true) (wi : (Jvm.Cond.initialized y.cls).before a0 Z = true) (wc : (Jvm.Cond.code y bytes maxL none).before a0 Z = true) (hy : y.cls ≠ "java/lang/invoke/MethodHandle" ∧ y.cls ≠ "java/lang/invoke/VarHandle")
    {ps : List FieldType} {rt : Option FieldType} (hpd : parseMethodDescriptor y.desc = some ⟨ps, rt⟩) {g : JFrame} (hg : g.method = m) (hsize : g.locals.size = c.maxLocals) {a : Addr} {argsL rest : List Value} (ha : (.ref a :: argsL).toArray = as') (hlen : argsL.length = ps.length) (hstack : g.stack = argsL.reverse ++ .ref a :: rest)
    {W : Nat} (hW : 2 * g.monitorRoom + (rest.map fun v => v.category).sum ≤ W) (hf : rm.frames + 1 ≤ R.frames) (hl : W + (maxL + 11) + rm.locals ≤ R.locals) (hd : decode c.code g.pc = .ok (.invokespecial index, 3)) (hc : cells + rm.cells ≤ R.cells) (hs : slots + rm.slots ≤ R.slots) :
    ∃ (v : Option Value) (T' : State) (L : List Loc), Stand p l e R s m args below meth c T' (locs ++ L) (cells + rm.cells) (slots + rm.slots) ∧ Q v T'.heap L ∧ ∀ target, Steps p.tables e below (T'.setTop { g with pc := g.pc + 3, stack := v.toList ++ rest }) target → Steps p.tables e below (T.setTop g) target := by
  obtain ⟨v, _, ⟨T', L, k, n⟩, -, X', ⟨Lc, hQ, l1, y1, z1⟩, st⟩ := X.specialBack hx hy1 hown (mvT hZ wl) (mvT hZ wt) (mvT hZ wc) hy (backOf (W := W) M hZ wc wi hf hl) hg hsize (Steps.refl _) (a := a) (argsL := argsL) (rest := rest) (lenOf hpd hlen) hstack hW hd (fun _ _ => ⟨ha, eT, hc, hs⟩)
  dsimp only [Pt.U, Pt.locs, Pt.cells, Pt.slots] at X' l1 y1 z1 st hQ
  subst l1 y1 z1
  exact ⟨v, T', Lc, X', hQ, fun target k => st.trans k⟩
theorem Ctr.virtual (M : Ctr l Z h z bytes maxL ret [] rm as' Q) (X : Stand p l e R s m args below meth c T locs cells slots) (hx : p.tables.exec = Jvm.exec) (hZ : Z.Warmed39 s.vm) (eT : T.heap = h) {own C : String} {index : Nat} (hown : s.vm.findClass own = some m.cls)
    (wl : (Jvm.Cond.methodLink own index y).before a0 Z = true) (wd : (Jvm.Cond.declares y).before a0 Z = true) (hnf : NotFace s y) (wsel : (Jvm.Cond.selects C y z).before a0 Z = true) (wt : (Jvm.Cond.instanceMethod z).before a0 Z = true) (wi : (Jvm.Cond.initialized z.cls).before a0 Z = true) (wc : (Jvm.Cond.code z bytes maxL ret).before a0 Z = true) (hy : y.cls ≠ "java/lang/invoke/MethodHandle" ∧ y.cls ≠ "java/lang/invoke/VarHandle")
    {a : Addr} (E : Exa Z h a C) {ps : List FieldType} {rt : Option FieldType} (hpd : parseMethodDescriptor y.desc = some ⟨ps, rt⟩) {g : JFrame} (hg : g.method = m) (hsize : g.locals.size = c.maxLocals) {argsL rest : List Value} (ha : (.ref a :: argsL).toArray = as') (hlen : argsL.length = ps.length) (hstack : g.stack = argsL.reverse ++ .ref a :: rest)
    {W : Nat} (hW : 2 * g.monitorRoom + (rest.map fun v => v.category).sum ≤ W) (hf : rm.frames + 1 ≤ R.frames) (hl : W + (maxL + 11) + rm.locals ≤ R.locals) (hd : decode c.code g.pc = .ok (.invokevirtual index, 3)) (hc : cells + rm.cells ≤ R.cells) (hs : slots + rm.slots ≤ R.slots) :
    ∃ (v : Option Value) (T' : State) (L : List Loc), Stand p l e R s m args below meth c T' (locs ++ L) (cells + rm.cells) (slots + rm.slots) ∧ Q v T'.heap L ∧ ∀ target, Steps p.tables e below (T'.setTop { g with pc := g.pc + 3, stack := v.toList ++ rest }) target → Steps p.tables e below (T.setTop g) target := by
  obtain ⟨cq, kq, qa, qb, qc⟩ := isOf hZ eT E
  obtain ⟨v, _, ⟨T', L, k, n⟩, -, X', ⟨Lc, hQ, l1, y1, z1⟩, st⟩ := X.virtualBack hx hown (mvT hZ wl) (mvT hZ wd) hnf (mvT hZ wsel) (mvT hZ wt) hy (backOf (W := W) M hZ wc wi hf hl) qa qc hg hsize (Steps.refl _) (argsL := argsL) (rest := rest) (lenOf hpd hlen) hstack hW hd (fun _ _ => ⟨ha, eT, hc, hs⟩)
  dsimp only [Pt.U, Pt.locs, Pt.cells, Pt.slots] at X' l1 y1 z1 st hQ
  subst l1 y1 z1
  exact ⟨v, T', Lc, X', hQ, fun target k => st.trans k⟩
theorem Ctr.priv (M : Ctr l Z h y bytes maxL ret [] rm as' Q) (X : Stand p l e R s m args below meth c T locs cells slots) (hx : p.tables.exec = Jvm.exec) (hZ : Z.Warmed39 s.vm) (eT : T.heap = h) {own : String} {index n : Nat} (hown : s.vm.findClass own = some m.cls)
    (wl : (Jvm.Cond.methodLink own index y).before a0 Z = true) (wt : (Jvm.Cond.instanceMethod y).before a0 Z = true) (wp : (Jvm.Cond.privateMethod y).before a0 Z = true) (win : (Jvm.Cond.instantiable y.cls n).before a0 Z = true) (wi : (Jvm.Cond.initialized y.cls).before a0 Z = true) (wc : (Jvm.Cond.code y bytes maxL ret).before a0 Z = true) (hy : y.cls ≠ "java/lang/invoke/MethodHandle" ∧ y.cls ≠ "java/lang/invoke/VarHandle")
    {C : String} {a : Addr} (E : Exa Z h a C) {ps : List FieldType} {rt : Option FieldType} (hpd : parseMethodDescriptor y.desc = some ⟨ps, rt⟩) {g : JFrame} (hg : g.method = m) (hsize : g.locals.size = c.maxLocals) {argsL rest : List Value} (ha : (.ref a :: argsL).toArray = as') (hlen : argsL.length = ps.length) (hstack : g.stack = argsL.reverse ++ .ref a :: rest)
    {W : Nat} (hW : 2 * g.monitorRoom + (rest.map fun v => v.category).sum ≤ W) (hf : rm.frames + 1 ≤ R.frames) (hl : W + (maxL + 11) + rm.locals ≤ R.locals) (hd : decode c.code g.pc = .ok (.invokevirtual index, 3)) (hc : cells + rm.cells ≤ R.cells) (hs : slots + rm.slots ≤ R.slots) :
    ∃ (v : Option Value) (T' : State) (L : List Loc), Stand p l e R s m args below meth c T' (locs ++ L) (cells + rm.cells) (slots + rm.slots) ∧ Q v T'.heap L ∧ ∀ target, Steps p.tables e below (T'.setTop { g with pc := g.pc + 3, stack := v.toList ++ rest }) target → Steps p.tables e below (T.setTop g) target := by
  obtain ⟨cq, q, q'⟩ := E.cell
  obtain ⟨ck, k, i1, i2, i3, i4, -⟩ := Cond.instantiable_spec (mvT (args := args) hZ win)
  have hni : k.isInterface = false := by cases hk : k.isInterface <;> simp [hk] at i4 ⊢
  have hpr := Cond.privateMethod_at (mvP (args := args) hZ wp)
  obtain ⟨v, _, ⟨T', L, k, n⟩, -, X', ⟨Lc, hQ, l1, y1, z1⟩, st⟩ := X.privateBack hx hown (mvT hZ wl) (mvT hZ wt) (selects_self_of_private i1 i2 hni hpr (mvT hZ wt) hy) hpr (mvT hZ wc) hy (backOf (W := W) M hZ wc wi hf hl) hg hsize (Steps.refl _) (a := a) (by rw [eT]; exact q) q' (argsL := argsL) (rest := rest) (lenOf hpd hlen) hstack hW hd (fun _ _ => ⟨ha, eT, hc, hs⟩)
  dsimp only [Pt.U, Pt.locs, Pt.cells, Pt.slots] at X' l1 y1 z1 st hQ
  subst l1 y1 z1
  exact ⟨v, T', Lc, X', hQ, fun target k => st.trans k⟩
/-- a static call that a payer of the library answers, and that leaves all as it was -/
theorem paidS (X : Stand p l e R s m args below meth c T locs cells slots) (hx : p.tables.exec = Jvm.exec) (hZ : Z.Warmed39 s.vm) (eT : T.heap = h) {own : String} {index : Nat} (hown : s.vm.findClass own = some m.cls)
    (wl : (Jvm.Cond.methodLink own index y).before a0 Z = true) (wt : (Jvm.Cond.static y).before a0 Z = true) (wi : (Jvm.Cond.initialized y.cls).before a0 Z = true) (wc : (Jvm.Cond.code y bytes maxL ret).before a0 Z = true) (hy : y.cls ≠ "java/lang/invoke/MethodHandle" ∧ y.cls ≠ "java/lang/invoke/VarHandle")
    {W : Nat} {Pre : Pt → Array Value → Prop} {Post : Pt → Array Value → Option Value → Pt → Prop} (hK : Back l R p e below s args y 3 W Pre Post)
    {ps : List FieldType} {rt : Option FieldType} (hpd : parseMethodDescriptor y.desc = some ⟨ps, rt⟩) {g : JFrame} (hg : g.method = m) (hsize : g.locals.size = c.maxLocals) {argsL rest : List Value} (hlen : argsL.length = ps.length) (hstack : g.stack = argsL.reverse ++ rest)
    (hW : 2 * g.monitorRoom + (rest.map fun v => v.category).sum ≤ W) (hd : decode c.code g.pc = .ok (.invokestatic index, 3)) (hpre : ∀ U : State, U.heap = h → Pre ⟨U, locs, cells, slots⟩ argsL.toArray) {val : Value} (hpost : ∀ A v B, Post A argsL.toArray v B → v = some val ∧ pureAt A B) :
    ∃ T', Stand p l e R s m args below meth c T' locs cells slots ∧ T'.heap = h ∧ ∀ target, Steps p.tables e below (T'.setTop { g with pc := g.pc + 3, stack := val :: rest }) target → Steps p.tables e below (T.setTop g) target := by
  obtain ⟨v, vm1, ⟨T', L, k, n⟩, -, X', hP, st⟩ := Jvm.LawKit.callS X hx hown (mvT hZ wl) (mvT hZ wt) (mvT hZ wi) (mvT hZ wc) hy hK hg hsize (argsL := argsL) (rest := rest) (lenOf hpd hlen) hstack hW hd (fun vm1 _ => hpre _ eT)
  obtain ⟨rfl, q1, q2, q3, q4⟩ := hpost _ _ _ hP
  dsimp only [Pt.U, Pt.locs, Pt.cells, Pt.slots] at X' q1 q2 q3 q4 st
  subst q2 q3 q4
  exact ⟨T', X', by rw [q1]; exact eT, st⟩
end Calls
/-! ## an array by the list of what it holds -/
def Arl (Z : State) (h : Heap) (a : Addr) (ty : FieldType) (vs : List Value) : Prop := ∃ c : Cell, Arr Z h a c ty ∧ c.slots.toList = vs ∧ vs.length < 2 ^ 31
section Arls
variable {p : Program} {l : Launch} {e : Env} {R : Room} {s : State} {m : MethodId} {args : Array Value} {below : List Frame} {meth : Method} {c : Code} {T : State} {locs : List Loc} {cells slots : Nat} {Z : State} {a0 : Array Value} {h h' h0 : Heap}
variable {a b : Addr} {ty : FieldType} {vs : List Value} {v : Value} {sl : Nat} {ws : List Addr}
theorem Arl.lt (F : Arl Z h a ty vs) : a < h.size := by obtain ⟨c, A, -⟩ := F; exact A.lt
theorem Arl.ext (F : Arl Z h a ty vs) (E : Ext h h') : Arl Z h' a ty vs := by obtain ⟨c, A, r⟩ := F; exact ⟨c, A.ext E, r⟩
theorem Arl.other (F : Arl Z h b ty vs) (W : Wr h h' a sl v) (q : b ≠ a) : Arl Z h' b ty vs := by obtain ⟨c, A, r⟩ := F; exact ⟨c, A.other W q, r⟩
theorem Arl.keep (F : Arl Z h a ty vs) (K : Keep h h' ws) (q : a ∉ ws) : Arl Z h' a ty vs := by obtain ⟨c, A, r⟩ := F; exact ⟨c, ⟨K.2.1 a c A.1 q, A.2⟩, r⟩
theorem Arl.wr (F : Arl Z h a ty vs) (W : Wr h h' a sl v) : Arl Z h' a ty (vs.set sl v) := by
  obtain ⟨c, A, e, q⟩ := F
  exact ⟨c.setSlot sl v, A.same W, by rw [← e]; simp [Cell.setSlot], by simpa using q⟩
theorem Arl.inb {c : Cell} {j : Int32} {i : Nat} (e : c.slots.toList = vs) (hj : j.toNatClampNeg = i) (h0 : ¬ j < 0) (hi : i < vs.length) : ¬ (j < 0 ∨ c.slots.size ≤ j.toNatClampNeg) := by
  subst hj e
  rintro (q | q)
  · exact h0 q
  · simp at hi; omega
theorem Arl.at {c : Cell} {j : Int32} {i : Nat} (e : c.slots.toList = vs) (hj : j.toNatClampNeg = i) (hv : vs[i]? = some v) : c.slots[j.toNatClampNeg]? = some v := by
  subst hj e; simpa using hv
theorem some_lt {i : Nat} (hv : vs[i]? = some v) : i < vs.length := (List.getElem?_eq_some_iff.mp hv).1
theorem newL (X : Stand p l e R s m args below meth c T locs cells slots) (hx : p.tables.exec = Jvm.exec) (hZ : Z.Warmed39 s.vm) {aty : ArrayType} (w : (Jvm.Cond.arrayClass (newarray.typeOf aty)).before a0 Z = true) (eT : T.heap = h) {g : JFrame} (hg : g.method = m) (hd : decode c.code g.pc = .ok (.newarray aty, 2)) {n : Int32} {rest : List Value} (hs : g.stack = .int n :: rest)
    (hn : ¬ n < 0) {cap : Nat} (hcap : n.toNatClampNeg = cap) (hb : cap * 8 ≤ 536870912) (hc : cells + 1 ≤ R.cells) (hl : slots + cap ≤ R.slots) :
    ∃ T' h', Stand p l e R s m args below meth c T' locs (cells + 1) (slots + cap) ∧ T'.heap = h' ∧ Ext h h' ∧ Arl Z h' h.size (newarray.typeOf aty) (List.replicate cap (defaultValue (newarray.typeOf aty))) ∧
      ∀ target, Steps p.tables e below (T'.setTop { g with pc := g.pc + 2, stack := .ref h.size :: rest }) target → Steps p.tables e below (T.setTop g) target := by
  obtain ⟨T', h', cA, X', e', E, A, st⟩ := newP X hx hZ w eT hg hd hs hn (cap := cap) (Nat.le_of_eq hcap) hb hc hl
  refine ⟨T', h', X', e', E, ⟨_, A, by simp [newA, hcap], ?_⟩, st⟩
  have := (back32 hn).2
  rw [List.length_replicate]; omega
theorem lenL (X : Stand p l e R s m args below meth c T locs cells slots) (hx : p.tables.exec = Jvm.exec) (hZ : Z.Warmed39 s.vm) (eT : T.heap = h) (F : Arl Z h a ty vs) {n : Int32} (hn : vs.length.toInt32 = n) {g : JFrame} (hg : g.method = m) {rest : List Value} (hs : g.stack = .ref a :: rest) (hd : decode c.code g.pc = .ok (.arraylength, 1)) (target : State)
    (k : Steps p.tables e below (T.setTop { g with pc := g.pc + 1, stack := .int n :: rest }) target) : Steps p.tables e below (T.setTop g) target := by
  obtain ⟨cl, A, e1, q⟩ := F
  have q2 : cl.slots.size.toInt32 = n := by rw [← hn, ← e1]; simp
  exact X.arraylength hx (by rw [eT]; exact A.1) (State.isArrayOf_alike hZ.alike A.2.1) hg hs hd target (by rw [q2]; exact k)
theorem ldD (X : Stand p l e R s m args below meth c T locs cells slots) (hx : p.tables.exec = Jvm.exec) (hZ : Z.Warmed39 s.vm) (eT : T.heap = h) (F : Arl Z h a .double vs) {j : Int32} {i : Nat} (hj : j.toNatClampNeg = i) (h0 : ¬ j < 0) (hv : vs[i]? = some v) {g : JFrame} (hg : g.method = m) {rest : List Value} (hs : g.stack = .int j :: .ref a :: rest) (hd : decode c.code g.pc = .ok (.daload, 1)) (target : State)
    (k : Steps p.tables e below (T.setTop { g with pc := g.pc + 1, stack := v :: rest }) target) : Steps p.tables e below (T.setTop g) target := by
  obtain ⟨cl, A, e1, q⟩ := F
  exact X.daload hx (by rw [eT]; exact A.1) (State.isArrayOf_alike hZ.alike A.2.1) A.2.2 (Arl.inb e1 hj h0 (some_lt hv)) (Arl.at e1 hj hv) hg hs hd target k
theorem ldI (X : Stand p l e R s m args below meth c T locs cells slots) (hx : p.tables.exec = Jvm.exec) (hZ : Z.Warmed39 s.vm) (eT : T.heap = h) (F : Arl Z h a .int vs) {j : Int32} {i : Nat} (hj : j.toNatClampNeg = i) (h0 : ¬ j < 0) (hv : vs[i]? = some v) {g : JFrame} (hg : g.method = m) {rest : List Value} (hs : g.stack = .int j :: .ref a :: rest) (hd : decode c.code g.pc = .ok (.iaload, 1)) (target : State)
    (k : Steps p.tables e below (T.setTop { g with pc := g.pc + 1, stack := v :: rest }) target) : Steps p.tables e below (T.setTop g) target := by
  obtain ⟨cl, A, e1, q⟩ := F
  exact X.iaload hx (by rw [eT]; exact A.1) (State.isArrayOf_alike hZ.alike A.2.1) A.2.2 (Arl.inb e1 hj h0 (some_lt hv)) (Arl.at e1 hj hv) hg hs hd target k
theorem ldJ (X : Stand p l e R s m args below meth c T locs cells slots) (hx : p.tables.exec = Jvm.exec) (hZ : Z.Warmed39 s.vm) (eT : T.heap = h) (F : Arl Z h a .long vs) {j : Int32} {i : Nat} (hj : j.toNatClampNeg = i) (h0 : ¬ j < 0) (hv : vs[i]? = some v) {g : JFrame} (hg : g.method = m) {rest : List Value} (hs : g.stack = .int j :: .ref a :: rest) (hd : decode c.code g.pc = .ok (.laload, 1)) (target : State)
    (k : Steps p.tables e below (T.setTop { g with pc := g.pc + 1, stack := v :: rest }) target) : Steps p.tables e below (T.setTop g) target := by
  obtain ⟨cl, A, e1, q⟩ := F
  exact X.laload hx (by rw [eT]; exact A.1) (State.isArrayOf_alike hZ.alike A.2.1) A.2.2 (Arl.inb e1 hj h0 (some_lt hv)) (Arl.at e1 hj hv) hg hs hd target k
theorem ldZ (X : Stand p l e R s m args below meth c T locs cells slots) (hx : p.tables.exec = Jvm.exec) (hZ : Z.Warmed39 s.vm) (eT : T.heap = h) (F : Arl Z h a .boolean vs) {j : Int32} {i : Nat} (hj : j.toNatClampNeg = i) (h0 : ¬ j < 0) (hv : vs[i]? = some v) {g : JFrame} (hg : g.method = m) {rest : List Value} (hs : g.stack = .int j :: .ref a :: rest) (hd : decode c.code g.pc = .ok (.baload, 1)) (target : State)
    (k : Steps p.tables e below (T.setTop { g with pc := g.pc + 1, stack := v :: rest }) target) : Steps p.tables e below (T.setTop g) target := by
  obtain ⟨cl, A, e1, q⟩ := F
  exact X.baloadBooleans hx (by rw [eT]; exact A.1) (State.isArrayOf_alike hZ.alike A.2.1) A.2.2 (Arl.inb e1 hj h0 (some_lt hv)) (Arl.at e1 hj hv) hg hs hd target k
theorem ldR (X : Stand p l e R s m args below meth c T locs cells slots) (hx : p.tables.exec = Jvm.exec) (hZ : Z.Warmed39 s.vm) (eT : T.heap = h) (F : Arl Z h a ty vs) (hty : ty.isReference = true) {j : Int32} {i : Nat} (hj : j.toNatClampNeg = i) (h0 : ¬ j < 0) (hv : vs[i]? = some v) {g : JFrame} (hg : g.method = m) {rest : List Value} (hs : g.stack = .int j :: .ref a :: rest) (hd : decode c.code g.pc = .ok (.aaload, 1)) (target : State)
    (k : Steps p.tables e below (T.setTop { g with pc := g.pc + 1, stack := v :: rest }) target) : Steps p.tables e below (T.setTop g) target := by
  obtain ⟨cl, A, e1, q⟩ := F
  exact X.aaload hx (by rw [eT]; exact A.1) (State.isArrayOf_alike hZ.alike A.2.1) hty A.2.2 (Arl.inb e1 hj h0 (some_lt hv)) (Arl.at e1 hj hv) hg hs hd target k
theorem stDl (X : Stand p l e R s m args below meth c T locs cells slots) (hx : p.tables.exec = Jvm.exec) (hZ : Z.Warmed39 s.vm) (eT : T.heap = h) (F : Arl Z h a .double vs) {j : Int32} {i : Nat} {x : UInt64} (hj : j.toNatClampNeg = i) (h0 : ¬ j < 0) (hi : i < vs.length) {g : JFrame} (hg : g.method = m) {rest : List Value} (hs : g.stack = .double x :: .int j :: .ref a :: rest) (hd : decode c.code g.pc = .ok (.dastore, 1)) :
    ∃ T' h', Stand p l e R s m args below meth c T' (locs ++ [⟨a, i⟩]) cells slots ∧ T'.heap = h' ∧ Wr h h' a i (.double x) ∧ Arl Z h' a .double (vs.set i (.double x)) ∧ ∀ target, Steps p.tables e below (T'.setTop { g with pc := g.pc + 1, stack := rest }) target → Steps p.tables e below (T.setTop g) target := by
  have F0 := F
  obtain ⟨cl, A, e1, q⟩ := F
  obtain ⟨T', h', X', e', W, st⟩ := stD X hx hZ eT A (Arl.inb e1 hj h0 hi) hg hs hd
  subst hj
  exact ⟨T', h', X', e', W, F0.wr W, st⟩
theorem stIl (X : Stand p l e R s m args below meth c T locs cells slots) (hx : p.tables.exec = Jvm.exec) (hZ : Z.Warmed39 s.vm) (eT : T.heap = h) (F : Arl Z h a .int vs) {j : Int32} {i : Nat} {x : Int32} (hj : j.toNatClampNeg = i) (h0 : ¬ j < 0) (hi : i < vs.length) {g : JFrame} (hg : g.method = m) {rest : List Value} (hs : g.stack = .int x :: .int j :: .ref a :: rest) (hd : decode c.code g.pc = .ok (.iastore, 1)) :
    ∃ T' h', Stand p l e R s m args below meth c T' (locs ++ [⟨a, i⟩]) cells slots ∧ T'.heap = h' ∧ Wr h h' a i (.int x) ∧ Arl Z h' a .int (vs.set i (.int x)) ∧ ∀ target, Steps p.tables e below (T'.setTop { g with pc := g.pc + 1, stack := rest }) target → Steps p.tables e below (T.setTop g) target := by
  have F0 := F
  obtain ⟨cl, A, e1, q⟩ := F
  obtain ⟨T', h', X', e', W, st⟩ := stI X hx hZ eT A (Arl.inb e1 hj h0 hi) hg hs hd
  subst hj
  exact ⟨T', h', X', e', W, F0.wr W, st⟩
theorem stJl (X : Stand p l e R s m args below meth c T locs cells slots) (hx : p.tables.exec = Jvm.exec) (hZ : Z.Warmed39 s.vm) (eT : T.heap = h) (F : Arl Z h a .long vs) {j : Int32} {i : Nat} {x : Int64} (hj : j.toNatClampNeg = i) (h0 : ¬ j < 0) (hi : i < vs.length) {g : JFrame} (hg : g.method = m) {rest : List Value} (hs : g.stack = .long x :: .int j :: .ref a :: rest) (hd : decode c.code g.pc = .ok (.lastore, 1)) :
    ∃ T' h', Stand p l e R s m args below meth c T' (locs ++ [⟨a, i⟩]) cells slots ∧ T'.heap = h' ∧ Wr h h' a i (.long x) ∧ Arl Z h' a .long (vs.set i (.long x)) ∧ ∀ target, Steps p.tables e below (T'.setTop { g with pc := g.pc + 1, stack := rest }) target → Steps p.tables e below (T.setTop g) target := by
  have F0 := F
  obtain ⟨cl, A, e1, q⟩ := F
  obtain ⟨T', h', X', e', W, st⟩ := stJ X hx hZ eT A (Arl.inb e1 hj h0 hi) hg hs hd
  subst hj
  exact ⟨T', h', X', e', W, F0.wr W, st⟩
theorem stZl (X : Stand p l e R s m args below meth c T locs cells slots) (hx : p.tables.exec = Jvm.exec) (hZ : Z.Warmed39 s.vm) (eT : T.heap = h) (F : Arl Z h a .boolean vs) {j : Int32} {i : Nat} {x : Int32} (hn : nar .boolean x = x) (hj : j.toNatClampNeg = i) (h0 : ¬ j < 0) (hi : i < vs.length) {g : JFrame} (hg : g.method = m) {rest : List Value} (hs : g.stack = .int x :: .int j :: .ref a :: rest) (hd : decode c.code g.pc = .ok (.bastore, 1)) :
    ∃ T' h', Stand p l e R s m args below meth c T' (locs ++ [⟨a, i⟩]) cells slots ∧ T'.heap = h' ∧ Wr h h' a i (.int x) ∧ Arl Z h' a .boolean (vs.set i (.int x)) ∧ ∀ target, Steps p.tables e below (T'.setTop { g with pc := g.pc + 1, stack := rest }) target → Steps p.tables e below (T.setTop g) target := by
  have F0 := F
  obtain ⟨cl, A, e1, q⟩ := F
  obtain ⟨T', h', X', e', W, st⟩ := stZ X hx hZ eT A (Arl.inb e1 hj h0 hi) hg hs hd
  rw [hn] at W
  subst hj
  exact ⟨T', h', X', e', W, F0.wr W, st⟩
theorem Arv.arl {k : ClassId} {n : Int32} {d : Value} (F : Arv Z h a k ty n vs d) (hl : vs.length = n.toNatClampNeg) : Arl Z h a ty vs := by
  obtain ⟨c, A, -, S, q, H, -⟩ := F
  refine ⟨c, A, ?_, by rw [hl]; exact (back32 q).2⟩
  refine List.ext_getElem? fun i => ?_
  rw [Array.getElem?_toList]
  by_cases hi : i < c.slots.size
  · rw [H i hi, List.getD_eq_getElem?_getD, List.getElem?_eq_getElem (by omega)]; simp
  · rw [Array.getElem?_eq_none (by omega), List.getElem?_eq_none (by omega)]
theorem gridL (X : Stand p l e R s m args below meth c T locs cells slots) (hx : p.tables.exec = Jvm.exec) (hZ : Z.Warmed39 s.vm) {own C ad : String} {index : Nat} (hown : s.vm.findClass own = some m.cls) (hC : (FieldType.array ty).toString = C) (had : "[" ++ C = ad)
    (w1 : (Jvm.Cond.classLink own index ad).before a0 Z = true) (w2 : (Jvm.Cond.arrayOver (.array ty)).before a0 Z = true) (w3 : (Jvm.Cond.arrayClass ty).before a0 Z = true) (eT : T.heap = h) {g : JFrame} (hg : g.method = m) (hd : decode c.code g.pc = .ok (.multianewarray index 2, 4)) {n k : Int32} {rest : List Value} (hs : g.stack = .int k :: .int n :: rest)
    (hn : ¬ n < 0) (hk : ¬ k < 0) {N cap : Nat} (hN : n.toNatClampNeg = N) (hcap : k.toNatClampNeg = cap) (hb : cap * 8 ≤ 536870912) (hb1 : N ≤ 1000) (hdf : fits ty (defaultValue ty) = true) (hdd : (defaultValue ty).isDefault = true) (hc : cells + (1 + N) ≤ R.cells) (hl : slots + (N + N * cap) ≤ R.slots) :
    ∃ (T' : State) (h' : Heap), Stand p l e R s m args below meth c T' locs (cells + (1 + N)) (slots + (N + N * cap)) ∧ T'.heap = h' ∧ Ext h h' ∧ Arl Z h' h.size (.array ty) ((List.range N).map fun j => .ref (h.size + 1 + j)) ∧
      (∀ j, j < N → Arl Z h' (h.size + 1 + j) ty (List.replicate cap (defaultValue ty))) ∧
      ∀ target, Steps p.tables e below (T'.setTop { g with pc := g.pc + 4, stack := .ref h.size :: rest }) target → Steps p.tables e below (T.setTop g) target := by
  obtain ⟨T', h', cA, comp, X', e', E, A, -, -, I, st⟩ := gridM X hx hZ hown hC had w1 w2 w3 eT hg hd hs hn hk hN rfl (Nat.le_of_eq hcap) hb hb1 hdf hdd hc hl
  refine ⟨T', h', X', e', E, ?_, fun j hj => ?_, st⟩
  · have := Arv.arl A (by simp [hN])
    rw [List.map_map] at this
    exact this
  · obtain ⟨AI, -⟩ := I j (h.size + 1 + j) (by simp [hj])
    refine ⟨_, AI, by simp [newA, hcap], ?_⟩
    have := (back32 hk).2
    rw [List.length_replicate]; omega
end Arls
end Jvm.OwnKit
namespace Jvm.OwnKit
open Jvm.FP Jvm.FP.Core
/-! ## dyadic doubles: a is the number i / 2^k -/
def shf (k : Int) : Datum → Datum
  | .nan => .nan
  | .inf s => .inf s
  | .fin s c q => .fin s c (q + k)
def Dy (i : Int) (k : Int) (a : UInt64) : Prop := Whole i (shf k (val64 a))
theorem shf_zero (d : Datum) : shf 0 d = d := by cases d <;> simp [shf]
theorem shf_shf (j k : Int) (d : Datum) : shf j (shf k d) = shf (k + j) d := by cases d <;> simp [shf]; omega
theorem shf_neg (k : Int) (x : Datum) : shf k (negate x) = negate (shf k x) := by cases x <;> rfl
theorem inU_shf (c : Nat) (q e k : Int) : inUnits c (q + k) (e + k) = inUnits c q e := by
  unfold inUnits; rw [show q + k - (e + k) = q - e by omega]
theorem shf_sum (k : Int) (x y : Datum) : shf k (exactSum x y) = exactSum (shf k x) (shf k y) := by
  cases x <;> cases y
  case fin.fin s c q t d r =>
    have hm : min (q + k) (r + k) = min q r + k := by omega
    simp only [shf, exactSum, hm, sumUnits, inU_shf]
  case inf.inf s t => by_cases h : s = t <;> simp [shf, exactSum, h]
  all_goals rfl
theorem shf_prod (k j : Int) (x y : Datum) : shf (k + j) (exactProduct x y) = exactProduct (shf k x) (shf j y) := by
  cases x <;> cases y
  case fin.fin s c q t d r => simp only [shf, exactProduct]; congr 1; omega
  case inf.fin s t d r => by_cases h : d = 0 <;> simp [shf, exactProduct, h]
  case fin.inf s c q t => by_cases h : c = 0 <;> simp [shf, exactProduct, h]
  all_goals rfl
theorem shf_order (k : Int) (x y : Datum) : order (shf k x) (shf k y) = order x y := by
  cases x <;> cases y
  case fin.fin s c q t d r =>
    have hm : min (q + k) (r + k) = min q r + k := by omega
    simp only [shf, order, hm, inU_shf]
  all_goals rfl
/-- a number of at most 53 digits at a middling exponent is rounded to itself -/
theorem whole_exact {s : Bool} {n : Nat} {k : Int} (hn : n < 2 ^ 53) (h1 : -900 ≤ k) (h2 : k ≤ 1000) : Whole (signed s n) (shf k (round b64 (.fin s n (-k)))) := by
  have q1 : b64.qmin = -1074 := by decide
  have q2 : b64.qmax = 971 := by decide
  obtain ⟨c', q', e1, e2⟩ := round_exact good_b64 s (c := n) (q := -k) (by exact hn) (by omega) (by omega)
  have hf := round_fits good_b64 (.fin s n (-k))
  rw [e1] at hf
  have g1 := hf.2.1
  rw [e1]
  show signed s (c' * 2 ^ (q' + k).toNat) = signed s n * ((2 ^ (-(q' + k)).toNat : Nat) : Int)
  rw [← signed_mul]
  congr 1
  unfold inUnits at e2
  rw [q1] at e2 g1
  refine Nat.eq_of_mul_eq_mul_right (Nat.two_pow_pos ((-k - -1074).toNat)) ?_
  refine Nat.eq_of_mul_eq_mul_right (Nat.two_pow_pos ((q' - -1074).toNat)) ?_
  have hx : (q' + k).toNat + (-k - -1074).toNat = (-(q' + k)).toNat + (q' - -1074).toNat := by omega
  calc c' * 2 ^ (q' + k).toNat * 2 ^ (-k - -1074).toNat * 2 ^ (q' - -1074).toNat
      = (c' * 2 ^ (q' - -1074).toNat) * 2 ^ ((q' + k).toNat + (-k - -1074).toNat) := by rw [Nat.pow_add]; ac_rfl
    _ = (n * 2 ^ (-k - -1074).toNat) * 2 ^ ((-(q' + k)).toNat + (q' - -1074).toNat) := by rw [e2, hx]
    _ = n * 2 ^ (-(q' + k)).toNat * 2 ^ (-k - -1074).toNat * 2 ^ (q' - -1074).toNat := by rw [Nat.pow_add]; ac_rfl
theorem signed_abs {s : Bool} {i : Int} (h : i ≠ 0 → s = decide (i < 0)) : signed s i.natAbs = i := by
  by_cases hi : i = 0
  · subst hi; exact signed_zero s
  · rw [h hi]; unfold signed; by_cases q : i < 0 <;> simp [q] <;> omega
theorem dy_round {i k : Int} {d : Datum} (hi : i.natAbs < 2 ^ 53) (h1 : -900 ≤ k) (h2 : k ≤ 1000) (h : Whole i (shf k d)) : Whole i (shf k (round b64 d)) := by
  cases d with
  | nan => exact h.elim
  | inf => exact h.elim
  | fin s c q =>
    have hw : Whole i (.fin s c (q + k)) := h
    have ha := whole_natAbs hw
    have e : round b64 (.fin s c q) = round b64 (.fin s i.natAbs (-k)) := by
      refine roundRatio_congr (by decide) (by decide) ?_
      rw [show (q - -k).toNat = (q + k).toNat by omega, show (-k - q).toNat = (-(q + k)).toNat by omega]
      simpa using ha
    rw [e]
    have := whole_exact (s := s) (k := k) hi h1 h2
    rw [signed_abs (fun hn => whole_sign hw hn)] at this
    exact this
section Dys
variable {i j k k' : Int} {a b : UInt64}
theorem Dy.fin (h : Dy i k a) : ∃ s c q, val64 a = .fin s c q := by
  unfold Dy at h
  cases hv : val64 a with
  | nan => rw [hv] at h; exact h.elim
  | inf s => rw [hv] at h; exact h.elim
  | fin s c q => exact ⟨s, c, q, rfl⟩
theorem Dy.nn (h : Dy i k a) : Jvm.Free.Fl.NoNaN64 a := by
  obtain ⟨s, c, q, e⟩ := h.fin
  refine Jvm.Free.Fl.val64_no.mpr ?_
  rw [e]; nofun
theorem Dy.l2d {a : Int64} (h : a.toInt.natAbs < 2 ^ 53) : Dy a.toInt 0 (FP.l2d a) := by
  unfold Dy; rw [shf_zero]; exact l2d_int (Nat.le_of_lt h)
theorem Dy.i2d (a : Int32) : Dy a.toInt 0 (FP.i2d a) := by
  unfold Dy; rw [shf_zero]; exact i2d_int a
theorem Dy.add (ha : Dy i k a) (hb : Dy j k b) (h : (i + j).natAbs < 2 ^ 53) (h1 : -900 ≤ k) (h2 : k ≤ 1000) : Dy (i + j) k (FP.dadd a b) := by
  show Whole (i + j) (shf k (val64 (Core.dadd a b)))
  rw [val64_dadd]
  refine dy_round h h1 h2 ?_
  rw [shf_sum]; exact whole_sum ha hb
theorem Dy.sub (ha : Dy i k a) (hb : Dy j k b) (h : (i - j).natAbs < 2 ^ 53) (h1 : -900 ≤ k) (h2 : k ≤ 1000) : Dy (i - j) k (FP.dsub a b) := by
  show Whole (i - j) (shf k (val64 (Core.dsub a b)))
  rw [val64_dsub]
  refine dy_round h h1 h2 ?_
  rw [shf_sum, shf_neg]; exact whole_sum ha (whole_negate hb)
theorem Dy.mul (ha : Dy i k a) (hb : Dy j k' b) (h : (i * j).natAbs < 2 ^ 53) (h1 : -900 ≤ k + k') (h2 : k + k' ≤ 1000) : Dy (i * j) (k + k') (FP.dmul a b) := by
  show Whole (i * j) (shf (k + k') (val64 (Core.dmul a b)))
  rw [val64_dmul]
  refine dy_round h h1 h2 ?_
  rw [shf_prod]; exact whole_product ha hb
theorem Dy.cmp (ha : Dy i k a) (hb : Dy j k b) : FP.dcmp a b = some (compare i j) := by
  show order (val64 a) (val64 b) = _
  rw [← shf_order k]; exact order_whole ha hb
theorem Dy.up (ha : Dy i k a) (n : Nat) : Dy (i * ((2 ^ n : Nat) : Int)) (k + n) a := by
  obtain ⟨s, c, q, e⟩ := ha.fin
  unfold Dy at ha ⊢
  rw [e] at ha ⊢
  have h : signed s (c * 2 ^ (q + k).toNat) = i * ((2 ^ (-(q + k)).toNat : Nat) : Int) := ha
  show signed s (c * 2 ^ (q + (k + n)).toNat) = i * ((2 ^ n : Nat) : Int) * ((2 ^ (-(q + (k + n))).toNat : Nat) : Int)
  have p : ((2 ^ (-(q + k)).toNat : Nat) : Int) ≠ 0 := by have := Nat.two_pow_pos (-(q + k)).toNat; omega
  refine Int.eq_of_mul_eq_mul_right p ?_
  have hx : (q + (k + n)).toNat + (-(q + k)).toNat = (q + k).toNat + (n + (-(q + (k + n))).toNat) := by omega
  calc signed s (c * 2 ^ (q + (k + n)).toNat) * ((2 ^ (-(q + k)).toNat : Nat) : Int)
      = signed s (c * 2 ^ ((q + (k + n)).toNat + (-(q + k)).toNat)) := by rw [← signed_mul, Nat.pow_add, Nat.mul_assoc]
    _ = signed s (c * 2 ^ (q + k).toNat) * ((2 ^ (n + (-(q + (k + n))).toNat) : Nat) : Int) := by rw [hx, Nat.pow_add, ← Nat.mul_assoc, signed_mul]
    _ = i * ((2 ^ n : Nat) : Int) * ((2 ^ (-(q + (k + n))).toNat : Nat) : Int) * ((2 ^ (-(q + k)).toNat : Nat) : Int) := by rw [h, Nat.pow_add, Int.natCast_mul]; ac_rfl
/-- the quotient of two dyadic numbers, rounded -/
theorem Dy.quot (ha : Dy i k a) (hb : Dy j k' b) (hj : j ≠ 0) : ∃ s, (i ≠ 0 → s = (decide (i < 0) != decide (j < 0))) ∧ val64 (FP.ddiv a b) = roundRatio b64 s i.natAbs j.natAbs (k' - k) := by
  obtain ⟨s, c, q, e⟩ := ha.fin
  obtain ⟨t, d, r, e'⟩ := hb.fin
  unfold Dy at ha hb
  rw [e] at ha; rw [e'] at hb
  have wa : Whole i (.fin s c (q + k)) := ha
  have wb : Whole j (.fin t d (r + k')) := hb
  have hd : d ≠ 0 := fun h0 => hj ((whole_zero wb).mp h0)
  refine ⟨s != t, fun hi => by rw [whole_sign wa hi, whole_sign wb hj], ?_⟩
  show val64 (Core.ddiv a b) = _
  rw [val64_ddiv, e, e']
  simp only [quotient, if_neg hd]
  refine roundRatio_congr (by omega) (by omega) ?_
  have na := whole_natAbs wa
  have nb := whole_natAbs wb
  have p : 0 < 2 ^ (r + k').toNat * 2 ^ (-(q + k)).toNat := Nat.mul_pos (Nat.two_pow_pos _) (Nat.two_pow_pos _)
  refine Nat.eq_of_mul_eq_mul_right (Nat.mul_pos (Nat.two_pow_pos (q + k).toNat) (Nat.two_pow_pos (-(r + k')).toNat)) ?_
  have hx : (q - r - (k' - k)).toNat + (-(q + k)).toNat + (r + k').toNat = (k' - k - (q - r)).toNat + ((q + k).toNat + (-(r + k')).toNat) := by omega
  calc c * j.natAbs * 2 ^ (q - r - (k' - k)).toNat * (2 ^ (q + k).toNat * 2 ^ (-(r + k')).toNat)
      = (c * 2 ^ (q + k).toNat) * (j.natAbs * 2 ^ (-(r + k')).toNat) * 2 ^ (q - r - (k' - k)).toNat := by ac_rfl
    _ = (i.natAbs * 2 ^ (-(q + k)).toNat) * (d * 2 ^ (r + k').toNat) * 2 ^ (q - r - (k' - k)).toNat := by rw [na, nb]
    _ = i.natAbs * d * 2 ^ ((q - r - (k' - k)).toNat + (-(q + k)).toNat + (r + k').toNat) := by rw [Nat.pow_add, Nat.pow_add]; ac_rfl
    _ = i.natAbs * d * 2 ^ (k' - k - (q - r)).toNat * (2 ^ (q + k).toNat * 2 ^ (-(r + k')).toNat) := by rw [hx, Nat.pow_add, Nat.pow_add]; ac_rfl
theorem Dy.div (ha : Dy (i * j) k a) (hb : Dy j k' b) (hj : j ≠ 0) (h : i.natAbs < 2 ^ 53) (h1 : -900 ≤ k - k') (h2 : k - k' ≤ 1000) : Dy i (k - k') (FP.ddiv a b) := by
  obtain ⟨s, hs, e⟩ := ha.quot hb hj
  unfold Dy
  rw [e]
  have e2 : roundRatio b64 s (i * j).natAbs j.natAbs (k' - k) = round b64 (.fin s i.natAbs (-(k - k'))) := by
    refine roundRatio_congr (by omega) (by decide) ?_
    rw [show k' - k - -(k - k') = 0 by omega, show -(k - k') - (k' - k) = 0 by omega, Int.natAbs_mul]
    simp
  rw [e2]
  have := whole_exact (s := s) (n := i.natAbs) (k := k - k') h h1 h2
  rw [signed_abs (fun hn => ?_)] at this
  · exact this
  · rw [hs (Int.mul_ne_zero hn hj)]
    rcases Int.lt_or_gt_of_ne hn with p | p <;> rcases Int.lt_or_gt_of_ne hj with q | q
    · have := Int.mul_pos_of_neg_of_neg p q
      simp [p, q, show ¬ i * j < 0 by omega]
    · have := Int.mul_neg_of_neg_of_pos p q
      simp [p, this, show ¬ j < 0 by omega]
    · have := Int.mul_neg_of_pos_of_neg p q
      simp [q, this, show ¬ i < 0 by omega]
    · have := Int.mul_pos p q
      simp [show ¬ i * j < 0 by omega, show ¬ j < 0 by omega, show ¬ i < 0 by omega]
end Dys
end Jvm.OwnKit
namespace Jvm.OwnKit
open Jvm.FP Jvm.FP.Core
section More
variable {i j k k' : Int} {a b : UInt64}
theorem Dy.cast (ha : Dy i k a) (h1 : i = j) (h2 : k = k') : Dy j k' a := by subst h1 h2; exact ha
theorem Dy.divp (ha : Dy i k a) (n : Nat) (hb : Dy ((2 ^ n : Nat) : Int) 0 b) (h : i.natAbs < 2 ^ 53) (h1 : -900 ≤ k + n) (h2 : k + n ≤ 1000) : Dy i (k + n) (FP.ddiv a b) := by
  have p := Nat.two_pow_pos n
  have := Dy.div (k := k + n) (k' := 0) (ha.up n) hb (by omega) h (by omega) (by omega)
  exact this.cast rfl (by omega)
theorem Dy.lit {a : UInt64} {s : Bool} {c : Nat} {q : Int} (e : val64 a = .fin s c q) (h : signed s (c * 2 ^ (q + k).toNat) = i * ((2 ^ (-(q + k)).toNat : Nat) : Int)) : Dy i k a := by
  unfold Dy; rw [e]; exact h
/-- a quotient of middling numbers and its 2^n-th part -/
theorem round_part {s : Bool} {A B n : Nat} (hA : 0 < A) (hB : 0 < B) (lA : A < 2 ^ 100) (lB : B < 2 ^ 100) (hn : n ≤ 100) : ∃ c q, roundRatio b64 s A B 0 = .fin s c q ∧ roundRatio b64 s A B (-(n : Int)) = .fin s c (q - n) := by
  have q1 : b64.qmin = -1074 := by decide
  have q2 : b64.qmax = 971 := by decide
  have hp : (b64.p : Int) - 1 = 52 := by decide
  have a1 : A.log2 < 100 := (Nat.log2_lt (by omega)).mpr lA
  have b1 : B.log2 < 100 := (Nat.log2_lt (by omega)).mpr lB
  have hl : -101 ≤ leading A B ∧ leading A B ≤ 100 := by
    unfold leading; dsimp only; split <;> omega
  have e1 : quantum b64 A B 0 = leading A B - 52 := by unfold quantum; rw [q1, hp]; omega
  have e2 : quantum b64 A B (-(n : Int)) = leading A B - 52 - n := by unfold quantum; rw [q1, hp]; omega
  have z : ¬ A = 0 := by omega
  unfold roundRatio
  rw [if_neg z, if_neg z, e1, e2]
  generalize leading A B = L at hl
  have u1 : unitsNum A (-(n : Int)) (L - 52 - n) = unitsNum A 0 (L - 52) := by unfold unitsNum; congr 2; omega
  have u2 : unitsDen B (-(n : Int)) (L - 52 - n) = unitsDen B 0 (L - 52) := by unfold unitsDen; congr 2; omega
  unfold roundAt
  rw [u1, u2]
  generalize nearest _ _ = c
  unfold settle bound
  by_cases hc : c < 2 ^ b64.p
  · rw [if_pos hc, if_pos hc, if_pos (by omega), if_pos (by omega)]
    exact ⟨_, _, rfl, rfl⟩
  · rw [if_neg hc, if_neg hc, if_pos (by omega), if_pos (by omega)]
    exact ⟨_, _, rfl, by congr 1; omega⟩
/-- (x / y) / 2^n where x / y is rounded once: the same as the rounding of x / (y * 2^n) -/
theorem div_part {x y w : UInt64} {A B : Int} {n : Nat} {got : UInt64} (hx : Dy A 0 x) (hy : Dy B 0 y) (hw : Dy ((2 ^ n : Nat) : Int) 0 w) (hA : 0 < A) (hB : 0 < B) (lA : A < 2 ^ 100) (lB : B < 2 ^ 100) (hn : n ≤ 100)
    {s0 : Bool} (hs : s0 = false) (hg : val64 got = roundRatio b64 s0 A.natAbs B.natAbs (-(n : Int))) : got = FP.ddiv (FP.ddiv x y) w ∧ val64 (FP.ddiv x y) ≠ .nan ∧ val64 got ≠ .nan := by
  subst hs
  obtain ⟨s, h1, h2⟩ := hx.quot hy (by omega)
  have hs : s = false := by rw [h1 (by omega)]; simp [show ¬ A < 0 by omega, show ¬ B < 0 by omega]
  subst hs
  obtain ⟨c, q, e1, e2⟩ := round_part (s := false) (A := A.natAbs) (B := B.natAbs) (n := n) (by omega) (by omega) (by omega) (by omega) hn
  have hf : Core.fits b64 (.fin false c (q - n)) := by rw [← e2]; exact roundRatio_fits good_b64 _ _ (by omega) _
  rw [show (0 : Int) - 0 = 0 by omega, e1] at h2
  rw [e2] at hg
  obtain ⟨t, d, r, ew⟩ := hw.fin
  have ww : Whole ((2 ^ n : Nat) : Int) (.fin t d (r + 0)) := by unfold Dy at hw; rw [ew] at hw; exact hw
  have p := Nat.two_pow_pos n
  have pz : ((2 ^ n : Nat) : Int) ≠ 0 := Int.natCast_ne_zero.mpr (Nat.ne_of_gt p)
  have ht : t = false := by rw [whole_sign ww pz]; exact decide_eq_false (Int.not_lt.mpr (Int.natCast_nonneg (2 ^ n)))
  subst ht
  have hd : d ≠ 0 := fun h0 => pz ((whole_zero ww).mp h0)
  have nw := whole_natAbs ww
  have hq : val64 (FP.ddiv (FP.ddiv x y) w) = .fin false c (q - n) := by
    show val64 (Core.ddiv _ _) = _
    rw [val64_ddiv, h2, ew]
    simp only [quotient, if_neg hd]
    refine roundRatio_exact good_b64 (by omega) hf ?_
    rw [show q - r - (q - n) = n - r by omega, show q - n - (q - r) = r - n by omega]
    rw [Int.natAbs_natCast, Int.add_zero] at nw
    refine Nat.eq_of_mul_eq_mul_right (Nat.two_pow_pos r.toNat) ?_
    have hx : (n - r : Int).toNat + r.toNat = (r - n : Int).toNat + (n + (-r).toNat) := by omega
    calc c * 2 ^ (n - r : Int).toNat * 2 ^ r.toNat = c * 2 ^ ((n - r : Int).toNat + r.toNat) := by rw [Nat.pow_add, Nat.mul_assoc]
      _ = c * 2 ^ (r - n : Int).toNat * (2 ^ n * 2 ^ (-r).toNat) := by rw [hx, Nat.pow_add, Nat.pow_add, Nat.mul_assoc]
      _ = c * d * 2 ^ (r - n : Int).toNat * 2 ^ r.toNat := by rw [← nw]; ac_rfl
  refine ⟨val64_inj (by rw [hg]; nofun) (by rw [hg, hq]), by rw [h2]; nofun, by rw [hg]; nofun⟩
end More
end Jvm.OwnKit
namespace Jvm.OwnKit
open Jvm.FP Jvm.FP.Core
section Pow
variable {i j k k' : Int} {a b : UInt64}
theorem whole_up {d : Datum} {n : Nat} : Whole i (shf k d) ↔ Whole (i * ((2 ^ n : Nat) : Int)) (shf (k + n) d) := by
  cases d with
  | nan => exact Iff.rfl
  | inf => exact Iff.rfl
  | fin s c q =>
    show signed s (c * 2 ^ (q + k).toNat) = i * ((2 ^ (-(q + k)).toNat : Nat) : Int) ↔ signed s (c * 2 ^ (q + (k + n)).toNat) = i * ((2 ^ n : Nat) : Int) * ((2 ^ (-(q + (k + n))).toNat : Nat) : Int)
    have p : ((2 ^ (-(q + k)).toNat : Nat) : Int) ≠ 0 := by have := Nat.two_pow_pos (-(q + k)).toNat; omega
    have p2 : ((2 ^ (n + (-(q + (k + n))).toNat) : Nat) : Int) ≠ 0 := by have := Nat.two_pow_pos (n + (-(q + (k + n))).toNat); omega
    have hx : (q + (k + n)).toNat + (-(q + k)).toNat = (q + k).toNat + (n + (-(q + (k + n))).toNat) := by omega
    have e1 : signed s (c * 2 ^ (q + (k + n)).toNat) * ((2 ^ (-(q + k)).toNat : Nat) : Int) = signed s (c * 2 ^ (q + k).toNat) * ((2 ^ (n + (-(q + (k + n))).toNat) : Nat) : Int) := by
      rw [← signed_mul, ← signed_mul, Nat.mul_assoc, ← Nat.pow_add, Nat.mul_assoc, ← Nat.pow_add, hx]
    have e2 : i * ((2 ^ n : Nat) : Int) * ((2 ^ (-(q + (k + n))).toNat : Nat) : Int) * ((2 ^ (-(q + k)).toNat : Nat) : Int) = i * ((2 ^ (-(q + k)).toNat : Nat) : Int) * ((2 ^ (n + (-(q + (k + n))).toNat) : Nat) : Int) := by
      rw [Nat.pow_add, Int.natCast_mul]; ac_rfl
    constructor
    · intro h
      refine Int.eq_of_mul_eq_mul_right p ?_
      rw [e1, e2, h]
    · intro h
      refine Int.eq_of_mul_eq_mul_right p2 ?_
      rw [← e1, ← e2, h]
theorem Dy.down {n : Nat} (ha : Dy (i * ((2 ^ n : Nat) : Int)) (k + n) a) : Dy i k a := whole_up.mpr ha
/-- times a power of two -/
theorem Dy.mulp (ha : Dy i k a) (n : Nat) (hb : Dy ((2 ^ n : Nat) : Int) 0 b) (h : i.natAbs < 2 ^ 53) (h1 : -900 ≤ k - n) (h2 : k - n ≤ 1000) : Dy i (k - n) (FP.dmul a b) := by
  show Whole i (shf (k - n) (val64 (Core.dmul a b)))
  rw [val64_dmul]
  refine dy_round h h1 h2 ?_
  rw [whole_up (n := n), show k - n + n = k + 0 by omega, shf_prod]
  exact whole_product ha hb
end Pow
end Jvm.OwnKit
namespace Jvm.OwnKit
open Jvm.FP Jvm.FP.Core
/-! ## longs and doubles with their worth and a bound on it -/
def Iv (x : Int64) (v : Int) (B : Nat) : Prop := x.toInt = v ∧ v.natAbs ≤ B
def Db (i k : Int) (B : Nat) (a : UInt64) : Prop := Dy i k a ∧ i.natAbs ≤ B
theorem mulB {x y : Int} {X Y : Nat} (hx : x.natAbs ≤ X) (hy : y.natAbs ≤ Y) : (x * y).natAbs ≤ X * Y := by rw [Int.natAbs_mul]; exact Nat.mul_le_mul hx hy
section Ivs
variable {x y : Int64} {v w : Int} {B C : Nat}
theorem Iv.mul (hx : Iv x v B) (hy : Iv y w C) (h : B * C < 2 ^ 63) : Iv (x * y) (v * w) (B * C) := by
  have m := mulB hx.2 hy.2
  obtain ⟨rfl, -⟩ := hx; obtain ⟨rfl, -⟩ := hy
  exact ⟨int64_mul (by omega) (by omega), m⟩
theorem Iv.add (hx : Iv x v B) (hy : Iv y w C) (h : B + C < 2 ^ 63) : Iv (x + y) (v + w) (B + C) := by
  obtain ⟨rfl, p⟩ := hx; obtain ⟨rfl, q⟩ := hy
  exact ⟨int64_add (by omega) (by omega), by omega⟩
theorem Iv.sub (hx : Iv x v B) (hy : Iv y w C) (h : B + C < 2 ^ 63) : Iv (x - y) (v - w) (B + C) := by
  obtain ⟨rfl, p⟩ := hx; obtain ⟨rfl, q⟩ := hy
  exact ⟨int64_sub (by omega) (by omega), by omega⟩
theorem Iv.eq (hx : Iv x v B) (e : x = y) : Iv y v B := e ▸ hx
theorem Iv.le (hx : Iv x v B) (h : B ≤ C) : Iv x v C := ⟨hx.1, Nat.le_trans hx.2 h⟩
theorem Iv.val (hx : Iv x v B) (e : v = w) : Iv x w B := e ▸ hx
theorem Iv.db (hx : Iv x v B) (h : B < 2 ^ 53) : Db v 0 B (FP.l2d x) := by
  obtain ⟨rfl, p⟩ := hx; exact ⟨Dy.l2d (by omega), p⟩
theorem Iv.lit (n : Int) (h : x.toInt = n) (hb : n.natAbs ≤ B) : Iv x n B := ⟨h, hb⟩
theorem Iv.i2l {z : Int32} (h : z.toInt = v) (hb : v.natAbs ≤ B) : Iv z.toInt64 v B := ⟨by rw [Int32.toInt_toInt64]; exact h, hb⟩
end Ivs
section Dbs
variable {i j k k' k2 : Int} {A B : Nat} {a b : UInt64}
theorem Db.nn (h : Db i k A a) : Jvm.Free.Fl.NoNaN64 a := h.1.nn
theorem Db.add (ha : Db i k A a) (hb : Db j k B b) (h : A + B < 2 ^ 53 ∧ -900 ≤ k ∧ k ≤ 1000) : Db (i + j) k (A + B) (FP.dadd a b) :=
  ⟨ha.1.add hb.1 (by have := ha.2; have := hb.2; omega) h.2.1 h.2.2, by have := ha.2; have := hb.2; omega⟩
theorem Db.sub (ha : Db i k A a) (hb : Db j k B b) (h : A + B < 2 ^ 53 ∧ -900 ≤ k ∧ k ≤ 1000) : Db (i - j) k (A + B) (FP.dsub a b) :=
  ⟨ha.1.sub hb.1 (by have := ha.2; have := hb.2; omega) h.2.1 h.2.2, by have := ha.2; have := hb.2; omega⟩
theorem Db.mul (ha : Db i k A a) (hb : Db j k' B b) (hk : k + k' = k2) (h : A * B < 2 ^ 53 ∧ -900 ≤ k2 ∧ k2 ≤ 1000) : Db (i * j) k2 (A * B) (FP.dmul a b) := by
  subst hk
  have m := mulB ha.2 hb.2
  exact ⟨ha.1.mul hb.1 (by omega) h.2.1 h.2.2, m⟩
theorem Db.up (ha : Db i k A a) (n : Nat) (hk : k + n = k2) {c : Int} (hc : ((2 ^ n : Nat) : Int) = c) {C : Nat} (hC : A * 2 ^ n = C) : Db (i * c) k2 C a := by
  subst hk hc hC
  exact ⟨ha.1.up n, by rw [Int.natAbs_mul, Int.natAbs_natCast]; exact Nat.mul_le_mul_right _ ha.2⟩
theorem Db.divp (ha : Db i k A a) (n : Nat) (hb : Dy ((2 ^ n : Nat) : Int) 0 b) (hk : k + n = k2) (h : A < 2 ^ 53 ∧ -900 ≤ k2 ∧ k2 ≤ 1000) : Db i k2 A (FP.ddiv a b) := by
  subst hk
  exact ⟨ha.1.divp n hb (by have := ha.2; omega) h.2.1 h.2.2, ha.2⟩
theorem Db.mulp (ha : Db i k A a) (n : Nat) (hb : Dy ((2 ^ n : Nat) : Int) 0 b) (hk : k - n = k2) (h : A < 2 ^ 53 ∧ -900 ≤ k2 ∧ k2 ≤ 1000) : Db i k2 A (FP.dmul a b) := by
  subst hk
  exact ⟨ha.1.mulp n hb (by have := ha.2; omega) h.2.1 h.2.2, ha.2⟩
theorem Db.eq (ha : Db i k A a) (e : a = b) : Db i k A b := e ▸ ha
theorem Db.val (ha : Db i k A a) (e : i = j) : Db j k A a := e ▸ ha
theorem Db.le (ha : Db i k A a) (h : A ≤ B) : Db i k B a := ⟨ha.1, Nat.le_trans ha.2 h⟩
theorem Db.lit {s : Bool} {c : Nat} {q : Int} (e : val64 a = .fin s c q) (h : signed s (c * 2 ^ (q + k).toNat) = i * ((2 ^ (-(q + k)).toNat : Nat) : Int)) (hb : i.natAbs ≤ A) : Db i k A a := ⟨Dy.lit e h, hb⟩
theorem Db.i2d {z : Int32} (h : z.toInt = i) (hb : i.natAbs ≤ A) : Db i 0 A (FP.i2d z) := by subst h; exact ⟨Dy.i2d z, hb⟩
theorem Db.cmp (ha : Db i k A a) (hb : Db j k B b) (e : i = j) : FP.dcmp a b = some .eq := by rw [ha.1.cmp hb.1, e, compare_self_int]
theorem Db.cmpV (ha : Db i k A a) (hb : Db j k B b) (e : i = j) (o : Jvm.ClassFile.CmpOp) : Jvm.Op.cmpValue (FP.dcmp a b) o = 0 := by rw [ha.cmp hb e]; rfl
end Dbs
end Jvm.OwnKit
namespace Jvm.OwnKit
theorem and64 (x m : Int64) (hm : 0 ≤ m.toInt) : 0 ≤ (x &&& m).toInt ∧ (x &&& m).toInt ≤ m.toInt := by
  have h : (x &&& m).toBitVec.toNat ≤ m.toBitVec.toNat := by rw [Int64.toBitVec_and, BitVec.toNat_and]; exact Nat.and_le_right
  have e : ∀ y : Int64, y.toInt = y.toBitVec.toInt := fun _ => rfl
  rw [e] at hm ⊢
  rw [e m]
  rw [BitVec.toInt_eq_toNat_cond] at hm ⊢
  rw [BitVec.toInt_eq_toNat_cond]
  have l1 := m.toBitVec.isLt
  have l2 := (x &&& m).toBitVec.isLt
  split at hm <;> split <;> omega
theorem and32 (x m : Int32) (hm : 0 ≤ m.toInt) : 0 ≤ (x &&& m).toInt ∧ (x &&& m).toInt ≤ m.toInt := by
  have h : (x &&& m).toBitVec.toNat ≤ m.toBitVec.toNat := by rw [Int32.toBitVec_and, BitVec.toNat_and]; exact Nat.and_le_right
  have e : ∀ y : Int32, y.toInt = y.toBitVec.toInt := fun _ => rfl
  rw [e] at hm ⊢
  rw [e m]
  rw [BitVec.toInt_eq_toNat_cond] at hm ⊢
  rw [BitVec.toInt_eq_toNat_cond]
  have l1 := m.toBitVec.isLt
  have l2 := (x &&& m).toBitVec.isLt
  split at hm <;> split <;> omega
end Jvm.OwnKit
namespace Jvm.Pilot.@@N@@
open Jvm Jvm.ClassFile Sem Op Lib Jvm.Free Jvm.Stand Jvm.LawKit Jvm.RoadKit Jvm.OwnKit Bundle Jvm.Pilot.@@N@@.Jvm.D

def own_sg (d : Int32) : Int32 := ((d >>> ((31 : Int32) &&& 31)) ||| (((-d).toUInt32 >>> ((31 : Int32) &&& 31).toUInt32).toInt32))
theorem own_sg4 {d : Int32} (h : d = -1 ∨ d = 0 ∨ d = 1 ∨ d = 2) : (own_sg d = -1 ∨ own_sg d = 0 ∨ own_sg d = 1) ∧ ((0 : Int32) < own_sg d ↔ (0 : Int32) < d) := by
  rcases h with rfl | rfl | rfl | rfl <;> decide +kernel
theorem own_pos {d : Int32} (h : d = -1 ∨ d = 0 ∨ d = 1) (h1 : ¬ d = (0 : Int32)) (h2 : ¬ d < (0 : Int32)) : d = 1 := by
  rcases h with rfl | rfl | rfl
  · exact absurd (by decide) h2
  · exact absurd rfl h1
  · rfl
theorem own_neg {d : Int32} (h : d < (0 : Int32)) : ¬ (0 : Int32) < d := by rw [Int32.lt_iff_toInt_lt] at h ⊢; omega
theorem own_one : FP.i2d (1 : Int32) = (4607182418800017408 : UInt64) := by decide +kernel
theorem own_mul1 {t : Int64} {d : Int32} (h : d = 1) : FP.dmul (FP.i2d d) (FP.l2d t) = FP.l2d t := by
  rw [h, own_one]; exact FP.Core.one_dmul (FP.Core.l2d_notNaN t)
theorem own_b53 {t : Int64} (h : 0 ≤ t.toInt ∧ t.toInt ≤ 255) : B53 t := ⟨by omega, by omega⟩
theorem own_b0 : B53 (0 : Int64) := ⟨by decide, by decide⟩
theorem own_add0 {t : Int64} (h : 0 ≤ t.toInt ∧ t.toInt ≤ 255) : FP.dadd (0 : UInt64) (FP.l2d t) = FP.l2d t := by
  have := dadd_w own_b0 (own_b53 h)
  rw [l2d_zero, Int64.zero_add] at this; exact this
theorem own_max0 {t : Int64} (h : 0 ≤ t.toInt ∧ t.toInt ≤ 255) : Native.java_lang_Math.nans.pick64 true FP.dconst0 (FP.l2d t) = FP.l2d t := by
  have e : FP.dconst0 = FP.l2d 0 := l2d_zero.symm
  rw [e]
  by_cases q : (0 : Int64) < t
  · exact max_l own_b0 (own_b53 h) q
  · rw [max_g own_b0 (own_b53 h) q]
    have : t = 0 := by
      apply Int64.toInt_inj.mp
      rw [Int64.lt_iff_toInt_lt] at q
      have z : (0 : Int64).toInt = 0 := rfl
      rw [z] at q ⊢; omega
    rw [this]
theorem own_st256 : ∀ i : Fin 256, FP.dmul (4598175219545276416 : UInt64) (FP.dmul (4616189618054758400 : UInt64) (FP.i2d (Int32.ofNat i.1))) = FP.l2d (Int64.ofNat i.1) := by decide +kernel
theorem own_st {s : Int32} (h1 : 0 ≤ s.toInt) (h2 : s.toInt ≤ 255) : FP.dmul (4598175219545276416 : UInt64) (FP.dmul (4616189618054758400 : UInt64) (FP.i2d s)) = FP.l2d s.toInt64 := by
  have e1 : s = Int32.ofNat s.toInt.toNat := by
    apply Int32.toInt_inj.mp
    rw [Int32.toInt_ofNat_of_lt (by omega)]; omega
  have e2 : s.toInt64 = Int64.ofNat s.toInt.toNat := by
    apply Int64.toInt_inj.mp
    rw [Int32.toInt_toInt64, Int64.toInt_ofNat_of_lt (by omega)]; omega
  have := own_st256 ⟨s.toInt.toNat, by omega⟩
  rw [e2]
  conv => lhs; rw [e1]
  exact this

theorem own_y0 {pm : Int32} {mx q t : Int64} {y : UInt64} (h : y = (if pm = (0 : Int32) then (0 : UInt64) else (if mx < q then (if (0 : Int32) < (1 : Int32) then (FP.l2d t) else (0 : UInt64)) else (if q < mx then (if (0 : Int32) < (-1 : Int32) then (FP.l2d t) else (0 : UInt64)) else (if (0 : Int32) < (0 : Int32) then (FP.l2d t) else (0 : UInt64)))))) : y = (if pm = (0 : Int32) then (0 : UInt64) else (if mx < q then (FP.l2d t) else (0 : UInt64))) := by
  rw [h, if_pos (show (0 : Int32) < (1 : Int32) by decide), if_neg (show ¬ (0 : Int32) < (-1 : Int32) by decide), if_neg (show ¬ (0 : Int32) < (0 : Int32) by decide)]
  by_cases a : mx < q <;> by_cases b : q < mx <;> by_cases z : pm = (0 : Int32) <;> simp [a, b, z]
theorem own_y1 {pm : Int32} {mi q t : Int64} {y : UInt64} (h : y = (if pm = (0 : Int32) then (0 : UInt64) else (if q < mi then (if (0 : Int32) < (1 : Int32) then (FP.l2d t) else (0 : UInt64)) else (if mi < q then (if (0 : Int32) < (-1 : Int32) then (FP.l2d t) else (0 : UInt64)) else (if (0 : Int32) < (0 : Int32) then (FP.l2d t) else (0 : UInt64)))))) : y = (if pm = (0 : Int32) then (0 : UInt64) else (if q < mi then (FP.l2d t) else (0 : UInt64))) := by
  rw [h, if_pos (show (0 : Int32) < (1 : Int32) by decide), if_neg (show ¬ (0 : Int32) < (-1 : Int32) by decide), if_neg (show ¬ (0 : Int32) < (0 : Int32) by decide)]
  by_cases a : q < mi <;> by_cases b : mi < q <;> by_cases z : pm = (0 : Int32) <;> simp [a, b, z]

theorem own_and3 (x : Int32) : x &&& (3 : Int32) = 0 ∨ x &&& (3 : Int32) = 1 ∨ x &&& (3 : Int32) = 2 ∨ x &&& (3 : Int32) = 3 := by
  have h := and32 x (3 : Int32) (by decide)
  rw [show (3 : Int32).toInt = 3 from rfl] at h
  rcases (show (x &&& (3 : Int32)).toInt = 0 ∨ (x &&& (3 : Int32)).toInt = 1 ∨ (x &&& (3 : Int32)).toInt = 2 ∨ (x &&& (3 : Int32)).toInt = 3 by omega) with q | q | q | q
  · exact Or.inl (Int32.toInt_inj.mp (by rw [q]; rfl))
  · exact Or.inr (Or.inl (Int32.toInt_inj.mp (by rw [q]; rfl)))
  · exact Or.inr (Or.inr (Or.inl (Int32.toInt_inj.mp (by rw [q]; rfl))))
  · exact Or.inr (Or.inr (Or.inr (Int32.toInt_inj.mp (by rw [q]; rfl))))
theorem own_d4 {x d : Int32} (e : (x &&& (3 : Int32)) - (1 : Int32) = d) : d = -1 ∨ d = 0 ∨ d = 1 ∨ d = 2 := by
  subst e
  rcases own_and3 x with q | q | q | q <;> rw [q] <;> decide
theorem own_side {m d : Int32} (h : d = -1 ∨ d = 0 ∨ d = 1 ∨ d = 2) : (own_sg (m + d - m) = -1 ∨ own_sg (m + d - m) = 0 ∨ own_sg (m + d - m) = 1) ∧ ((0 : Int32) < own_sg (m + d - m) ↔ (0 : Int32) < d) := by
  rw [show m + d - m = d by rw [Int32.add_comm]; exact Int32.add_sub_cancel d m]; exact own_sg4 h
theorem own_scale {x v : Int32} (e : (1 : Int32) <<< ((x &&& (3 : Int32)) &&& 31) = v) : ∃ n : Nat, n ≤ 3 ∧ Dy ((2 ^ n : Nat) : Int) 0 (FP.i2d v) := by
  subst e
  rcases own_and3 x with q | q | q | q <;> rw [q]
  · exact ⟨0, by decide, (Dy.i2d ((1 : Int32) <<< ((0 : Int32) &&& 31))).cast (by decide) rfl⟩
  · exact ⟨1, by decide, (Dy.i2d ((1 : Int32) <<< ((1 : Int32) &&& 31))).cast (by decide) rfl⟩
  · exact ⟨2, by decide, (Dy.i2d ((1 : Int32) <<< ((2 : Int32) &&& 31))).cast (by decide) rfl⟩
  · exact ⟨3, by decide, (Dy.i2d ((1 : Int32) <<< ((3 : Int32) &&& 31))).cast (by decide) rfl⟩
theorem own_sar44 {y v : Int64} (h : y >>> ((44 : Int32) &&& 0x3f).toInt64 = v) : v.toInt.natAbs ≤ 524288 := by
  have e : (y >>> ((44 : Int32) &&& 0x3f).toInt64).toInt = y.toInt / 2 ^ 44 := by
    show (y >>> ((44 : Int32) &&& 0x3f).toInt64).toBitVec.toInt = _
    rw [Int64.toBitVec_shiftRight]
    rw [show ((44 : Int32) &&& 0x3f).toInt64.toBitVec.smod 64 = 44#64 by decide]
    rw [BitVec.sshiftRight_eq', BitVec.toInt_sshiftRight, Int.shiftRight_eq_div_pow]
    rfl
  have h1 := Int64.toInt_lt y
  have h2 := Int64.le_toInt y
  rw [← h, e]; omega
theorem own_sar1 {y v : Int32} (h : y >>> ((1 : Int32) &&& 31) = v) : v.toInt.natAbs ≤ 1073741824 := by
  have e : (y >>> ((1 : Int32) &&& 31)).toInt = y.toInt / 2 := by
    show (y >>> ((1 : Int32) &&& 31)).toBitVec.toInt = _
    rw [Int32.toBitVec_shiftRight]
    rw [show ((1 : Int32) &&& 31).toBitVec.smod 32 = 1#32 by decide]
    rw [BitVec.sshiftRight_eq', BitVec.toInt_sshiftRight, Int.shiftRight_eq_div_pow]
    rfl
  have h1 := Int32.toInt_lt y
  have h2 := Int32.le_toInt y
  rw [← h, e]; omega
theorem own_z : Db 0 0 255 (0 : UInt64) := Db.lit (show FP.Core.val64 (0 : UInt64) = .fin false 0 (-1074) by decide +kernel) (by rw [Nat.zero_mul, Int.zero_mul]; rfl) (by decide)
theorem own_yd {c : Prop} [Decidable c] {t : Int64} {y : UInt64} (ht : 0 ≤ t.toInt ∧ t.toInt ≤ 255) (h : y = if c then FP.l2d t else (0 : UInt64)) : Db (if c then t.toInt else 0) 0 255 y := by
  by_cases q : c
  · rw [if_pos q] at h ⊢; rw [h]; exact ⟨Dy.l2d (by omega), by omega⟩
  · rw [if_neg q] at h ⊢; rw [h]; exact own_z
theorem own_yd2 {p c : Prop} [Decidable p] [Decidable c] {t : Int64} {y : UInt64} (ht : 0 ≤ t.toInt ∧ t.toInt ≤ 255) (h : y = if p then (0 : UInt64) else if c then FP.l2d t else (0 : UInt64)) : Db (if p then 0 else if c then t.toInt else 0) 0 255 y := by
  by_cases q : p
  · rw [if_pos q] at h ⊢; rw [h]; exact own_z
  · rw [if_neg q] at h ⊢; exact own_yd ht h
/-- what the law reckons in longs, and what the method reckons in doubles -/
theorem own_nn {mx mi : Int64} {mw l0 l1 : Int32} {sc y0 y1 y2 y3 y4 : UInt64} {n : Nat} {Y0 Y1 Y2 Y3 Y4 : Int} (hn : n ≤ 3) (hsc : Dy ((2 ^ n : Nat) : Int) 0 sc) (bx : mx.toInt.natAbs ≤ 524288) (bi : mi.toInt.natAbs ≤ 524288) (bw : mw.toInt.natAbs ≤ 1073741824) (b0 : l0.toInt.natAbs ≤ 1073741824) (b1 : l1.toInt.natAbs ≤ 1073741824)
    (D0 : Db Y0 0 255 y0) (D1 : Db Y1 0 255 y1) (D2 : Db Y2 0 255 y2) (D3 : Db Y3 0 255 y3) (D4 : Db Y4 0 255 y4) :
    Fl.NoNaN64 (FP.dmul y0 (FP.l2d mx)) ∧ Fl.NoNaN64 (FP.ddiv (FP.dmul y0 (FP.l2d mx)) sc) ∧ Fl.NoNaN64 (FP.dmul y1 (FP.l2d mi)) ∧ Fl.NoNaN64 (FP.ddiv (FP.dmul y1 (FP.l2d mi)) sc) ∧ Fl.NoNaN64 (FP.dsub (FP.ddiv (FP.dmul y0 (FP.l2d mx)) sc) (FP.ddiv (FP.dmul y1 (FP.l2d mi)) sc)) ∧ Fl.NoNaN64 (FP.dmul y2 (FP.i2d mw)) ∧ Fl.NoNaN64 (FP.dadd (FP.dsub (FP.ddiv (FP.dmul y0 (FP.l2d mx)) sc) (FP.ddiv (FP.dmul y1 (FP.l2d mi)) sc)) (FP.dmul y2 (FP.i2d mw))) ∧ Fl.NoNaN64 (FP.dmul y3 (FP.i2d l0)) ∧ Fl.NoNaN64 (FP.dadd (FP.dadd (FP.dsub (FP.ddiv (FP.dmul y0 (FP.l2d mx)) sc) (FP.ddiv (FP.dmul y1 (FP.l2d mi)) sc)) (FP.dmul y2 (FP.i2d mw))) (FP.dmul y3 (FP.i2d l0))) ∧ Fl.NoNaN64 (FP.dmul y4 (FP.i2d l1)) ∧ Fl.NoNaN64 (FP.dadd (FP.dadd (FP.dadd (FP.dsub (FP.ddiv (FP.dmul y0 (FP.l2d mx)) sc) (FP.ddiv (FP.dmul y1 (FP.l2d mi)) sc)) (FP.dmul y2 (FP.i2d mw))) (FP.dmul y3 (FP.i2d l0))) (FP.dmul y4 (FP.i2d l1))) := by
  have p8 : 2 ^ n ≤ 8 := Nat.pow_le_pow_right (n := 2) (j := 3) (by decide) hn
  have g1 := D0.mul (Iv.db (x := mx) ⟨rfl, bx⟩ (by decide)) (k2 := 0) (by decide) (by decide)
  have g2 := g1.divp n hsc (k2 := n) (by omega) ⟨by decide, by omega, by omega⟩
  have g3 := D1.mul (Iv.db (x := mi) ⟨rfl, bi⟩ (by decide)) (k2 := 0) (by decide) (by decide)
  have g4 := g3.divp n hsc (k2 := n) (by omega) ⟨by decide, by omega, by omega⟩
  have g5 := g2.sub g4 ⟨by decide, by omega, by omega⟩
  have g6 := D2.mul (Db.i2d (z := mw) rfl bw) (k2 := 0) (by decide) (by decide)
  have g7 := D3.mul (Db.i2d (z := l0) rfl b0) (k2 := 0) (by decide) (by decide)
  have g8 := D4.mul (Db.i2d (z := l1) rfl b1) (k2 := 0) (by decide) (by decide)
  have u6 := (g6.up n (k2 := n) (by omega) rfl rfl).le (Nat.mul_le_mul_left _ p8)
  have u7 := (g7.up n (k2 := n) (by omega) rfl rfl).le (Nat.mul_le_mul_left _ p8)
  have u8 := (g8.up n (k2 := n) (by omega) rfl rfl).le (Nat.mul_le_mul_left _ p8)
  have h1 := g5.add u6 ⟨by decide, by omega, by omega⟩
  have h2 := h1.add u7 ⟨by decide, by omega, by omega⟩
  have h3 := h2.add u8 ⟨by decide, by omega, by omega⟩
  exact ⟨g1.nn, g2.nn, g3.nn, g4.nn, g5.nn, g6.nn, h1.nn, g7.nn, h2.nn, g8.nn, h3.nn⟩
theorem own_fin {mx mi mn rs : Int64} {mw l0 l1 : Int32} {sc y0 y1 y2 y3 y4 : UInt64} {n : Nat} {Y0 Y1 Y2 Y3 Y4 : Int} (hn : n ≤ 3) (hsc : Dy ((2 ^ n : Nat) : Int) 0 sc) (bx : mx.toInt.natAbs ≤ 524288) (bi : mi.toInt.natAbs ≤ 524288) (bw : mw.toInt.natAbs ≤ 1073741824) (b0 : l0.toInt.natAbs ≤ 1073741824) (b1 : l1.toInt.natAbs ≤ 1073741824)
    (D0 : Db Y0 0 255 y0) (D1 : Db Y1 0 255 y1) (D2 : Db Y2 0 255 y2) (D3 : Db Y3 0 255 y3) (D4 : Db Y4 0 255 y4) (hm : mn.toInt = Y0 * mx.toInt - Y1 * mi.toInt) (hr : rs.toInt = Y2 * mw.toInt + Y3 * l0.toInt + Y4 * l1.toInt) :
    Fl.NoNaN64 (FP.dmul y0 (FP.l2d mx)) ∧ Fl.NoNaN64 (FP.ddiv (FP.dmul y0 (FP.l2d mx)) sc) ∧ Fl.NoNaN64 (FP.dmul y1 (FP.l2d mi)) ∧ Fl.NoNaN64 (FP.ddiv (FP.dmul y1 (FP.l2d mi)) sc) ∧ Fl.NoNaN64 (FP.dsub (FP.ddiv (FP.dmul y0 (FP.l2d mx)) sc) (FP.ddiv (FP.dmul y1 (FP.l2d mi)) sc)) ∧ Fl.NoNaN64 (FP.dmul y2 (FP.i2d mw)) ∧ Fl.NoNaN64 (FP.dadd (FP.dsub (FP.ddiv (FP.dmul y0 (FP.l2d mx)) sc) (FP.ddiv (FP.dmul y1 (FP.l2d mi)) sc)) (FP.dmul y2 (FP.i2d mw))) ∧ Fl.NoNaN64 (FP.dmul y3 (FP.i2d l0)) ∧ Fl.NoNaN64 (FP.dadd (FP.dadd (FP.dsub (FP.ddiv (FP.dmul y0 (FP.l2d mx)) sc) (FP.ddiv (FP.dmul y1 (FP.l2d mi)) sc)) (FP.dmul y2 (FP.i2d mw))) (FP.dmul y3 (FP.i2d l0))) ∧ Fl.NoNaN64 (FP.dmul y4 (FP.i2d l1)) ∧ Fl.NoNaN64 (FP.dadd (FP.dadd (FP.dadd (FP.dsub (FP.ddiv (FP.dmul y0 (FP.l2d mx)) sc) (FP.ddiv (FP.dmul y1 (FP.l2d mi)) sc)) (FP.dmul y2 (FP.i2d mw))) (FP.dmul y3 (FP.i2d l0))) (FP.dmul y4 (FP.i2d l1))) ∧ Fl.NoNaN64 (FP.ddiv (FP.l2d mn) sc) ∧ Fl.NoNaN64 (FP.dadd (FP.ddiv (FP.l2d mn) sc) (FP.l2d rs)) ∧ FP.dcmp (FP.dadd (FP.dadd (FP.dadd (FP.dsub (FP.ddiv (FP.dmul y0 (FP.l2d mx)) sc) (FP.ddiv (FP.dmul y1 (FP.l2d mi)) sc)) (FP.dmul y2 (FP.i2d mw))) (FP.dmul y3 (FP.i2d l0))) (FP.dmul y4 (FP.i2d l1))) (FP.dadd (FP.ddiv (FP.l2d mn) sc) (FP.l2d rs)) = some .eq := by
  have p8 : 2 ^ n ≤ 8 := Nat.pow_le_pow_right (n := 2) (j := 3) (by decide) hn
  have g1 := D0.mul (Iv.db (x := mx) ⟨rfl, bx⟩ (by decide)) (k2 := 0) (by decide) (by decide)
  have g2 := g1.divp n hsc (k2 := n) (by omega) ⟨by decide, by omega, by omega⟩
  have g3 := D1.mul (Iv.db (x := mi) ⟨rfl, bi⟩ (by decide)) (k2 := 0) (by decide) (by decide)
  have g4 := g3.divp n hsc (k2 := n) (by omega) ⟨by decide, by omega, by omega⟩
  have g5 := g2.sub g4 ⟨by decide, by omega, by omega⟩
  have g6 := D2.mul (Db.i2d (z := mw) rfl bw) (k2 := 0) (by decide) (by decide)
  have g7 := D3.mul (Db.i2d (z := l0) rfl b0) (k2 := 0) (by decide) (by decide)
  have g8 := D4.mul (Db.i2d (z := l1) rfl b1) (k2 := 0) (by decide) (by decide)
  have u6 := (g6.up n (k2 := n) (by omega) rfl rfl).le (Nat.mul_le_mul_left _ p8)
  have u7 := (g7.up n (k2 := n) (by omega) rfl rfl).le (Nat.mul_le_mul_left _ p8)
  have u8 := (g8.up n (k2 := n) (by omega) rfl rfl).le (Nat.mul_le_mul_left _ p8)
  have h1 := g5.add u6 ⟨by decide, by omega, by omega⟩
  have h2 := h1.add u7 ⟨by decide, by omega, by omega⟩
  have h3 := h2.add u8 ⟨by decide, by omega, by omega⟩
  have em : (Y0 * mx.toInt - Y1 * mi.toInt).natAbs ≤ 255 * 524288 + 255 * 524288 := g5.2
  have er : (Y2 * mw.toInt + Y3 * l0.toInt + Y4 * l1.toInt).natAbs ≤ 255 * 1073741824 + 255 * 1073741824 + 255 * 1073741824 := by have := g6.2; have := g7.2; have := g8.2; omega
  have k1 := ((Iv.db (x := mn) ⟨hm, em⟩ (by decide)).divp n hsc (k2 := n) (by omega) ⟨by decide, by omega, by omega⟩)
  have k2 := ((Iv.db (x := rs) ⟨hr, er⟩ (by decide)).up n (k2 := n) (by omega) rfl rfl).le (Nat.mul_le_mul_left _ p8)
  have k3 := k1.add k2 ⟨by decide, by omega, by omega⟩
  refine ⟨g1.nn, g2.nn, g3.nn, g4.nn, g5.nn, g6.nn, h1.nn, g7.nn, h2.nn, g8.nn, h3.nn, k1.nn, k3.nn, ?_⟩
  refine h3.cmp k3 ?_
  generalize ((2 ^ n : Nat) : Int) = c
  rw [Int.add_mul, Int.add_mul]
  omega
theorem own_ite {c : Prop} [Decidable c] (a b : Int) : (if c then a else 0) * b = if c then a * b else 0 := by by_cases q : c <;> simp [q]
theorem own_mn {v pm s0 : Int32} {t mx mi q j1 j2 : Int64} (hpm : pm = if v = (0 : Int32) then (0 : Int32) else (1 : Int32)) (ht : s0.toInt64 = t) (h : 0 ≤ t.toInt ∧ t.toInt ≤ 255) (bx : mx.toInt.natAbs ≤ 524288) (bi : mi.toInt.natAbs ≤ 524288)
    (h1 : j1 = if v = (0 : Int32) then (0 : Int64) else (if mx < q then ((0 : Int64) + ((s0.toInt64) * mx)) else (0 : Int64))) (h2 : j2 = if v = (0 : Int32) then j1 else (if q < mi then (j1 - ((s0.toInt64) * mi)) else j1)) :
    j2.toInt = (if pm = (0 : Int32) then 0 else if mx < q then t.toInt else 0) * mx.toInt - (if pm = (0 : Int32) then 0 else if q < mi then t.toInt else 0) * mi.toInt := by
  subst ht
  have It : Iv s0.toInt64 s0.toInt64.toInt 255 := ⟨rfl, by omega⟩
  have I0 : Iv (0 : Int64) 0 0 := ⟨rfl, by decide⟩
  have Ix := (I0.add (It.mul (y := mx) ⟨rfl, bx⟩ (by decide)) (by decide))
  have Ii := (It.mul (y := mi) ⟨rfl, bi⟩ (by decide))
  by_cases a : v = (0 : Int32)
  · rw [if_pos a] at h1 h2 hpm
    rw [h2, h1, if_pos hpm, if_pos hpm]; simp
  · rw [if_neg a] at h1 h2 hpm
    have hp : ¬ pm = (0 : Int32) := by rw [hpm]; decide
    rw [if_neg hp, if_neg hp]
    have J1 : Iv j1 (if mx < q then s0.toInt64.toInt * mx.toInt else 0) (0 + 255 * 524288) := by
      rw [h1]
      by_cases b : mx < q
      · rw [if_pos b, if_pos b]; exact Ix.val (by omega)
      · rw [if_neg b, if_neg b]; exact I0.le (by decide)
    rw [h2, own_ite, own_ite]
    by_cases b : q < mi
    · rw [if_pos b, if_pos b]; exact (J1.sub Ii (by decide)).1
    · rw [if_neg b, if_neg b, J1.1]; omega
theorem own_rs {s0 dw d0 d1 mw l0 l1 : Int32} {t j1 j2 j3 : Int64} {c2 c3 c4 : Prop} [Decidable c2] [Decidable c3] [Decidable c4] (e2 : c2 ↔ (0 : Int32) < dw) (e3 : c3 ↔ (0 : Int32) < d0) (e4 : c4 ↔ (0 : Int32) < d1) (ht : s0.toInt64 = t) (h : 0 ≤ t.toInt ∧ t.toInt ≤ 255)
    (bw : mw.toInt.natAbs ≤ 1073741824) (b0 : l0.toInt.natAbs ≤ 1073741824) (b1 : l1.toInt.natAbs ≤ 1073741824)
    (h1 : j1 = if (0 : Int32) < dw then ((0 : Int64) + ((s0.toInt64) * (mw.toInt64))) else (0 : Int64)) (h2 : j2 = if (0 : Int32) < d0 then (j1 + ((s0.toInt64) * (l0.toInt64))) else j1) (h3 : j3 = if (0 : Int32) < d1 then (j2 + ((s0.toInt64) * (l1.toInt64))) else j2) :
    j3.toInt = (if c2 then t.toInt else 0) * mw.toInt + (if c3 then t.toInt else 0) * l0.toInt + (if c4 then t.toInt else 0) * l1.toInt := by
  subst ht
  have It : Iv s0.toInt64 s0.toInt64.toInt 255 := ⟨rfl, by omega⟩
  have I0 : Iv (0 : Int64) 0 0 := ⟨rfl, by decide⟩
  have Iw := It.mul (Iv.i2l (z := mw) rfl bw) (by decide)
  have Ia := It.mul (Iv.i2l (z := l0) rfl b0) (by decide)
  have Ib := It.mul (Iv.i2l (z := l1) rfl b1) (by decide)
  rw [own_ite, own_ite, own_ite]
  have J1 : Iv j1 (if c2 then s0.toInt64.toInt * mw.toInt else 0) (255 * 1073741824) := by
    rw [h1]
    by_cases b : (0 : Int32) < dw
    · rw [if_pos b, if_pos (e2.mpr b)]; exact ((I0.add Iw (by decide)).val (by omega)).le (by decide)
    · rw [if_neg b, if_neg (fun z => b (e2.mp z))]; exact I0.le (by decide)
  have J2 : Iv j2 ((if c2 then s0.toInt64.toInt * mw.toInt else 0) + (if c3 then s0.toInt64.toInt * l0.toInt else 0)) (255 * 1073741824 + 255 * 1073741824) := by
    rw [h2]
    by_cases b : (0 : Int32) < d0
    · rw [if_pos b, if_pos (e3.mpr b)]; exact J1.add Ia (by decide)
    · rw [if_neg b, if_neg (fun z => b (e3.mp z))]; exact (J1.val (by omega)).le (by decide)
  rw [h3]
  by_cases b : (0 : Int32) < d1
  · rw [if_pos b, if_pos (e4.mpr b)]; exact (J2.add Ib (by decide)).1
  · rw [if_neg b, if_neg (fun z => b (e4.mp z)), J2.1]; omega
theorem d1_0 : decode prog_41_method_1_code 0 = .ok (.aload_n 0, 1) := by decide +kernel
theorem d1_1 : decode prog_41_method_1_code 1 = .ok (.invokespecial 1, 3) := by decide +kernel
theorem d1_4 : decode prog_41_method_1_code 4 = .ok (.aload_n 0, 1) := by decide +kernel
theorem d1_5 : decode prog_41_method_1_code 5 = .ok (.iconst 1, 1) := by decide +kernel
theorem d1_6 : decode prog_41_method_1_code 6 = .ok (.putfield 7, 3) := by decide +kernel
theorem d1_9 : decode prog_41_method_1_code 9 = .ok (.aload_n 0, 1) := by decide +kernel
theorem d1_10 : decode prog_41_method_1_code 10 = .ok (.dload_n 1, 1) := by decide +kernel
theorem d1_11 : decode prog_41_method_1_code 11 = .ok (.putfield 13, 3) := by decide +kernel
theorem d1_14 : decode prog_41_method_1_code 14 = .ok (.aload_n 0, 1) := by decide +kernel
theorem d1_15 : decode prog_41_method_1_code 15 = .ok (.lload_n 3, 1) := by decide +kernel
theorem d1_16 : decode prog_41_method_1_code 16 = .ok (.putfield 17, 3) := by decide +kernel
theorem d1_19 : decode prog_41_method_1_code 19 = .ok (.aload_n 0, 1) := by decide +kernel
theorem d1_20 : decode prog_41_method_1_code 20 = .ok (.lload 5, 2) := by decide +kernel
theorem d1_22 : decode prog_41_method_1_code 22 = .ok (.putfield 21, 3) := by decide +kernel
theorem d1_25 : decode prog_41_method_1_code 25 = .ok (.aload_n 0, 1) := by decide +kernel
theorem d1_26 : decode prog_41_method_1_code 26 = .ok (.iload 7, 2) := by decide +kernel
theorem d1_28 : decode prog_41_method_1_code 28 = .ok (.putfield 24, 3) := by decide +kernel
theorem d1_31 : decode prog_41_method_1_code 31 = .ok (.aload_n 0, 1) := by decide +kernel
theorem d1_32 : decode prog_41_method_1_code 32 = .ok (.aload 8, 2) := by decide +kernel
theorem d1_34 : decode prog_41_method_1_code 34 = .ok (.putfield 28, 3) := by decide +kernel
theorem d1_37 : decode prog_41_method_1_code 37 = .ok (.aload_n 0, 1) := by decide +kernel
theorem d1_38 : decode prog_41_method_1_code 38 = .ok (.iconst 3, 1) := by decide +kernel
theorem d1_39 : decode prog_41_method_1_code 39 = .ok (.aload 8, 2) := by decide +kernel
theorem d1_41 : decode prog_41_method_1_code 41 = .ok (.arraylength, 1) := by decide +kernel
theorem d1_42 : decode prog_41_method_1_code 42 = .ok (.iadd, 1) := by decide +kernel
theorem d1_43 : decode prog_41_method_1_code 43 = .ok (.newarray .double, 2) := by decide +kernel
theorem d1_45 : decode prog_41_method_1_code 45 = .ok (.putfield 32, 3) := by decide +kernel
theorem d1_48 : decode prog_41_method_1_code 48 = .ok (.aload_n 0, 1) := by decide +kernel
theorem d1_49 : decode prog_41_method_1_code 49 = .ok (.aload_n 0, 1) := by decide +kernel
theorem d1_50 : decode prog_41_method_1_code 50 = .ok (.getfield 32, 3) := by decide +kernel
theorem d1_53 : decode prog_41_method_1_code 53 = .ok (.arraylength, 1) := by decide +kernel
theorem d1_54 : decode prog_41_method_1_code 54 = .ok (.newarray .double, 2) := by decide +kernel
theorem d1_56 : decode prog_41_method_1_code 56 = .ok (.putfield 36, 3) := by decide +kernel
theorem d1_59 : decode prog_41_method_1_code 59 = .ok (.aload_n 0, 1) := by decide +kernel
theorem d1_60 : decode prog_41_method_1_code 60 = .ok (.aload_n 0, 1) := by decide +kernel
theorem d1_61 : decode prog_41_method_1_code 61 = .ok (.getfield 32, 3) := by decide +kernel
theorem d1_64 : decode prog_41_method_1_code 64 = .ok (.arraylength, 1) := by decide +kernel
theorem d1_65 : decode prog_41_method_1_code 65 = .ok (.newarray .int, 2) := by decide +kernel
theorem d1_67 : decode prog_41_method_1_code 67 = .ok (.putfield 39, 3) := by decide +kernel
theorem d1_70 : decode prog_41_method_1_code 70 = .ok (.return_, 1) := by decide +kernel
theorem pn_40 : plainName "com/example/wardwise/wardwise/solver/LimitPrices" = true := by first | (simp [plainName, overriddenIn]; done) | decide +kernel
theorem ef_rmI (m : MethodId) (a : Addr) (sc : UInt64) (mx : Int64) (mi : Int64) (mw : Int32) (lim : Addr) : entryFrame m #[(.ref a), (.double sc), (.long mx), (.long mi), (.int mw), (.ref lim)] 9 = mkF m 0 #[rv a, dv sc, sd, jv mx, sd, jv mi, sd, iv mw, rv lim] [] := by first | (simp [entryFrame, mkF, argsToLocals, Value.category]; done) | rfl
def Q_rmI (Z : State) (a : Addr) (sc : UInt64) (mx : Int64) (mi : Int64) (mw : Int32) (lim : Addr) (l0 : Int32) (l1 : Int32) (h0 : Heap) (n0 : Nat) (v : Option Value) (h : Heap) (L : List Loc) : Prop := ∃ pri : Addr, ∃ stp : Addr, ∃ lst : Addr, v = none ∧ Fr n0 L ∧ Keep h0 h [a] ∧ h0.size ≤ pri ∧ h0.size ≤ stp ∧ h0.size ≤ lst ∧ Fld Z h a "com/example/wardwise/wardwise/solver/LimitPrices" "pricesMinutes" "Z" (.int (1 : Int32)) ∧ Fld Z h a "com/example/wardwise/wardwise/solver/LimitPrices" "minuteScale" "D" (.double sc) ∧ Fld Z h a "com/example/wardwise/wardwise/solver/LimitPrices" "maxMinutes" "J" (.long mx) ∧ Fld Z h a "com/example/wardwise/wardwise/solver/LimitPrices" "minMinutes" "J" (.long mi) ∧ Fld Z h a "com/example/wardwise/wardwise/solver/LimitPrices" "maxWeekends" "I" (.int mw) ∧ Fld Z h a "com/example/wardwise/wardwise/solver/LimitPrices" "limits" "[I" (.ref lim) ∧ Fld Z h a "com/example/wardwise/wardwise/solver/LimitPrices" "price" "[D" (.ref pri) ∧ Fld Z h a "com/example/wardwise/wardwise/solver/LimitPrices" "stepSize" "[D" (.ref stp) ∧ Fld Z h a "com/example/wardwise/wardwise/solver/LimitPrices" "lastSide" "[I" (.ref lst) ∧ Arl Z h pri .double [(.double (0 : UInt64)), (.double (0 : UInt64)), (.double (0 : UInt64)), (.double (0 : UInt64)), (.double (0 : UInt64))] ∧ Arl Z h stp .double [(.double (0 : UInt64)), (.double (0 : UInt64)), (.double (0 : UInt64)), (.double (0 : UInt64)), (.double (0 : UInt64))] ∧ Arl Z h lst .int [(.int (0 : Int32)), (.int (0 : Int32)), (.int (0 : Int32)), (.int (0 : Int32)), (.int (0 : Int32))] ∧ pri ≠ stp ∧ pri ≠ lst ∧ stp ≠ lst
set_option maxRecDepth 65536 in
set_option maxHeartbeats 40000000 in
theorem rmI (l : Launch) (Z : State) (a0 : Array Value) (hw : ∀ d ∈ tables_1, d.before a0 Z = true) (a : Addr) (sc : UInt64) (mx : Int64) (mi : Int64) (mw : Int32) (lim : Addr) (l0 : Int32) (l1 : Int32) (h0 : Heap) (n0 : Nat) (Z0 : n0 ≤ h0.size) (E_a : Exa Z h0 a "com/example/wardwise/wardwise/solver/LimitPrices") (F_a_pricesMinutes : Fld Z h0 a "com/example/wardwise/wardwise/solver/LimitPrices" "pricesMinutes" "Z" (.int (0 : Int32))) (F_a_minuteScale : Fld Z h0 a "com/example/wardwise/wardwise/solver/LimitPrices" "minuteScale" "D" (.double (0 : UInt64))) (F_a_maxMinutes : Fld Z h0 a "com/example/wardwise/wardwise/solver/LimitPrices" "maxMinutes" "J" (.long (0 : Int64))) (F_a_minMinutes : Fld Z h0 a "com/example/wardwise/wardwise/solver/LimitPrices" "minMinutes" "J" (.long (0 : Int64))) (F_a_maxWeekends : Fld Z h0 a "com/example/wardwise/wardwise/solver/LimitPrices" "maxWeekends" "I" (.int (0 : Int32))) (F_a_limits : Fld Z h0 a "com/example/wardwise/wardwise/solver/LimitPrices" "limits" "[I" .null) (F_a_price : Fld Z h0 a "com/example/wardwise/wardwise/solver/LimitPrices" "price" "[D" .null) (F_a_stepSize : Fld Z h0 a "com/example/wardwise/wardwise/solver/LimitPrices" "stepSize" "[D" .null) (F_a_lastSide : Fld Z h0 a "com/example/wardwise/wardwise/solver/LimitPrices" "lastSide" "[I" .null) (A_lim : Arl Z h0 lim .int [(.int l0), (.int l1)]) (ne_a_lim : a ≠ lim) (g_a : n0 ≤ a) :
    Ctr l Z h0 (⟨"com/example/wardwise/wardwise/solver/LimitPrices", "<init>", "(DJJI[I)V"⟩ : MethodName) prog_41_method_1_code 9 none [] ({ frames := 1, cells := 3, slots := 15, locals := 12 } : Room) #[(.ref a), (.double sc), (.long mx), (.long mi), (.int mw), (.ref lim)] (Q_rmI Z a sc mx mi mw lim l0 l1 h0 n0) := by
  refine Ctr.make (plainFor_of_name pn_40) fun p e s m below meth c s₁ K hret hml hx hby hown hnm hZ X0 e0 hK => ?_
  have hown : s.vm.findClass "com/example/wardwise/wardwise/solver/LimitPrices" = some m.cls := hown
  have N0 := Fr.nil n0
  have K0 : Keep h0 h0 [a] := Keep.refl _ _
  refine Wlk.of (fun _ k => castTop (ef_rmI m a sc mx mi mw lim) k) ?_
  show Wlk p.tables e below (s₁.setTop (mkF m 0 #[rv a, dv sc, sd, jv mx, sd, jv mi, sd, iv mw, rv lim] [])) K
  refine Wlk.of (fun _ k => XS.aloadN X0.here hx rfl (hb hby d1_0) rfl rfl k) ?_
  show Wlk p.tables e below (s₁.setTop (mkF m 1 #[rv a, dv sc, sd, jv mx, sd, jv mi, sd, iv mw, rv lim] [(.ref a)])) K
  obtain ⟨T1, X1, e1, st1⟩ := initO X0 hx hZ hown (wd hw 7 rfl) (wd hw 8 rfl) (wd hw 9 rfl) e0 (g := (mkF m 1 #[rv a, dv sc, sd, jv mx, sd, jv mi, sd, iv mw, rv lim] [(.ref a)])) rfl (by rw [hml]; rfl) rfl (hb hby d1_1) (by decide) (W := 0) (by show 2 * 0 + _ ≤ _; exact Nat.le_of_eq rfl) (by decide)
  refine Wlk.of (fun _ k => st1 _ k) ?_
  show Wlk p.tables e below (T1.setTop (mkF m 4 #[rv a, dv sc, sd, jv mx, sd, jv mi, sd, iv mw, rv lim] [])) K
  refine Wlk.of (fun _ k => XS.aloadN X1.here hx rfl (hb hby d1_4) rfl rfl k) ?_
  show Wlk p.tables e below (T1.setTop (mkF m 5 #[rv a, dv sc, sd, jv mx, sd, jv mi, sd, iv mw, rv lim] [(.ref a)])) K
  refine Wlk.of (fun _ k => XS.iconst X1.here hx rfl (hb hby d1_5) k) ?_
  show Wlk p.tables e below (T1.setTop (mkF m 6 #[rv a, dv sc, sd, jv mx, sd, jv mi, sd, iv mw, rv lim] [(.int (1 : Int32)), (.ref a)])) K
  obtain ⟨T2, h2, X2, e2, W2, st2⟩ := putF X1 hx hZ hown (host := "") (Or.inl (wd hw 10 rfl)) Via.refl e1 F_a_pricesMinutes E_a (Or.inl (wd hw 11 rfl)) (wd hw 2 rfl) (ty := .boolean) (by decide) rfl rfl (g := (mkF m 6 #[rv a, dv sc, sd, jv mx, sd, jv mi, sd, iv mw, rv lim] [(.int (1 : Int32)), (.ref a)])) rfl rfl (hb hby d1_6)
  have Fw2 := F_a_pricesMinutes.same W2
  refine Wlk.of (fun _ k => st2 _ k) ?_
  have K3 : Keep h0 h2 [a] := K0.wr W2 (Or.inl (List.mem_of_getElem? (i := 0) rfl))
  have N4 := Fr.snoc X2 N0 g_a
  show Wlk p.tables e below (T2.setTop (mkF m 9 #[rv a, dv sc, sd, jv mx, sd, jv mi, sd, iv mw, rv lim] [])) K
  refine Wlk.of (fun _ k => XS.aloadN X2.here hx rfl (hb hby d1_9) rfl rfl k) ?_
  show Wlk p.tables e below (T2.setTop (mkF m 10 #[rv a, dv sc, sd, jv mx, sd, jv mi, sd, iv mw, rv lim] [(.ref a)])) K
  refine Wlk.of (fun _ k => XS.dloadN X2.here hx rfl (hb hby d1_10) rfl k) ?_
  show Wlk p.tables e below (T2.setTop (mkF m 11 #[rv a, dv sc, sd, jv mx, sd, jv mi, sd, iv mw, rv lim] [(.double sc), (.ref a)])) K
  have f5 : Fld Z h2 a "com/example/wardwise/wardwise/solver/LimitPrices" "minuteScale" "D" (.double (0 : UInt64)) := (F_a_minuteScale.other W2 (Or.inr (slot_ne (Or.inr (wd hw 13 rfl)) (Or.inl (wd hw 11 rfl)) (by decide) (t := .double) (t' := .boolean) (by decide) (by decide))))
  have f6 : Exa Z h2 a "com/example/wardwise/wardwise/solver/LimitPrices" := (E_a.wr W2)
  obtain ⟨T7, h7, X7, e7, W7, st7⟩ := putF X2 hx hZ hown (host := "") (Or.inl (wd hw 12 rfl)) Via.refl e2 f5 f6 (Or.inr ⟨(wd hw 13 rfl), rfl, hnm⟩) (wd hw 2 rfl) (ty := .double) (by decide) rfl rfl (g := (mkF m 11 #[rv a, dv sc, sd, jv mx, sd, jv mi, sd, iv mw, rv lim] [(.double sc), (.ref a)])) rfl rfl (hb hby d1_11)
  have Fw7 := f5.same W7
  refine Wlk.of (fun _ k => st7 _ k) ?_
  have K8 : Keep h0 h7 [a] := K3.wr W7 (Or.inl (List.mem_of_getElem? (i := 0) rfl))
  have N9 := Fr.snoc X7 N4 g_a
  show Wlk p.tables e below (T7.setTop (mkF m 14 #[rv a, dv sc, sd, jv mx, sd, jv mi, sd, iv mw, rv lim] [])) K
  refine Wlk.of (fun _ k => XS.aloadN X7.here hx rfl (hb hby d1_14) rfl rfl k) ?_
  show Wlk p.tables e below (T7.setTop (mkF m 15 #[rv a, dv sc, sd, jv mx, sd, jv mi, sd, iv mw, rv lim] [(.ref a)])) K
  refine Wlk.of (fun _ k => XS.lloadN X7.here hx rfl (hb hby d1_15) rfl k) ?_
  show Wlk p.tables e below (T7.setTop (mkF m 16 #[rv a, dv sc, sd, jv mx, sd, jv mi, sd, iv mw, rv lim] [(.long mx), (.ref a)])) K
  have f10 : Fld Z h7 a "com/example/wardwise/wardwise/solver/LimitPrices" "maxMinutes" "J" (.long (0 : Int64)) := ((F_a_maxMinutes.other W2 (Or.inr (slot_ne (Or.inr (wd hw 15 rfl)) (Or.inl (wd hw 11 rfl)) (by decide) (t := .long) (t' := .boolean) (by decide) (by decide)))).other W7 (Or.inr (slot_ne (Or.inr (wd hw 15 rfl)) (Or.inr (wd hw 13 rfl)) (by decide) (t := .long) (t' := .double) (by decide) (by decide))))
  have f11 : Exa Z h7 a "com/example/wardwise/wardwise/solver/LimitPrices" := (f6.wr W7)
  obtain ⟨T12, h12, X12, e12, W12, st12⟩ := putF X7 hx hZ hown (host := "") (Or.inl (wd hw 14 rfl)) Via.refl e7 f10 f11 (Or.inr ⟨(wd hw 15 rfl), rfl, hnm⟩) (wd hw 2 rfl) (ty := .long) (by decide) rfl rfl (g := (mkF m 16 #[rv a, dv sc, sd, jv mx, sd, jv mi, sd, iv mw, rv lim] [(.long mx), (.ref a)])) rfl rfl (hb hby d1_16)
  have Fw12 := f10.same W12
  refine Wlk.of (fun _ k => st12 _ k) ?_
  have K13 : Keep h0 h12 [a] := K8.wr W12 (Or.inl (List.mem_of_getElem? (i := 0) rfl))
  have N14 := Fr.snoc X12 N9 g_a
  show Wlk p.tables e below (T12.setTop (mkF m 19 #[rv a, dv sc, sd, jv mx, sd, jv mi, sd, iv mw, rv lim] [])) K
  refine Wlk.of (fun _ k => XS.aloadN X12.here hx rfl (hb hby d1_19) rfl rfl k) ?_
  show Wlk p.tables e below (T12.setTop (mkF m 20 #[rv a, dv sc, sd, jv mx, sd, jv mi, sd, iv mw, rv lim] [(.ref a)])) K
  refine Wlk.of (fun _ k => XS.lload X12.here hx rfl (hb hby d1_20) rfl k) ?_
  show Wlk p.tables e below (T12.setTop (mkF m 22 #[rv a, dv sc, sd, jv mx, sd, jv mi, sd, iv mw, rv lim] [(.long mi), (.ref a)])) K
  have f15 : Fld Z h12 a "com/example/wardwise/wardwise/solver/LimitPrices" "minMinutes" "J" (.long (0 : Int64)) := (((F_a_minMinutes.other W2 (Or.inr (slot_ne (Or.inr (wd hw 17 rfl)) (Or.inl (wd hw 11 rfl)) (by decide) (t := .long) (t' := .boolean) (by decide) (by decide)))).other W7 (Or.inr (slot_ne (Or.inr (wd hw 17 rfl)) (Or.inr (wd hw 13 rfl)) (by decide) (t := .long) (t' := .double) (by decide) (by decide)))).other W12 (Or.inr (slot_ne (Or.inr (wd hw 17 rfl)) (Or.inr (wd hw 15 rfl)) (by decide) (t := .long) (t' := .long) (by decide) (by decide))))
  have f16 : Exa Z h12 a "com/example/wardwise/wardwise/solver/LimitPrices" := (f11.wr W12)
  obtain ⟨T17, h17, X17, e17, W17, st17⟩ := putF X12 hx hZ hown (host := "") (Or.inl (wd hw 16 rfl)) Via.refl e12 f15 f16 (Or.inr ⟨(wd hw 17 rfl), rfl, hnm⟩) (wd hw 2 rfl) (ty := .long) (by decide) rfl rfl (g := (mkF m 22 #[rv a, dv sc, sd, jv mx, sd, jv mi, sd, iv mw, rv lim] [(.long mi), (.ref a)])) rfl rfl (hb hby d1_22)
  have Fw17 := f15.same W17
  refine Wlk.of (fun _ k => st17 _ k) ?_
  have K18 : Keep h0 h17 [a] := K13.wr W17 (Or.inl (List.mem_of_getElem? (i := 0) rfl))
  have N19 := Fr.snoc X17 N14 g_a
  show Wlk p.tables e below (T17.setTop (mkF m 25 #[rv a, dv sc, sd, jv mx, sd, jv mi, sd, iv mw, rv lim] [])) K
  refine Wlk.of (fun _ k => XS.aloadN X17.here hx rfl (hb hby d1_25) rfl rfl k) ?_
  show Wlk p.tables e below (T17.setTop (mkF m 26 #[rv a, dv sc, sd, jv mx, sd, jv mi, sd, iv mw, rv lim] [(.ref a)])) K
  refine Wlk.of (fun _ k => XS.iload X17.here hx rfl (hb hby d1_26) rfl k) ?_
  show Wlk p.tables e below (T17.setTop (mkF m 28 #[rv a, dv sc, sd, jv mx, sd, jv mi, sd, iv mw, rv lim] [(.int mw), (.ref a)])) K
  have f20 : Fld Z h17 a "com/example/wardwise/wardwise/solver/LimitPrices" "maxWeekends" "I" (.int (0 : Int32)) := ((((F_a_maxWeekends.other W2 (Or.inr (slot_ne (Or.inr (wd hw 19 rfl)) (Or.inl (wd hw 11 rfl)) (by decide) (t := .int) (t' := .boolean) (by decide) (by decide)))).other W7 (Or.inr (slot_ne (Or.inr (wd hw 19 rfl)) (Or.inr (wd hw 13 rfl)) (by decide) (t := .int) (t' := .double) (by decide) (by decide)))).other W12 (Or.inr (slot_ne (Or.inr (wd hw 19 rfl)) (Or.inr (wd hw 15 rfl)) (by decide) (t := .int) (t' := .long) (by decide) (by decide)))).other W17 (Or.inr (slot_ne (Or.inr (wd hw 19 rfl)) (Or.inr (wd hw 17 rfl)) (by decide) (t := .int) (t' := .long) (by decide) (by decide))))
  have f21 : Exa Z h17 a "com/example/wardwise/wardwise/solver/LimitPrices" := (f16.wr W17)
  obtain ⟨T22, h22, X22, e22, W22, st22⟩ := putF X17 hx hZ hown (host := "") (Or.inl (wd hw 18 rfl)) Via.refl e17 f20 f21 (Or.inr ⟨(wd hw 19 rfl), rfl, hnm⟩) (wd hw 2 rfl) (ty := .int) (by decide) rfl rfl (g := (mkF m 28 #[rv a, dv sc, sd, jv mx, sd, jv mi, sd, iv mw, rv lim] [(.int mw), (.ref a)])) rfl rfl (hb hby d1_28)
  have Fw22 := f20.same W22
  refine Wlk.of (fun _ k => st22 _ k) ?_
  have K23 : Keep h0 h22 [a] := K18.wr W22 (Or.inl (List.mem_of_getElem? (i := 0) rfl))
  have N24 := Fr.snoc X22 N19 g_a
  show Wlk p.tables e below (T22.setTop (mkF m 31 #[rv a, dv sc, sd, jv mx, sd, jv mi, sd, iv mw, rv lim] [])) K
  refine Wlk.of (fun _ k => XS.aloadN X22.here hx rfl (hb hby d1_31) rfl rfl k) ?_
  show Wlk p.tables e below (T22.setTop (mkF m 32 #[rv a, dv sc, sd, jv mx, sd, jv mi, sd, iv mw, rv lim] [(.ref a)])) K
  refine Wlk.of (fun _ k => XS.aload X22.here hx rfl (hb hby d1_32) rfl rfl k) ?_
  show Wlk p.tables e below (T22.setTop (mkF m 34 #[rv a, dv sc, sd, jv mx, sd, jv mi, sd, iv mw, rv lim] [(.ref lim), (.ref a)])) K
  have f25 : Fld Z h22 a "com/example/wardwise/wardwise/solver/LimitPrices" "limits" "[I" .null := (((((F_a_limits.other W2 (Or.inr (slot_ne (Or.inr (wd hw 21 rfl)) (Or.inl (wd hw 11 rfl)) (by decide) (t := (.array .int)) (t' := .boolean) (by decide) (by decide)))).other W7 (Or.inr (slot_ne (Or.inr (wd hw 21 rfl)) (Or.inr (wd hw 13 rfl)) (by decide) (t := (.array .int)) (t' := .double) (by decide) (by decide)))).other W12 (Or.inr (slot_ne (Or.inr (wd hw 21 rfl)) (Or.inr (wd hw 15 rfl)) (by decide) (t := (.array .int)) (t' := .long) (by decide) (by decide)))).other W17 (Or.inr (slot_ne (Or.inr (wd hw 21 rfl)) (Or.inr (wd hw 17 rfl)) (by decide) (t := (.array .int)) (t' := .long) (by decide) (by decide)))).other W22 (Or.inr (slot_ne (Or.inr (wd hw 21 rfl)) (Or.inr (wd hw 19 rfl)) (by decide) (t := (.array .int)) (t' := .int) (by decide) (by decide))))
  have f26 : Exa Z h22 a "com/example/wardwise/wardwise/solver/LimitPrices" := (f21.wr W22)
  obtain ⟨T27, h27, X27, e27, W27, st27⟩ := putF X22 hx hZ hown (host := "") (Or.inl (wd hw 20 rfl)) Via.refl e22 f25 f26 (Or.inr ⟨(wd hw 21 rfl), rfl, hnm⟩) (wd hw 2 rfl) (ty := (.array .int)) (by decide) rfl rfl (g := (mkF m 34 #[rv a, dv sc, sd, jv mx, sd, jv mi, sd, iv mw, rv lim] [(.ref lim), (.ref a)])) rfl rfl (hb hby d1_34)
  have Fw27 := f25.same W27
  refine Wlk.of (fun _ k => st27 _ k) ?_
  have K28 : Keep h0 h27 [a] := K23.wr W27 (Or.inl (List.mem_of_getElem? (i := 0) rfl))
  have N29 := Fr.snoc X27 N24 g_a
  show Wlk p.tables e below (T27.setTop (mkF m 37 #[rv a, dv sc, sd, jv mx, sd, jv mi, sd, iv mw, rv lim] [])) K
  refine Wlk.of (fun _ k => XS.aloadN X27.here hx rfl (hb hby d1_37) rfl rfl k) ?_
  show Wlk p.tables e below (T27.setTop (mkF m 38 #[rv a, dv sc, sd, jv mx, sd, jv mi, sd, iv mw, rv lim] [(.ref a)])) K
  refine Wlk.of (fun _ k => XS.iconst X27.here hx rfl (hb hby d1_38) k) ?_
  show Wlk p.tables e below (T27.setTop (mkF m 39 #[rv a, dv sc, sd, jv mx, sd, jv mi, sd, iv mw, rv lim] [(.int (3 : Int32)), (.ref a)])) K
  refine Wlk.of (fun _ k => XS.aload X27.here hx rfl (hb hby d1_39) rfl rfl k) ?_
  show Wlk p.tables e below (T27.setTop (mkF m 41 #[rv a, dv sc, sd, jv mx, sd, jv mi, sd, iv mw, rv lim] [(.ref lim), (.int (3 : Int32)), (.ref a)])) K
  have f30 : Arl Z h27 lim .int [(.int l0), (.int l1)] := ((((((A_lim.other W2 (Ne.symm ne_a_lim)).other W7 (Ne.symm ne_a_lim)).other W12 (Ne.symm ne_a_lim)).other W17 (Ne.symm ne_a_lim)).other W22 (Ne.symm ne_a_lim)).other W27 (Ne.symm ne_a_lim))
  refine Wlk.of (fun _ k => lenL X27 hx hZ e27 f30 (n := (2 : Int32)) rfl (g := (mkF m 41 #[rv a, dv sc, sd, jv mx, sd, jv mi, sd, iv mw, rv lim] [(.ref lim), (.int (3 : Int32)), (.ref a)])) rfl rfl (hb hby d1_41) _ k) ?_
  show Wlk p.tables e below (T27.setTop (mkF m 42 #[rv a, dv sc, sd, jv mx, sd, jv mi, sd, iv mw, rv lim] [(.int (2 : Int32)), (.int (3 : Int32)), (.ref a)])) K
  refine Wlk.of (fun _ k => XS.iadd X27.here hx rfl (hb hby d1_42) rfl k) ?_
  show Wlk p.tables e below (T27.setTop (mkF m 43 #[rv a, dv sc, sd, jv mx, sd, jv mi, sd, iv mw, rv lim] [(.int (5 : Int32)), (.ref a)])) K
  obtain ⟨T31, h31, X31, e31, E31, A31, st31⟩ := newL X27 hx hZ (wd hw 22 rfl) e27 (g := (mkF m 43 #[rv a, dv sc, sd, jv mx, sd, jv mi, sd, iv mw, rv lim] [(.int (5 : Int32)), (.ref a)])) rfl (hb hby d1_43) rfl (by decide) (cap := 5) (by decide) (by decide) (by decide) (by decide)
  obtain ⟨b31, g31⟩ : ∃ z, z = h27.size := ⟨_, rfl⟩
  rw [← g31] at A31 st31
  have f33 : Exa Z h27 a "com/example/wardwise/wardwise/solver/LimitPrices" := (f26.wr W27)
  have ne32 : a ≠ b31 := Nat.ne_of_lt (Nat.lt_of_lt_of_le f33.lt (Nat.le_of_eq g31.symm))
  have ne34 : lim ≠ b31 := Nat.ne_of_lt (Nat.lt_of_lt_of_le f30.lt (Nat.le_of_eq g31.symm))
  have sz_b31 : h0.size ≤ b31 := Nat.le_trans K28.1 (Nat.le_of_eq g31.symm)
  have g_b31 : n0 ≤ b31 := Nat.le_trans Z0 sz_b31
  have K36 : Keep h0 h31 [a] := K28.ext E31
  have A_b31 : Arl Z h31 b31 .double [(.double (0 : UInt64)), (.double (0 : UInt64)), (.double (0 : UInt64)), (.double (0 : UInt64)), (.double (0 : UInt64))] := A31
  refine Wlk.of (fun _ k => st31 _ k) ?_
  show Wlk p.tables e below (T31.setTop (mkF m 45 #[rv a, dv sc, sd, jv mx, sd, jv mi, sd, iv mw, rv lim] [(.ref b31), (.ref a)])) K
  have f37 : Fld Z h31 a "com/example/wardwise/wardwise/solver/LimitPrices" "price" "[D" .null := (((((((F_a_price.other W2 (Or.inr (slot_ne (Or.inr (wd hw 24 rfl)) (Or.inl (wd hw 11 rfl)) (by decide) (t := (.array .double)) (t' := .boolean) (by decide) (by decide)))).other W7 (Or.inr (slot_ne (Or.inr (wd hw 24 rfl)) (Or.inr (wd hw 13 rfl)) (by decide) (t := (.array .double)) (t' := .double) (by decide) (by decide)))).other W12 (Or.inr (slot_ne (Or.inr (wd hw 24 rfl)) (Or.inr (wd hw 15 rfl)) (by decide) (t := (.array .double)) (t' := .long) (by decide) (by decide)))).other W17 (Or.inr (slot_ne (Or.inr (wd hw 24 rfl)) (Or.inr (wd hw 17 rfl)) (by decide) (t := (.array .double)) (t' := .long) (by decide) (by decide)))).other W22 (Or.inr (slot_ne (Or.inr (wd hw 24 rfl)) (Or.inr (wd hw 19 rfl)) (by decide) (t := (.array .double)) (t' := .int) (by decide) (by decide)))).other W27 (Or.inr (slot_ne (Or.inr (wd hw 24 rfl)) (Or.inr (wd hw 21 rfl)) (by decide) (t := (.array .double)) (t' := (.array .int)) (by decide) (by decide)))).ext E31)
  have f38 : Exa Z h31 a "com/example/wardwise/wardwise/solver/LimitPrices" := (f33.ext E31)
  obtain ⟨T39, h39, X39, e39, W39, st39⟩ := putF X31 hx hZ hown (host := "") (Or.inl (wd hw 23 rfl)) Via.refl e31 f37 f38 (Or.inr ⟨(wd hw 24 rfl), rfl, hnm⟩) (wd hw 2 rfl) (ty := (.array .double)) (by decide) rfl rfl (g := (mkF m 45 #[rv a, dv sc, sd, jv mx, sd, jv mi, sd, iv mw, rv lim] [(.ref b31), (.ref a)])) rfl rfl (hb hby d1_45)
  have Fw39 := f37.same W39
  refine Wlk.of (fun _ k => st39 _ k) ?_
  have K40 : Keep h0 h39 [a] := K36.wr W39 (Or.inl (List.mem_of_getElem? (i := 0) rfl))
  have N41 := Fr.snoc X39 N29 g_a
  show Wlk p.tables e below (T39.setTop (mkF m 48 #[rv a, dv sc, sd, jv mx, sd, jv mi, sd, iv mw, rv lim] [])) K
  refine Wlk.of (fun _ k => XS.aloadN X39.here hx rfl (hb hby d1_48) rfl rfl k) ?_
  show Wlk p.tables e below (T39.setTop (mkF m 49 #[rv a, dv sc, sd, jv mx, sd, jv mi, sd, iv mw, rv lim] [(.ref a)])) K
  refine Wlk.of (fun _ k => XS.aloadN X39.here hx rfl (hb hby d1_49) rfl rfl k) ?_
  show Wlk p.tables e below (T39.setTop (mkF m 50 #[rv a, dv sc, sd, jv mx, sd, jv mi, sd, iv mw, rv lim] [(.ref a), (.ref a)])) K
  obtain ⟨T42, X42, e42, st42⟩ := getF X39 hx hZ hown (host := "") (Or.inl (wd hw 23 rfl)) Via.refl e39 Fw39 (g := (mkF m 50 #[rv a, dv sc, sd, jv mx, sd, jv mi, sd, iv mw, rv lim] [(.ref a), (.ref a)])) rfl rfl (hb hby d1_50)
  refine Wlk.of (fun _ k => st42 _ k) ?_
  show Wlk p.tables e below (T42.setTop (mkF m 53 #[rv a, dv sc, sd, jv mx, sd, jv mi, sd, iv mw, rv lim] [(.ref b31), (.ref a)])) K
  have f43 : Arl Z h39 b31 .double [(.double (0 : UInt64)), (.double (0 : UInt64)), (.double (0 : UInt64)), (.double (0 : UInt64)), (.double (0 : UInt64))] := (A_b31.other W39 (Ne.symm ne32))
  refine Wlk.of (fun _ k => lenL X42 hx hZ e42 f43 (n := (5 : Int32)) rfl (g := (mkF m 53 #[rv a, dv sc, sd, jv mx, sd, jv mi, sd, iv mw, rv lim] [(.ref b31), (.ref a)])) rfl rfl (hb hby d1_53) _ k) ?_
  show Wlk p.tables e below (T42.setTop (mkF m 54 #[rv a, dv sc, sd, jv mx, sd, jv mi, sd, iv mw, rv lim] [(.int (5 : Int32)), (.ref a)])) K
  obtain ⟨T44, h44, X44, e44, E44, A44, st44⟩ := newL X42 hx hZ (wd hw 22 rfl) e42 (g := (mkF m 54 #[rv a, dv sc, sd, jv mx, sd, jv mi, sd, iv mw, rv lim] [(.int (5 : Int32)), (.ref a)])) rfl (hb hby d1_54) rfl (by decide) (cap := 5) (by decide) (by decide) (by decide) (by decide)
  obtain ⟨b44, g44⟩ : ∃ z, z = h39.size := ⟨_, rfl⟩
  rw [← g44] at A44 st44
  have f46 : Exa Z h39 a "com/example/wardwise/wardwise/solver/LimitPrices" := (f38.wr W39)
  have ne45 : a ≠ b44 := Nat.ne_of_lt (Nat.lt_of_lt_of_le f46.lt (Nat.le_of_eq g44.symm))
  have ne47 : b31 ≠ b44 := Nat.ne_of_lt (Nat.lt_of_lt_of_le f43.lt (Nat.le_of_eq g44.symm))
  have f49 : Arl Z h39 lim .int [(.int l0), (.int l1)] := ((f30.ext E31).other W39 (Ne.symm ne_a_lim))
  have ne48 : lim ≠ b44 := Nat.ne_of_lt (Nat.lt_of_lt_of_le f49.lt (Nat.le_of_eq g44.symm))
  have sz_b44 : h0.size ≤ b44 := Nat.le_trans K40.1 (Nat.le_of_eq g44.symm)
  have g_b44 : n0 ≤ b44 := Nat.le_trans Z0 sz_b44
  have K51 : Keep h0 h44 [a] := K40.ext E44
  have A_b44 : Arl Z h44 b44 .double [(.double (0 : UInt64)), (.double (0 : UInt64)), (.double (0 : UInt64)), (.double (0 : UInt64)), (.double (0 : UInt64))] := A44
  refine Wlk.of (fun _ k => st44 _ k) ?_
  show Wlk p.tables e below (T44.setTop (mkF m 56 #[rv a, dv sc, sd, jv mx, sd, jv mi, sd, iv mw, rv lim] [(.ref b44), (.ref a)])) K
  have f52 : Fld Z h44 a "com/example/wardwise/wardwise/solver/LimitPrices" "stepSize" "[D" .null := (((((((((F_a_stepSize.other W2 (Or.inr (slot_ne (Or.inr (wd hw 26 rfl)) (Or.inl (wd hw 11 rfl)) (by decide) (t := (.array .double)) (t' := .boolean) (by decide) (by decide)))).other W7 (Or.inr (slot_ne (Or.inr (wd hw 26 rfl)) (Or.inr (wd hw 13 rfl)) (by decide) (t := (.array .double)) (t' := .double) (by decide) (by decide)))).other W12 (Or.inr (slot_ne (Or.inr (wd hw 26 rfl)) (Or.inr (wd hw 15 rfl)) (by decide) (t := (.array .double)) (t' := .long) (by decide) (by decide)))).other W17 (Or.inr (slot_ne (Or.inr (wd hw 26 rfl)) (Or.inr (wd hw 17 rfl)) (by decide) (t := (.array .double)) (t' := .long) (by decide) (by decide)))).other W22 (Or.inr (slot_ne (Or.inr (wd hw 26 rfl)) (Or.inr (wd hw 19 rfl)) (by decide) (t := (.array .double)) (t' := .int) (by decide) (by decide)))).other W27 (Or.inr (slot_ne (Or.inr (wd hw 26 rfl)) (Or.inr (wd hw 21 rfl)) (by decide) (t := (.array .double)) (t' := (.array .int)) (by decide) (by decide)))).ext E31).other W39 (Or.inr (slot_ne (Or.inr (wd hw 26 rfl)) (Or.inr (wd hw 24 rfl)) (by decide) (t := (.array .double)) (t' := (.array .double)) (by decide) (by decide)))).ext E44)
  have f53 : Exa Z h44 a "com/example/wardwise/wardwise/solver/LimitPrices" := (f46.ext E44)
  obtain ⟨T54, h54, X54, e54, W54, st54⟩ := putF X44 hx hZ hown (host := "") (Or.inl (wd hw 25 rfl)) Via.refl e44 f52 f53 (Or.inr ⟨(wd hw 26 rfl), rfl, hnm⟩) (wd hw 2 rfl) (ty := (.array .double)) (by decide) rfl rfl (g := (mkF m 56 #[rv a, dv sc, sd, jv mx, sd, jv mi, sd, iv mw, rv lim] [(.ref b44), (.ref a)])) rfl rfl (hb hby d1_56)
  have Fw54 := f52.same W54
  refine Wlk.of (fun _ k => st54 _ k) ?_
  have K55 : Keep h0 h54 [a] := K51.wr W54 (Or.inl (List.mem_of_getElem? (i := 0) rfl))
  have N56 := Fr.snoc X54 N41 g_a
  show Wlk p.tables e below (T54.setTop (mkF m 59 #[rv a, dv sc, sd, jv mx, sd, jv mi, sd, iv mw, rv lim] [])) K
  refine Wlk.of (fun _ k => XS.aloadN X54.here hx rfl (hb hby d1_59) rfl rfl k) ?_
  show Wlk p.tables e below (T54.setTop (mkF m 60 #[rv a, dv sc, sd, jv mx, sd, jv mi, sd, iv mw, rv lim] [(.ref a)])) K
  refine Wlk.of (fun _ k => XS.aloadN X54.here hx rfl (hb hby d1_60) rfl rfl k) ?_
  show Wlk p.tables e below (T54.setTop (mkF m 61 #[rv a, dv sc, sd, jv mx, sd, jv mi, sd, iv mw, rv lim] [(.ref a), (.ref a)])) K
  have f57 : Fld Z h54 a "com/example/wardwise/wardwise/solver/LimitPrices" "price" "[D" (.ref b31) := ((Fw39.ext E44).other W54 (Or.inr (slot_ne (Or.inr (wd hw 24 rfl)) (Or.inr (wd hw 26 rfl)) (by decide) (t := (.array .double)) (t' := (.array .double)) (by decide) (by decide))))
  obtain ⟨T58, X58, e58, st58⟩ := getF X54 hx hZ hown (host := "") (Or.inl (wd hw 23 rfl)) Via.refl e54 f57 (g := (mkF m 61 #[rv a, dv sc, sd, jv mx, sd, jv mi, sd, iv mw, rv lim] [(.ref a), (.ref a)])) rfl rfl (hb hby d1_61)
  refine Wlk.of (fun _ k => st58 _ k) ?_
  show Wlk p.tables e below (T58.setTop (mkF m 64 #[rv a, dv sc, sd, jv mx, sd, jv mi, sd, iv mw, rv lim] [(.ref b31), (.ref a)])) K
  have f59 : Arl Z h54 b31 .double [(.double (0 : UInt64)), (.double (0 : UInt64)), (.double (0 : UInt64)), (.double (0 : UInt64)), (.double (0 : UInt64))] := ((f43.ext E44).other W54 (Ne.symm ne32))
  refine Wlk.of (fun _ k => lenL X58 hx hZ e58 f59 (n := (5 : Int32)) rfl (g := (mkF m 64 #[rv a, dv sc, sd, jv mx, sd, jv mi, sd, iv mw, rv lim] [(.ref b31), (.ref a)])) rfl rfl (hb hby d1_64) _ k) ?_
  show Wlk p.tables e below (T58.setTop (mkF m 65 #[rv a, dv sc, sd, jv mx, sd, jv mi, sd, iv mw, rv lim] [(.int (5 : Int32)), (.ref a)])) K
  obtain ⟨T60, h60, X60, e60, E60, A60, st60⟩ := newL X58 hx hZ (wd hw 0 rfl) e58 (g := (mkF m 65 #[rv a, dv sc, sd, jv mx, sd, jv mi, sd, iv mw, rv lim] [(.int (5 : Int32)), (.ref a)])) rfl (hb hby d1_65) rfl (by decide) (cap := 5) (by decide) (by decide) (by decide) (by decide)
  obtain ⟨b60, g60⟩ : ∃ z, z = h54.size := ⟨_, rfl⟩
  rw [← g60] at A60 st60
  have f62 : Exa Z h54 a "com/example/wardwise/wardwise/solver/LimitPrices" := (f53.wr W54)
  have ne61 : a ≠ b60 := Nat.ne_of_lt (Nat.lt_of_lt_of_le f62.lt (Nat.le_of_eq g60.symm))
  have ne63 : b31 ≠ b60 := Nat.ne_of_lt (Nat.lt_of_lt_of_le f59.lt (Nat.le_of_eq g60.symm))
  have f65 : Arl Z h54 b44 .double [(.double (0 : UInt64)), (.double (0 : UInt64)), (.double (0 : UInt64)), (.double (0 : UInt64)), (.double (0 : UInt64))] := (A_b44.other W54 (Ne.symm ne45))
  have ne64 : b44 ≠ b60 := Nat.ne_of_lt (Nat.lt_of_lt_of_le f65.lt (Nat.le_of_eq g60.symm))
  have f67 : Arl Z h54 lim .int [(.int l0), (.int l1)] := ((f49.ext E44).other W54 (Ne.symm ne_a_lim))
  have ne66 : lim ≠ b60 := Nat.ne_of_lt (Nat.lt_of_lt_of_le f67.lt (Nat.le_of_eq g60.symm))
  have sz_b60 : h0.size ≤ b60 := Nat.le_trans K55.1 (Nat.le_of_eq g60.symm)
  have g_b60 : n0 ≤ b60 := Nat.le_trans Z0 sz_b60
  have K69 : Keep h0 h60 [a] := K55.ext E60
  have A_b60 : Arl Z h60 b60 .int [(.int (0 : Int32)), (.int (0 : Int32)), (.int (0 : Int32)), (.int (0 : Int32)), (.int (0 : Int32))] := A60
  refine Wlk.of (fun _ k => st60 _ k) ?_
  show Wlk p.tables e below (T60.setTop (mkF m 67 #[rv a, dv sc, sd, jv mx, sd, jv mi, sd, iv mw, rv lim] [(.ref b60), (.ref a)])) K
  have f70 : Fld Z h60 a "com/example/wardwise/wardwise/solver/LimitPrices" "lastSide" "[I" .null := (((((((((((F_a_lastSide.other W2 (Or.inr (slot_ne (Or.inr (wd hw 28 rfl)) (Or.inl (wd hw 11 rfl)) (by decide) (t := (.array .int)) (t' := .boolean) (by decide) (by decide)))).other W7 (Or.inr (slot_ne (Or.inr (wd hw 28 rfl)) (Or.inr (wd hw 13 rfl)) (by decide) (t := (.array .int)) (t' := .double) (by decide) (by decide)))).other W12 (Or.inr (slot_ne (Or.inr (wd hw 28 rfl)) (Or.inr (wd hw 15 rfl)) (by decide) (t := (.array .int)) (t' := .long) (by decide) (by decide)))).other W17 (Or.inr (slot_ne (Or.inr (wd hw 28 rfl)) (Or.inr (wd hw 17 rfl)) (by decide) (t := (.array .int)) (t' := .long) (by decide) (by decide)))).other W22 (Or.inr (slot_ne (Or.inr (wd hw 28 rfl)) (Or.inr (wd hw 19 rfl)) (by decide) (t := (.array .int)) (t' := .int) (by decide) (by decide)))).other W27 (Or.inr (slot_ne (Or.inr (wd hw 28 rfl)) (Or.inr (wd hw 21 rfl)) (by decide) (t := (.array .int)) (t' := (.array .int)) (by decide) (by decide)))).ext E31).other W39 (Or.inr (slot_ne (Or.inr (wd hw 28 rfl)) (Or.inr (wd hw 24 rfl)) (by decide) (t := (.array .int)) (t' := (.array .double)) (by decide) (by decide)))).ext E44).other W54 (Or.inr (slot_ne (Or.inr (wd hw 28 rfl)) (Or.inr (wd hw 26 rfl)) (by decide) (t := (.array .int)) (t' := (.array .double)) (by decide) (by decide)))).ext E60)
  have f71 : Exa Z h60 a "com/example/wardwise/wardwise/solver/LimitPrices" := (f62.ext E60)
  obtain ⟨T72, h72, X72, e72, W72, st72⟩ := putF X60 hx hZ hown (host := "") (Or.inl (wd hw 27 rfl)) Via.refl e60 f70 f71 (Or.inr ⟨(wd hw 28 rfl), rfl, hnm⟩) (wd hw 2 rfl) (ty := (.array .int)) (by decide) rfl rfl (g := (mkF m 67 #[rv a, dv sc, sd, jv mx, sd, jv mi, sd, iv mw, rv lim] [(.ref b60), (.ref a)])) rfl rfl (hb hby d1_67)
  have Fw72 := f70.same W72
  refine Wlk.of (fun _ k => st72 _ k) ?_
  have K73 : Keep h0 h72 [a] := K69.wr W72 (Or.inl (List.mem_of_getElem? (i := 0) rfl))
  have N74 := Fr.snoc X72 N56 g_a
  show Wlk p.tables e below (T72.setTop (mkF m 70 #[rv a, dv sc, sd, jv mx, sd, jv mi, sd, iv mw, rv lim] [])) K
  have f75 : Fld Z h72 a "com/example/wardwise/wardwise/solver/LimitPrices" "pricesMinutes" "Z" (.int (1 : Int32)) := (((((((((((Fw2.other W7 (Or.inr (slot_ne (Or.inl (wd hw 11 rfl)) (Or.inr (wd hw 13 rfl)) (by decide) (t := .boolean) (t' := .double) (by decide) (by decide)))).other W12 (Or.inr (slot_ne (Or.inl (wd hw 11 rfl)) (Or.inr (wd hw 15 rfl)) (by decide) (t := .boolean) (t' := .long) (by decide) (by decide)))).other W17 (Or.inr (slot_ne (Or.inl (wd hw 11 rfl)) (Or.inr (wd hw 17 rfl)) (by decide) (t := .boolean) (t' := .long) (by decide) (by decide)))).other W22 (Or.inr (slot_ne (Or.inl (wd hw 11 rfl)) (Or.inr (wd hw 19 rfl)) (by decide) (t := .boolean) (t' := .int) (by decide) (by decide)))).other W27 (Or.inr (slot_ne (Or.inl (wd hw 11 rfl)) (Or.inr (wd hw 21 rfl)) (by decide) (t := .boolean) (t' := (.array .int)) (by decide) (by decide)))).ext E31).other W39 (Or.inr (slot_ne (Or.inl (wd hw 11 rfl)) (Or.inr (wd hw 24 rfl)) (by decide) (t := .boolean) (t' := (.array .double)) (by decide) (by decide)))).ext E44).other W54 (Or.inr (slot_ne (Or.inl (wd hw 11 rfl)) (Or.inr (wd hw 26 rfl)) (by decide) (t := .boolean) (t' := (.array .double)) (by decide) (by decide)))).ext E60).other W72 (Or.inr (slot_ne (Or.inl (wd hw 11 rfl)) (Or.inr (wd hw 28 rfl)) (by decide) (t := .boolean) (t' := (.array .int)) (by decide) (by decide))))
  have f76 : Fld Z h72 a "com/example/wardwise/wardwise/solver/LimitPrices" "minuteScale" "D" (.double sc) := ((((((((((Fw7.other W12 (Or.inr (slot_ne (Or.inr (wd hw 13 rfl)) (Or.inr (wd hw 15 rfl)) (by decide) (t := .double) (t' := .long) (by decide) (by decide)))).other W17 (Or.inr (slot_ne (Or.inr (wd hw 13 rfl)) (Or.inr (wd hw 17 rfl)) (by decide) (t := .double) (t' := .long) (by decide) (by decide)))).other W22 (Or.inr (slot_ne (Or.inr (wd hw 13 rfl)) (Or.inr (wd hw 19 rfl)) (by decide) (t := .double) (t' := .int) (by decide) (by decide)))).other W27 (Or.inr (slot_ne (Or.inr (wd hw 13 rfl)) (Or.inr (wd hw 21 rfl)) (by decide) (t := .double) (t' := (.array .int)) (by decide) (by decide)))).ext E31).other W39 (Or.inr (slot_ne (Or.inr (wd hw 13 rfl)) (Or.inr (wd hw 24 rfl)) (by decide) (t := .double) (t' := (.array .double)) (by decide) (by decide)))).ext E44).other W54 (Or.inr (slot_ne (Or.inr (wd hw 13 rfl)) (Or.inr (wd hw 26 rfl)) (by decide) (t := .double) (t' := (.array .double)) (by decide) (by decide)))).ext E60).other W72 (Or.inr (slot_ne (Or.inr (wd hw 13 rfl)) (Or.inr (wd hw 28 rfl)) (by decide) (t := .double) (t' := (.array .int)) (by decide) (by decide))))
  have f77 : Fld Z h72 a "com/example/wardwise/wardwise/solver/LimitPrices" "maxMinutes" "J" (.long mx) := (((((((((Fw12.other W17 (Or.inr (slot_ne (Or.inr (wd hw 15 rfl)) (Or.inr (wd hw 17 rfl)) (by decide) (t := .long) (t' := .long) (by decide) (by decide)))).other W22 (Or.inr (slot_ne (Or.inr (wd hw 15 rfl)) (Or.inr (wd hw 19 rfl)) (by decide) (t := .long) (t' := .int) (by decide) (by decide)))).other W27 (Or.inr (slot_ne (Or.inr (wd hw 15 rfl)) (Or.inr (wd hw 21 rfl)) (by decide) (t := .long) (t' := (.array .int)) (by decide) (by decide)))).ext E31).other W39 (Or.inr (slot_ne (Or.inr (wd hw 15 rfl)) (Or.inr (wd hw 24 rfl)) (by decide) (t := .long) (t' := (.array .double)) (by decide) (by decide)))).ext E44).other W54 (Or.inr (slot_ne (Or.inr (wd hw 15 rfl)) (Or.inr (wd hw 26 rfl)) (by decide) (t := .long) (t' := (.array .double)) (by decide) (by decide)))).ext E60).other W72 (Or.inr (slot_ne (Or.inr (wd hw 15 rfl)) (Or.inr (wd hw 28 rfl)) (by decide) (t := .long) (t' := (.array .int)) (by decide) (by decide))))
  have f78 : Fld Z h72 a "com/example/wardwise/wardwise/solver/LimitPrices" "minMinutes" "J" (.long mi) := ((((((((Fw17.other W22 (Or.inr (slot_ne (Or.inr (wd hw 17 rfl)) (Or.inr (wd hw 19 rfl)) (by decide) (t := .long) (t' := .int) (by decide) (by decide)))).other W27 (Or.inr (slot_ne (Or.inr (wd hw 17 rfl)) (Or.inr (wd hw 21 rfl)) (by decide) (t := .long) (t' := (.array .int)) (by decide) (by decide)))).ext E31).other W39 (Or.inr (slot_ne (Or.inr (wd hw 17 rfl)) (Or.inr (wd hw 24 rfl)) (by decide) (t := .long) (t' := (.array .double)) (by decide) (by decide)))).ext E44).other W54 (Or.inr (slot_ne (Or.inr (wd hw 17 rfl)) (Or.inr (wd hw 26 rfl)) (by decide) (t := .long) (t' := (.array .double)) (by decide) (by decide)))).ext E60).other W72 (Or.inr (slot_ne (Or.inr (wd hw 17 rfl)) (Or.inr (wd hw 28 rfl)) (by decide) (t := .long) (t' := (.array .int)) (by decide) (by decide))))
  have f79 : Fld Z h72 a "com/example/wardwise/wardwise/solver/LimitPrices" "maxWeekends" "I" (.int mw) := (((((((Fw22.other W27 (Or.inr (slot_ne (Or.inr (wd hw 19 rfl)) (Or.inr (wd hw 21 rfl)) (by decide) (t := .int) (t' := (.array .int)) (by decide) (by decide)))).ext E31).other W39 (Or.inr (slot_ne (Or.inr (wd hw 19 rfl)) (Or.inr (wd hw 24 rfl)) (by decide) (t := .int) (t' := (.array .double)) (by decide) (by decide)))).ext E44).other W54 (Or.inr (slot_ne (Or.inr (wd hw 19 rfl)) (Or.inr (wd hw 26 rfl)) (by decide) (t := .int) (t' := (.array .double)) (by decide) (by decide)))).ext E60).other W72 (Or.inr (slot_ne (Or.inr (wd hw 19 rfl)) (Or.inr (wd hw 28 rfl)) (by decide) (t := .int) (t' := (.array .int)) (by decide) (by decide))))
  have f80 : Fld Z h72 a "com/example/wardwise/wardwise/solver/LimitPrices" "limits" "[I" (.ref lim) := ((((((Fw27.ext E31).other W39 (Or.inr (slot_ne (Or.inr (wd hw 21 rfl)) (Or.inr (wd hw 24 rfl)) (by decide) (t := (.array .int)) (t' := (.array .double)) (by decide) (by decide)))).ext E44).other W54 (Or.inr (slot_ne (Or.inr (wd hw 21 rfl)) (Or.inr (wd hw 26 rfl)) (by decide) (t := (.array .int)) (t' := (.array .double)) (by decide) (by decide)))).ext E60).other W72 (Or.inr (slot_ne (Or.inr (wd hw 21 rfl)) (Or.inr (wd hw 28 rfl)) (by decide) (t := (.array .int)) (t' := (.array .int)) (by decide) (by decide))))
  have f81 : Fld Z h72 a "com/example/wardwise/wardwise/solver/LimitPrices" "price" "[D" (.ref b31) := ((f57.ext E60).other W72 (Or.inr (slot_ne (Or.inr (wd hw 24 rfl)) (Or.inr (wd hw 28 rfl)) (by decide) (t := (.array .double)) (t' := (.array .int)) (by decide) (by decide))))
  have f82 : Fld Z h72 a "com/example/wardwise/wardwise/solver/LimitPrices" "stepSize" "[D" (.ref b44) := ((Fw54.ext E60).other W72 (Or.inr (slot_ne (Or.inr (wd hw 26 rfl)) (Or.inr (wd hw 28 rfl)) (by decide) (t := (.array .double)) (t' := (.array .int)) (by decide) (by decide))))
  have f83 : Arl Z h72 b31 .double [(.double (0 : UInt64)), (.double (0 : UInt64)), (.double (0 : UInt64)), (.double (0 : UInt64)), (.double (0 : UInt64))] := ((f59.ext E60).other W72 (Ne.symm ne32))
  have f84 : Arl Z h72 b44 .double [(.double (0 : UInt64)), (.double (0 : UInt64)), (.double (0 : UInt64)), (.double (0 : UInt64)), (.double (0 : UInt64))] := ((f65.ext E60).other W72 (Ne.symm ne45))
  have f85 : Arl Z h72 b60 .int [(.int (0 : Int32)), (.int (0 : Int32)), (.int (0 : Int32)), (.int (0 : Int32)), (.int (0 : Int32))] := (A_b60.other W72 (Ne.symm ne61))
  refine hK none X72 (fun q => rfl) (fun fs hr => X72.returnOut hx hret (hb hby d1_70) hr) ?_ (by decide) (by decide)
  rw [show T72.heap = h72 from e72]
  exact ⟨b31, b44, b60, rfl, N74, K73, sz_b31, sz_b44, sz_b60, f75, f76, f77, f78, f79, f80, f81, f82, Fw72, f83, f84, f85, ne47, ne63, ne64⟩
theorem d9_0 : decode prog_41_method_2_code 0 = .ok (.aload_n 0, 1) := by decide +kernel
theorem d9_1 : decode prog_41_method_2_code 1 = .ok (.iload_n 1, 1) := by decide +kernel
theorem d9_2 : decode prog_41_method_2_code 2 = .ok (.putfield 7, 3) := by decide +kernel
theorem d9_5 : decode prog_41_method_2_code 5 = .ok (.iload_n 1, 1) := by decide +kernel
theorem d9_6 : decode prog_41_method_2_code 6 = .ok (.ifCond .ne 17, 3) := by decide +kernel
theorem d9_9 : decode prog_41_method_2_code 9 = .ok (.aload_n 0, 1) := by decide +kernel
theorem d9_10 : decode prog_41_method_2_code 10 = .ok (.getfield 32, 3) := by decide +kernel
theorem d9_13 : decode prog_41_method_2_code 13 = .ok (.iconst 0, 1) := by decide +kernel
theorem d9_14 : decode prog_41_method_2_code 14 = .ok (.dconst 0, 1) := by decide +kernel
theorem d9_15 : decode prog_41_method_2_code 15 = .ok (.dastore, 1) := by decide +kernel
theorem d9_16 : decode prog_41_method_2_code 16 = .ok (.aload_n 0, 1) := by decide +kernel
theorem d9_17 : decode prog_41_method_2_code 17 = .ok (.getfield 32, 3) := by decide +kernel
theorem d9_20 : decode prog_41_method_2_code 20 = .ok (.iconst 1, 1) := by decide +kernel
theorem d9_21 : decode prog_41_method_2_code 21 = .ok (.dconst 0, 1) := by decide +kernel
theorem d9_22 : decode prog_41_method_2_code 22 = .ok (.dastore, 1) := by decide +kernel
theorem d9_23 : decode prog_41_method_2_code 23 = .ok (.return_, 1) := by decide +kernel
theorem ef_rmQ (m : MethodId) (a : Addr) : entryFrame m #[(.ref a), (.int (0 : Int32))] 2 = mkF m 0 #[rv a, iv (0 : Int32)] [] := by first | (simp [entryFrame, mkF, argsToLocals, Value.category]; done) | rfl
def Q_rmQ (Z : State) (a : Addr) (sc : UInt64) (mx : Int64) (mi : Int64) (mw : Int32) (lim : Addr) (pri : Addr) (stp : Addr) (lst : Addr) (h0 : Heap) (n0 : Nat) (v : Option Value) (h : Heap) (L : List Loc) : Prop := v = none ∧ Fr n0 L ∧ Keep h0 h [a, pri] ∧ Fld Z h a "com/example/wardwise/wardwise/solver/LimitPrices" "pricesMinutes" "Z" (.int (0 : Int32)) ∧ Fld Z h a "com/example/wardwise/wardwise/solver/LimitPrices" "minuteScale" "D" (.double sc) ∧ Fld Z h a "com/example/wardwise/wardwise/solver/LimitPrices" "maxMinutes" "J" (.long mx) ∧ Fld Z h a "com/example/wardwise/wardwise/solver/LimitPrices" "minMinutes" "J" (.long mi) ∧ Fld Z h a "com/example/wardwise/wardwise/solver/LimitPrices" "maxWeekends" "I" (.int mw) ∧ Fld Z h a "com/example/wardwise/wardwise/solver/LimitPrices" "limits" "[I" (.ref lim) ∧ Fld Z h a "com/example/wardwise/wardwise/solver/LimitPrices" "price" "[D" (.ref pri) ∧ Fld Z h a "com/example/wardwise/wardwise/solver/LimitPrices" "stepSize" "[D" (.ref stp) ∧ Fld Z h a "com/example/wardwise/wardwise/solver/LimitPrices" "lastSide" "[I" (.ref lst) ∧ Arl Z h pri .double [(.double (0 : UInt64)), (.double (0 : UInt64)), (.double (0 : UInt64)), (.double (0 : UInt64)), (.double (0 : UInt64))]
set_option maxRecDepth 65536 in
set_option maxHeartbeats 40000000 in
theorem rmQ (l : Launch) (Z : State) (a0 : Array Value) (hw : ∀ d ∈ tables_1, d.before a0 Z = true) (a : Addr) (sc : UInt64) (mx : Int64) (mi : Int64) (mw : Int32) (lim : Addr) (pri : Addr) (stp : Addr) (lst : Addr) (h0 : Heap) (n0 : Nat) (Z0 : n0 ≤ h0.size) (E_a : Exa Z h0 a "com/example/wardwise/wardwise/solver/LimitPrices") (F_a_pricesMinutes : Fld Z h0 a "com/example/wardwise/wardwise/solver/LimitPrices" "pricesMinutes" "Z" (.int (1 : Int32))) (F_a_minuteScale : Fld Z h0 a "com/example/wardwise/wardwise/solver/LimitPrices" "minuteScale" "D" (.double sc)) (F_a_maxMinutes : Fld Z h0 a "com/example/wardwise/wardwise/solver/LimitPrices" "maxMinutes" "J" (.long mx)) (F_a_minMinutes : Fld Z h0 a "com/example/wardwise/wardwise/solver/LimitPrices" "minMinutes" "J" (.long mi)) (F_a_maxWeekends : Fld Z h0 a "com/example/wardwise/wardwise/solver/LimitPrices" "maxWeekends" "I" (.int mw)) (F_a_limits : Fld Z h0 a "com/example/wardwise/wardwise/solver/LimitPrices" "limits" "[I" (.ref lim)) (F_a_price : Fld Z h0 a "com/example/wardwise/wardwise/solver/LimitPrices" "price" "[D" (.ref pri)) (F_a_stepSize : Fld Z h0 a "com/example/wardwise/wardwise/solver/LimitPrices" "stepSize" "[D" (.ref stp)) (F_a_lastSide : Fld Z h0 a "com/example/wardwise/wardwise/solver/LimitPrices" "lastSide" "[I" (.ref lst)) (A_pri : Arl Z h0 pri .double [(.double (0 : UInt64)), (.double (0 : UInt64)), (.double (0 : UInt64)), (.double (0 : UInt64)), (.double (0 : UInt64))]) (ne_a_pri : a ≠ pri) (g_a : n0 ≤ a) (g_pri : n0 ≤ pri) :
    Ctr l Z h0 (⟨"com/example/wardwise/wardwise/solver/LimitPrices", "priceMinutes", "(Z)V"⟩ : MethodName) prog_41_method_2_code 2 none [] ({ frames := 0, cells := 0, slots := 0, locals := 0 } : Room) #[(.ref a), (.int (0 : Int32))] (Q_rmQ Z a sc mx mi mw lim pri stp lst h0 n0) := by
  refine Ctr.make (plainFor_of_name pn_40) fun p e s m below meth c s₁ K hret hml hx hby hown hnm hZ X0 e0 hK => ?_
  have hown : s.vm.findClass "com/example/wardwise/wardwise/solver/LimitPrices" = some m.cls := hown
  have N0 := Fr.nil n0
  have K0 : Keep h0 h0 [a, pri] := Keep.refl _ _
  refine Wlk.of (fun _ k => castTop (ef_rmQ m a) k) ?_
  show Wlk p.tables e below (s₁.setTop (mkF m 0 #[rv a, iv (0 : Int32)] [])) K
  refine Wlk.of (fun _ k => XS.aloadN X0.here hx rfl (hb hby d9_0) rfl rfl k) ?_
  show Wlk p.tables e below (s₁.setTop (mkF m 1 #[rv a, iv (0 : Int32)] [(.ref a)])) K
  refine Wlk.of (fun _ k => XS.iloadN X0.here hx rfl (hb hby d9_1) rfl k) ?_
  show Wlk p.tables e below (s₁.setTop (mkF m 2 #[rv a, iv (0 : Int32)] [(.int (0 : Int32)), (.ref a)])) K
  obtain ⟨T1, h1, X1, e1, W1, st1⟩ := putF X0 hx hZ hown (host := "") (Or.inl (wd hw 10 rfl)) Via.refl e0 F_a_pricesMinutes E_a (Or.inl (wd hw 11 rfl)) (wd hw 2 rfl) (ty := .boolean) (by decide) rfl rfl (g := (mkF m 2 #[rv a, iv (0 : Int32)] [(.int (0 : Int32)), (.ref a)])) rfl rfl (hb hby d9_2)
  have Fw1 := F_a_pricesMinutes.same W1
  refine Wlk.of (fun _ k => st1 _ k) ?_
  have K2 : Keep h0 h1 [a, pri] := K0.wr W1 (Or.inl (List.mem_of_getElem? (i := 0) rfl))
  have N3 := Fr.snoc X1 N0 g_a
  show Wlk p.tables e below (T1.setTop (mkF m 5 #[rv a, iv (0 : Int32)] [])) K
  refine Wlk.of (fun _ k => XS.iloadN X1.here hx rfl (hb hby d9_5) rfl k) ?_
  show Wlk p.tables e below (T1.setTop (mkF m 6 #[rv a, iv (0 : Int32)] [(.int (0 : Int32))])) K
  refine Wlk.of (fun _ k => XS.ifNo X1.here hx rfl (hb hby d9_6) rfl ((if0 _ _).trans (teq (by decide : (0 : Int32) = (0 : Int32))).2) k) ?_
  show Wlk p.tables e below (T1.setTop (mkF m 9 #[rv a, iv (0 : Int32)] [])) K
  refine Wlk.of (fun _ k => XS.aloadN X1.here hx rfl (hb hby d9_9) rfl rfl k) ?_
  show Wlk p.tables e below (T1.setTop (mkF m 10 #[rv a, iv (0 : Int32)] [(.ref a)])) K
  have f4 : Fld Z h1 a "com/example/wardwise/wardwise/solver/LimitPrices" "price" "[D" (.ref pri) := (F_a_price.other W1 (Or.inr (slot_ne (Or.inr (wd hw 24 rfl)) (Or.inl (wd hw 11 rfl)) (by decide) (t := (.array .double)) (t' := .boolean) (by decide) (by decide))))
  obtain ⟨T5, X5, e5, st5⟩ := getF X1 hx hZ hown (host := "") (Or.inl (wd hw 23 rfl)) Via.refl e1 f4 (g := (mkF m 10 #[rv a, iv (0 : Int32)] [(.ref a)])) rfl rfl (hb hby d9_10)
  refine Wlk.of (fun _ k => st5 _ k) ?_
  show Wlk p.tables e below (T5.setTop (mkF m 13 #[rv a, iv (0 : Int32)] [(.ref pri)])) K
  refine Wlk.of (fun _ k => XS.iconst X5.here hx rfl (hb hby d9_13) k) ?_
  show Wlk p.tables e below (T5.setTop (mkF m 14 #[rv a, iv (0 : Int32)] [(.int (0 : Int32)), (.ref pri)])) K
  refine Wlk.of (fun _ k => XS.dconst0 X5.here hx rfl (hb hby d9_14) rfl k) ?_
  show Wlk p.tables e below (T5.setTop (mkF m 15 #[rv a, iv (0 : Int32)] [(.double FP.dconst0), (.int (0 : Int32)), (.ref pri)])) K
  have f6 : Arl Z h1 pri .double [(.double (0 : UInt64)), (.double (0 : UInt64)), (.double (0 : UInt64)), (.double (0 : UInt64)), (.double (0 : UInt64))] := (A_pri.other W1 (Ne.symm ne_a_pri))
  obtain ⟨T7, h7, X7, e7, W7, V7, st7⟩ := stDl X5 hx hZ e5 f6 (j := (0 : Int32)) (i := 0) (by decide) (by decide) (show 0 < 5 by decide) (g := (mkF m 15 #[rv a, iv (0 : Int32)] [(.double FP.dconst0), (.int (0 : Int32)), (.ref pri)])) rfl rfl (hb hby d9_15)
  refine Wlk.of (fun _ k => st7 _ k) ?_
  have K8 : Keep h0 h7 [a, pri] := K2.wr W7 (Or.inl (List.mem_of_getElem? (i := 1) rfl))
  have N9 := Fr.snoc X7 N3 g_pri
  have Vw7 : Arl Z h7 pri .double [(.double FP.dconst0), (.double (0 : UInt64)), (.double (0 : UInt64)), (.double (0 : UInt64)), (.double (0 : UInt64))] := V7
  show Wlk p.tables e below (T7.setTop (mkF m 16 #[rv a, iv (0 : Int32)] [])) K
  refine Wlk.of (fun _ k => XS.aloadN X7.here hx rfl (hb hby d9_16) rfl rfl k) ?_
  show Wlk p.tables e below (T7.setTop (mkF m 17 #[rv a, iv (0 : Int32)] [(.ref a)])) K
  have f10 : Fld Z h7 a "com/example/wardwise/wardwise/solver/LimitPrices" "price" "[D" (.ref pri) := (f4.other W7 (Or.inl ne_a_pri))
  obtain ⟨T11, X11, e11, st11⟩ := getF X7 hx hZ hown (host := "") (Or.inl (wd hw 23 rfl)) Via.refl e7 f10 (g := (mkF m 17 #[rv a, iv (0 : Int32)] [(.ref a)])) rfl rfl (hb hby d9_17)
  refine Wlk.of (fun _ k => st11 _ k) ?_
  show Wlk p.tables e below (T11.setTop (mkF m 20 #[rv a, iv (0 : Int32)] [(.ref pri)])) K
  refine Wlk.of (fun _ k => XS.iconst X11.here hx rfl (hb hby d9_20) k) ?_
  show Wlk p.tables e below (T11.setTop (mkF m 21 #[rv a, iv (0 : Int32)] [(.int (1 : Int32)), (.ref pri)])) K
  refine Wlk.of (fun _ k => XS.dconst0 X11.here hx rfl (hb hby d9_21) rfl k) ?_
  show Wlk p.tables e below (T11.setTop (mkF m 22 #[rv a, iv (0 : Int32)] [(.double FP.dconst0), (.int (1 : Int32)), (.ref pri)])) K
  obtain ⟨T12, h12, X12, e12, W12, V12, st12⟩ := stDl X11 hx hZ e11 Vw7 (j := (1 : Int32)) (i := 1) (by decide) (by decide) (show 1 < 5 by decide) (g := (mkF m 22 #[rv a, iv (0 : Int32)] [(.double FP.dconst0), (.int (1 : Int32)), (.ref pri)])) rfl rfl (hb hby d9_22)
  refine Wlk.of (fun _ k => st12 _ k) ?_
  have K13 : Keep h0 h12 [a, pri] := K8.wr W12 (Or.inl (List.mem_of_getElem? (i := 1) rfl))
  have N14 := Fr.snoc X12 N9 g_pri
  have Vw12 : Arl Z h12 pri .double [(.double FP.dconst0), (.double FP.dconst0), (.double (0 : UInt64)), (.double (0 : UInt64)), (.double (0 : UInt64))] := V12
  show Wlk p.tables e below (T12.setTop (mkF m 23 #[rv a, iv (0 : Int32)] [])) K
  have f15 : Fld Z h12 a "com/example/wardwise/wardwise/solver/LimitPrices" "pricesMinutes" "Z" (.int (0 : Int32)) := ((Fw1.other W7 (Or.inl ne_a_pri)).other W12 (Or.inl ne_a_pri))
  have f16 : Fld Z h12 a "com/example/wardwise/wardwise/solver/LimitPrices" "minuteScale" "D" (.double sc) := (((F_a_minuteScale.other W1 (Or.inr (slot_ne (Or.inr (wd hw 13 rfl)) (Or.inl (wd hw 11 rfl)) (by decide) (t := .double) (t' := .boolean) (by decide) (by decide)))).other W7 (Or.inl ne_a_pri)).other W12 (Or.inl ne_a_pri))
  have f17 : Fld Z h12 a "com/example/wardwise/wardwise/solver/LimitPrices" "maxMinutes" "J" (.long mx) := (((F_a_maxMinutes.other W1 (Or.inr (slot_ne (Or.inr (wd hw 15 rfl)) (Or.inl (wd hw 11 rfl)) (by decide) (t := .long) (t' := .boolean) (by decide) (by decide)))).other W7 (Or.inl ne_a_pri)).other W12 (Or.inl ne_a_pri))
  have f18 : Fld Z h12 a "com/example/wardwise/wardwise/solver/LimitPrices" "minMinutes" "J" (.long mi) := (((F_a_minMinutes.other W1 (Or.inr (slot_ne (Or.inr (wd hw 17 rfl)) (Or.inl (wd hw 11 rfl)) (by decide) (t := .long) (t' := .boolean) (by decide) (by decide)))).other W7 (Or.inl ne_a_pri)).other W12 (Or.inl ne_a_pri))
  have f19 : Fld Z h12 a "com/example/wardwise/wardwise/solver/LimitPrices" "maxWeekends" "I" (.int mw) := (((F_a_maxWeekends.other W1 (Or.inr (slot_ne (Or.inr (wd hw 19 rfl)) (Or.inl (wd hw 11 rfl)) (by decide) (t := .int) (t' := .boolean) (by decide) (by decide)))).other W7 (Or.inl ne_a_pri)).other W12 (Or.inl ne_a_pri))
  have f20 : Fld Z h12 a "com/example/wardwise/wardwise/solver/LimitPrices" "limits" "[I" (.ref lim) := (((F_a_limits.other W1 (Or.inr (slot_ne (Or.inr (wd hw 21 rfl)) (Or.inl (wd hw 11 rfl)) (by decide) (t := (.array .int)) (t' := .boolean) (by decide) (by decide)))).other W7 (Or.inl ne_a_pri)).other W12 (Or.inl ne_a_pri))
  have f21 : Fld Z h12 a "com/example/wardwise/wardwise/solver/LimitPrices" "price" "[D" (.ref pri) := (f10.other W12 (Or.inl ne_a_pri))
  have f22 : Fld Z h12 a "com/example/wardwise/wardwise/solver/LimitPrices" "stepSize" "[D" (.ref stp) := (((F_a_stepSize.other W1 (Or.inr (slot_ne (Or.inr (wd hw 26 rfl)) (Or.inl (wd hw 11 rfl)) (by decide) (t := (.array .double)) (t' := .boolean) (by decide) (by decide)))).other W7 (Or.inl ne_a_pri)).other W12 (Or.inl ne_a_pri))
  have f23 : Fld Z h12 a "com/example/wardwise/wardwise/solver/LimitPrices" "lastSide" "[I" (.ref lst) := (((F_a_lastSide.other W1 (Or.inr (slot_ne (Or.inr (wd hw 28 rfl)) (Or.inl (wd hw 11 rfl)) (by decide) (t := (.array .int)) (t' := .boolean) (by decide) (by decide)))).other W7 (Or.inl ne_a_pri)).other W12 (Or.inl ne_a_pri))
  refine hK none X12 (fun q => rfl) (fun fs hr => X12.returnOut hx hret (hb hby d9_23) hr) ?_ (by decide) (by decide)
  rw [show T12.heap = h12 from e12]
  exact ⟨rfl, N14, K13, f15, f16, f17, f18, f19, f20, f21, f22, f23, Vw12⟩
theorem d3_0 : decode prog_41_method_11_code 0 = .ok (.iconst 0, 1) := by decide +kernel
theorem d3_1 : decode prog_41_method_11_code 1 = .ok (.istore_n 3, 1) := by decide +kernel
theorem d3_2 : decode prog_41_method_11_code 2 = .ok (.iload_n 3, 1) := by decide +kernel
theorem d3_3 : decode prog_41_method_11_code 3 = .ok (.aload_n 0, 1) := by decide +kernel
theorem d3_4 : decode prog_41_method_11_code 4 = .ok (.getfield 32, 3) := by decide +kernel
theorem d3_7 : decode prog_41_method_11_code 7 = .ok (.arraylength, 1) := by decide +kernel
theorem d3_8 : decode prog_41_method_11_code 8 = .ok (.if_icmp .ge 27, 3) := by decide +kernel
theorem d3_11 : decode prog_41_method_11_code 11 = .ok (.aload_n 0, 1) := by decide +kernel
theorem d3_12 : decode prog_41_method_11_code 12 = .ok (.getfield 36, 3) := by decide +kernel
theorem d3_15 : decode prog_41_method_11_code 15 = .ok (.iload_n 3, 1) := by decide +kernel
theorem d3_16 : decode prog_41_method_11_code 16 = .ok (.ldc2_w 48, 3) := by decide +kernel
theorem d3_19 : decode prog_41_method_11_code 19 = .ok (.dload_n 1, 1) := by decide +kernel
theorem d3_20 : decode prog_41_method_11_code 20 = .ok (.dmul, 1) := by decide +kernel
theorem d3_21 : decode prog_41_method_11_code 21 = .ok (.dastore, 1) := by decide +kernel
theorem d3_22 : decode prog_41_method_11_code 22 = .ok (.aload_n 0, 1) := by decide +kernel
theorem d3_23 : decode prog_41_method_11_code 23 = .ok (.getfield 39, 3) := by decide +kernel
theorem d3_26 : decode prog_41_method_11_code 26 = .ok (.iload_n 3, 1) := by decide +kernel
theorem d3_27 : decode prog_41_method_11_code 27 = .ok (.iconst 0, 1) := by decide +kernel
theorem d3_28 : decode prog_41_method_11_code 28 = .ok (.iastore, 1) := by decide +kernel
theorem d3_29 : decode prog_41_method_11_code 29 = .ok (.iinc 3 1, 3) := by decide +kernel
theorem d3_32 : decode prog_41_method_11_code 32 = .ok (.goto (-30), 3) := by decide +kernel
theorem d3_35 : decode prog_41_method_11_code 35 = .ok (.return_, 1) := by decide +kernel
theorem ef_rmS (m : MethodId) (a : Addr) (u : UInt64) : entryFrame m #[(.ref a), (.double u)] 4 = mkF m 0 #[rv a, dv u, sd, un] [] := by first | (simp [entryFrame, mkF, argsToLocals, Value.category]; done) | rfl
def Q_rmS (Z : State) (a : Addr) (u : UInt64) (pri : Addr) (stp : Addr) (lst : Addr) (h0 : Heap) (n0 : Nat) (v : Option Value) (h : Heap) (L : List Loc) : Prop := v = none ∧ Fr n0 L ∧ Keep h0 h [stp, lst] ∧ Arl Z h stp .double [(.double (FP.dmul (4598175219545276416 : UInt64) u)), (.double (FP.dmul (4598175219545276416 : UInt64) u)), (.double (FP.dmul (4598175219545276416 : UInt64) u)), (.double (FP.dmul (4598175219545276416 : UInt64) u)), (.double (FP.dmul (4598175219545276416 : UInt64) u))] ∧ Arl Z h lst .int [(.int (0 : Int32)), (.int (0 : Int32)), (.int (0 : Int32)), (.int (0 : Int32)), (.int (0 : Int32))]
set_option maxRecDepth 65536 in
set_option maxHeartbeats 40000000 in
theorem rmS (l : Launch) (Z : State) (a0 : Array Value) (hw : ∀ d ∈ tables_1, d.before a0 Z = true) (a : Addr) (u : UInt64) (pri : Addr) (stp : Addr) (lst : Addr) (h0 : Heap) (n0 : Nat) (Z0 : n0 ≤ h0.size) (F_a_price : Fld Z h0 a "com/example/wardwise/wardwise/solver/LimitPrices" "price" "[D" (.ref pri)) (F_a_stepSize : Fld Z h0 a "com/example/wardwise/wardwise/solver/LimitPrices" "stepSize" "[D" (.ref stp)) (F_a_lastSide : Fld Z h0 a "com/example/wardwise/wardwise/solver/LimitPrices" "lastSide" "[I" (.ref lst)) (A_pri : Arl Z h0 pri .double [(.double (0 : UInt64)), (.double (0 : UInt64)), (.double (0 : UInt64)), (.double (0 : UInt64)), (.double (0 : UInt64))]) (A_stp : Arl Z h0 stp .double [(.double (0 : UInt64)), (.double (0 : UInt64)), (.double (0 : UInt64)), (.double (0 : UInt64)), (.double (0 : UInt64))]) (A_lst : Arl Z h0 lst .int [(.int (0 : Int32)), (.int (0 : Int32)), (.int (0 : Int32)), (.int (0 : Int32)), (.int (0 : Int32))]) (ne_a_pri : a ≠ pri) (ne_a_stp : a ≠ stp) (ne_a_lst : a ≠ lst) (ne_pri_stp : pri ≠ stp) (ne_pri_lst : pri ≠ lst) (ne_stp_lst : stp ≠ lst) (g_stp : n0 ≤ stp) (g_lst : n0 ≤ lst) (nq : Fl.NoNaN64 (FP.dmul (4598175219545276416 : UInt64) u)) :
    Ctr l Z h0 (⟨"com/example/wardwise/wardwise/solver/LimitPrices", "startSteps", "(D)V"⟩ : MethodName) prog_41_method_11_code 4 none [] ({ frames := 0, cells := 0, slots := 0, locals := 0 } : Room) #[(.ref a), (.double u)] (Q_rmS Z a u pri stp lst h0 n0) := by
  refine Ctr.make (plainFor_of_name pn_40) fun p e s m below meth c s₁ K hret hml hx hby hown hnm hZ X0 e0 hK => ?_
  have hown : s.vm.findClass "com/example/wardwise/wardwise/solver/LimitPrices" = some m.cls := hown
  have N0 := Fr.nil n0
  have K0 : Keep h0 h0 [stp, lst] := Keep.refl _ _
  refine Wlk.of (fun _ k => castTop (ef_rmS m a u) k) ?_
  show Wlk p.tables e below (s₁.setTop (mkF m 0 #[rv a, dv u, sd, un] [])) K
  refine Wlk.of (fun _ k => XS.iconst X0.here hx rfl (hb hby d3_0) k) ?_
  show Wlk p.tables e below (s₁.setTop (mkF m 1 #[rv a, dv u, sd, un] [(.int (0 : Int32))])) K
  refine Wlk.of (fun _ k => XS.istoreN X0.here hx rfl (hb hby d3_1) rfl (l' := #[rv a, dv u, sd, iv (0 : Int32)]) rfl k) ?_
  show Wlk p.tables e below (s₁.setTop (mkF m 2 #[rv a, dv u, sd, iv (0 : Int32)] [])) K
  refine Wlk.of (fun _ k => XS.iloadN X0.here hx rfl (hb hby d3_2) rfl k) ?_
  show Wlk p.tables e below (s₁.setTop (mkF m 3 #[rv a, dv u, sd, iv (0 : Int32)] [(.int (0 : Int32))])) K
  refine Wlk.of (fun _ k => XS.aloadN X0.here hx rfl (hb hby d3_3) rfl rfl k) ?_
  show Wlk p.tables e below (s₁.setTop (mkF m 4 #[rv a, dv u, sd, iv (0 : Int32)] [(.ref a), (.int (0 : Int32))])) K
  obtain ⟨T1, X1, e1, st1⟩ := getF X0 hx hZ hown (host := "") (Or.inl (wd hw 23 rfl)) Via.refl e0 F_a_price (g := (mkF m 4 #[rv a, dv u, sd, iv (0 : Int32)] [(.ref a), (.int (0 : Int32))])) rfl rfl (hb hby d3_4)
  refine Wlk.of (fun _ k => st1 _ k) ?_
  show Wlk p.tables e below (T1.setTop (mkF m 7 #[rv a, dv u, sd, iv (0 : Int32)] [(.ref pri), (.int (0 : Int32))])) K
  refine Wlk.of (fun _ k => lenL X1 hx hZ e1 A_pri (n := (5 : Int32)) rfl (g := (mkF m 7 #[rv a, dv u, sd, iv (0 : Int32)] [(.ref pri), (.int (0 : Int32))])) rfl rfl (hb hby d3_7) _ k) ?_
  show Wlk p.tables e below (T1.setTop (mkF m 8 #[rv a, dv u, sd, iv (0 : Int32)] [(.int (5 : Int32)), (.int (0 : Int32))])) K
  refine Wlk.of (fun _ k => XS.icmpNo X1.here hx rfl (hb hby d3_8) rfl (tlt (by decide : (0 : Int32) < (5 : Int32))).2.1 k) ?_
  show Wlk p.tables e below (T1.setTop (mkF m 11 #[rv a, dv u, sd, iv (0 : Int32)] [])) K
  refine Wlk.of (fun _ k => XS.aloadN X1.here hx rfl (hb hby d3_11) rfl rfl k) ?_
  show Wlk p.tables e below (T1.setTop (mkF m 12 #[rv a, dv u, sd, iv (0 : Int32)] [(.ref a)])) K
  obtain ⟨T2, X2, e2, st2⟩ := getF X1 hx hZ hown (host := "") (Or.inl (wd hw 25 rfl)) Via.refl e1 F_a_stepSize (g := (mkF m 12 #[rv a, dv u, sd, iv (0 : Int32)] [(.ref a)])) rfl rfl (hb hby d3_12)
  refine Wlk.of (fun _ k => st2 _ k) ?_
  show Wlk p.tables e below (T2.setTop (mkF m 15 #[rv a, dv u, sd, iv (0 : Int32)] [(.ref stp)])) K
  refine Wlk.of (fun _ k => XS.iloadN X2.here hx rfl (hb hby d3_15) rfl k) ?_
  show Wlk p.tables e below (T2.setTop (mkF m 16 #[rv a, dv u, sd, iv (0 : Int32)] [(.int (0 : Int32)), (.ref stp)])) K
  refine Wlk.of (fun _ k => X2.ldc2DoubleC hx hown (mvT hZ (wd hw 35 rfl)) (g := (mkF m 16 #[rv a, dv u, sd, iv (0 : Int32)] [(.int (0 : Int32)), (.ref stp)])) rfl (hb hby d3_16) _ k) ?_
  show Wlk p.tables e below (T2.setTop (mkF m 19 #[rv a, dv u, sd, iv (0 : Int32)] [(.double (4598175219545276416 : UInt64)), (.int (0 : Int32)), (.ref stp)])) K
  refine Wlk.of (fun _ k => XS.dloadN X2.here hx rfl (hb hby d3_19) rfl k) ?_
  show Wlk p.tables e below (T2.setTop (mkF m 20 #[rv a, dv u, sd, iv (0 : Int32)] [(.double u), (.double (4598175219545276416 : UInt64)), (.int (0 : Int32)), (.ref stp)])) K
  refine Wlk.of (fun _ k => XS.dmulS X2.here hx rfl (hb hby d3_20) rfl nq rfl k) ?_
  show Wlk p.tables e below (T2.setTop (mkF m 21 #[rv a, dv u, sd, iv (0 : Int32)] [(.double (FP.dmul (4598175219545276416 : UInt64) u)), (.int (0 : Int32)), (.ref stp)])) K
  obtain ⟨T3, h3, X3, e3, W3, V3, st3⟩ := stDl X2 hx hZ e2 A_stp (j := (0 : Int32)) (i := 0) (by decide) (by decide) (show 0 < 5 by decide) (g := (mkF m 21 #[rv a, dv u, sd, iv (0 : Int32)] [(.double (FP.dmul (4598175219545276416 : UInt64) u)), (.int (0 : Int32)), (.ref stp)])) rfl rfl (hb hby d3_21)
  refine Wlk.of (fun _ k => st3 _ k) ?_
  have K4 : Keep h0 h3 [stp, lst] := K0.wr W3 (Or.inl (List.mem_of_getElem? (i := 0) rfl))
  have N5 := Fr.snoc X3 N0 g_stp
  have Vw3 : Arl Z h3 stp .double [(.double (FP.dmul (4598175219545276416 : UInt64) u)), (.double (0 : UInt64)), (.double (0 : UInt64)), (.double (0 : UInt64)), (.double (0 : UInt64))] := V3
  show Wlk p.tables e below (T3.setTop (mkF m 22 #[rv a, dv u, sd, iv (0 : Int32)] [])) K
  refine Wlk.of (fun _ k => XS.aloadN X3.here hx rfl (hb hby d3_22) rfl rfl k) ?_
  show Wlk p.tables e below (T3.setTop (mkF m 23 #[rv a, dv u, sd, iv (0 : Int32)] [(.ref a)])) K
  have f6 : Fld Z h3 a "com/example/wardwise/wardwise/solver/LimitPrices" "lastSide" "[I" (.ref lst) := (F_a_lastSide.other W3 (Or.inl ne_a_stp))
  obtain ⟨T7, X7, e7, st7⟩ := getF X3 hx hZ hown (host := "") (Or.inl (wd hw 27 rfl)) Via.refl e3 f6 (g := (mkF m 23 #[rv a, dv u, sd, iv (0 : Int32)] [(.ref a)])) rfl rfl (hb hby d3_23)
  refine Wlk.of (fun _ k => st7 _ k) ?_
  show Wlk p.tables e below (T7.setTop (mkF m 26 #[rv a, dv u, sd, iv (0 : Int32)] [(.ref lst)])) K
  refine Wlk.of (fun _ k => XS.iloadN X7.here hx rfl (hb hby d3_26) rfl k) ?_
  show Wlk p.tables e below (T7.setTop (mkF m 27 #[rv a, dv u, sd, iv (0 : Int32)] [(.int (0 : Int32)), (.ref lst)])) K
  refine Wlk.of (fun _ k => XS.iconst X7.here hx rfl (hb hby d3_27) k) ?_
  show Wlk p.tables e below (T7.setTop (mkF m 28 #[rv a, dv u, sd, iv (0 : Int32)] [(.int (0 : Int32)), (.int (0 : Int32)), (.ref lst)])) K
  have f8 : Arl Z h3 lst .int [(.int (0 : Int32)), (.int (0 : Int32)), (.int (0 : Int32)), (.int (0 : Int32)), (.int (0 : Int32))] := (A_lst.other W3 (Ne.symm ne_stp_lst))
  obtain ⟨T9, h9, X9, e9, W9, V9, st9⟩ := stIl X7 hx hZ e7 f8 (j := (0 : Int32)) (i := 0) (by decide) (by decide) (show 0 < 5 by decide) (g := (mkF m 28 #[rv a, dv u, sd, iv (0 : Int32)] [(.int (0 : Int32)), (.int (0 : Int32)), (.ref lst)])) rfl rfl (hb hby d3_28)
  refine Wlk.of (fun _ k => st9 _ k) ?_
  have K10 : Keep h0 h9 [stp, lst] := K4.wr W9 (Or.inl (List.mem_of_getElem? (i := 1) rfl))
  have N11 := Fr.snoc X9 N5 g_lst
  have Vw9 : Arl Z h9 lst .int [(.int (0 : Int32)), (.int (0 : Int32)), (.int (0 : Int32)), (.int (0 : Int32)), (.int (0 : Int32))] := V9
  show Wlk p.tables e below (T9.setTop (mkF m 29 #[rv a, dv u, sd, iv (0 : Int32)] [])) K
  refine Wlk.of (fun _ k => XS.iinc X9.here hx rfl (hb hby d3_29) rfl (l' := #[rv a, dv u, sd, iv (1 : Int32)]) rfl k) ?_
  show Wlk p.tables e below (T9.setTop (mkF m 32 #[rv a, dv u, sd, iv (1 : Int32)] [])) K
  refine Wlk.of (fun _ k => XS.goto X9.here hx rfl (pc0 := 32) (pc' := 2) rfl (hb hby d3_32) (by decide) (by decide) k) ?_
  show Wlk p.tables e below (T9.setTop (mkF m 2 #[rv a, dv u, sd, iv (1 : Int32)] [])) K
  refine Wlk.of (fun _ k => XS.iloadN X9.here hx rfl (hb hby d3_2) rfl k) ?_
  show Wlk p.tables e below (T9.setTop (mkF m 3 #[rv a, dv u, sd, iv (1 : Int32)] [(.int (1 : Int32))])) K
  refine Wlk.of (fun _ k => XS.aloadN X9.here hx rfl (hb hby d3_3) rfl rfl k) ?_
  show Wlk p.tables e below (T9.setTop (mkF m 4 #[rv a, dv u, sd, iv (1 : Int32)] [(.ref a), (.int (1 : Int32))])) K
  have f12 : Fld Z h9 a "com/example/wardwise/wardwise/solver/LimitPrices" "price" "[D" (.ref pri) := ((F_a_price.other W3 (Or.inl ne_a_stp)).other W9 (Or.inl ne_a_lst))
  obtain ⟨T13, X13, e13, st13⟩ := getF X9 hx hZ hown (host := "") (Or.inl (wd hw 23 rfl)) Via.refl e9 f12 (g := (mkF m 4 #[rv a, dv u, sd, iv (1 : Int32)] [(.ref a), (.int (1 : Int32))])) rfl rfl (hb hby d3_4)
  refine Wlk.of (fun _ k => st13 _ k) ?_
  show Wlk p.tables e below (T13.setTop (mkF m 7 #[rv a, dv u, sd, iv (1 : Int32)] [(.ref pri), (.int (1 : Int32))])) K
  have f14 : Arl Z h9 pri .double [(.double (0 : UInt64)), (.double (0 : UInt64)), (.double (0 : UInt64)), (.double (0 : UInt64)), (.double (0 : UInt64))] := ((A_pri.other W3 ne_pri_stp).other W9 ne_pri_lst)
  refine Wlk.of (fun _ k => lenL X13 hx hZ e13 f14 (n := (5 : Int32)) rfl (g := (mkF m 7 #[rv a, dv u, sd, iv (1 : Int32)] [(.ref pri), (.int (1 : Int32))])) rfl rfl (hb hby d3_7) _ k) ?_
  show Wlk p.tables e below (T13.setTop (mkF m 8 #[rv a, dv u, sd, iv (1 : Int32)] [(.int (5 : Int32)), (.int (1 : Int32))])) K
  refine Wlk.of (fun _ k => XS.icmpNo X13.here hx rfl (hb hby d3_8) rfl (tlt (by decide : (1 : Int32) < (5 : Int32))).2.1 k) ?_
  show Wlk p.tables e below (T13.setTop (mkF m 11 #[rv a, dv u, sd, iv (1 : Int32)] [])) K
  refine Wlk.of (fun _ k => XS.aloadN X13.here hx rfl (hb hby d3_11) rfl rfl k) ?_
  show Wlk p.tables e below (T13.setTop (mkF m 12 #[rv a, dv u, sd, iv (1 : Int32)] [(.ref a)])) K
  have f15 : Fld Z h9 a "com/example/wardwise/wardwise/solver/LimitPrices" "stepSize" "[D" (.ref stp) := ((F_a_stepSize.other W3 (Or.inl ne_a_stp)).other W9 (Or.inl ne_a_lst))
  obtain ⟨T16, X16, e16, st16⟩ := getF X13 hx hZ hown (host := "") (Or.inl (wd hw 25 rfl)) Via.refl e13 f15 (g := (mkF m 12 #[rv a, dv u, sd, iv (1 : Int32)] [(.ref a)])) rfl rfl (hb hby d3_12)
  refine Wlk.of (fun _ k => st16 _ k) ?_
  show Wlk p.tables e below (T16.setTop (mkF m 15 #[rv a, dv u, sd, iv (1 : Int32)] [(.ref stp)])) K
  refine Wlk.of (fun _ k => XS.iloadN X16.here hx rfl (hb hby d3_15) rfl k) ?_
  show Wlk p.tables e below (T16.setTop (mkF m 16 #[rv a, dv u, sd, iv (1 : Int32)] [(.int (1 : Int32)), (.ref stp)])) K
  refine Wlk.of (fun _ k => X16.ldc2DoubleC hx hown (mvT hZ (wd hw 35 rfl)) (g := (mkF m 16 #[rv a, dv u, sd, iv (1 : Int32)] [(.int (1 : Int32)), (.ref stp)])) rfl (hb hby d3_16) _ k) ?_
  show Wlk p.tables e below (T16.setTop (mkF m 19 #[rv a, dv u, sd, iv (1 : Int32)] [(.double (4598175219545276416 : UInt64)), (.int (1 : Int32)), (.ref stp)])) K
  refine Wlk.of (fun _ k => XS.dloadN X16.here hx rfl (hb hby d3_19) rfl k) ?_
  show Wlk p.tables e below (T16.setTop (mkF m 20 #[rv a, dv u, sd, iv (1 : Int32)] [(.double u), (.double (4598175219545276416 : UInt64)), (.int (1 : Int32)), (.ref stp)])) K
  refine Wlk.of (fun _ k => XS.dmulS X16.here hx rfl (hb hby d3_20) rfl nq rfl k) ?_
  show Wlk p.tables e below (T16.setTop (mkF m 21 #[rv a, dv u, sd, iv (1 : Int32)] [(.double (FP.dmul (4598175219545276416 : UInt64) u)), (.int (1 : Int32)), (.ref stp)])) K
  have f17 : Arl Z h9 stp .double [(.double (FP.dmul (4598175219545276416 : UInt64) u)), (.double (0 : UInt64)), (.double (0 : UInt64)), (.double (0 : UInt64)), (.double (0 : UInt64))] := (Vw3.other W9 ne_stp_lst)
  obtain ⟨T18, h18, X18, e18, W18, V18, st18⟩ := stDl X16 hx hZ e16 f17 (j := (1 : Int32)) (i := 1) (by decide) (by decide) (show 1 < 5 by decide) (g := (mkF m 21 #[rv a, dv u, sd, iv (1 : Int32)] [(.double (FP.dmul (4598175219545276416 : UInt64) u)), (.int (1 : Int32)), (.ref stp)])) rfl rfl (hb hby d3_21)
  refine Wlk.of (fun _ k => st18 _ k) ?_
  have K19 : Keep h0 h18 [stp, lst] := K10.wr W18 (Or.inl (List.mem_of_getElem? (i := 0) rfl))
  have N20 := Fr.snoc X18 N11 g_stp
  have Vw18 : Arl Z h18 stp .double [(.double (FP.dmul (4598175219545276416 : UInt64) u)), (.double (FP.dmul (4598175219545276416 : UInt64) u)), (.double (0 : UInt64)), (.double (0 : UInt64)), (.double (0 : UInt64))] := V18
  show Wlk p.tables e below (T18.setTop (mkF m 22 #[rv a, dv u, sd, iv (1 : Int32)] [])) K
  refine Wlk.of (fun _ k => XS.aloadN X18.here hx rfl (hb hby d3_22) rfl rfl k) ?_
  show Wlk p.tables e below (T18.setTop (mkF m 23 #[rv a, dv u, sd, iv (1 : Int32)] [(.ref a)])) K
  have f21 : Fld Z h18 a "com/example/wardwise/wardwise/solver/LimitPrices" "lastSide" "[I" (.ref lst) := ((f6.other W9 (Or.inl ne_a_lst)).other W18 (Or.inl ne_a_stp))
  obtain ⟨T22, X22, e22, st22⟩ := getF X18 hx hZ hown (host := "") (Or.inl (wd hw 27 rfl)) Via.refl e18 f21 (g := (mkF m 23 #[rv a, dv u, sd, iv (1 : Int32)] [(.ref a)])) rfl rfl (hb hby d3_23)
  refine Wlk.of (fun _ k => st22 _ k) ?_
  show Wlk p.tables e below (T22.setTop (mkF m 26 #[rv a, dv u, sd, iv (1 : Int32)] [(.ref lst)])) K
  refine Wlk.of (fun _ k => XS.iloadN X22.here hx rfl (hb hby d3_26) rfl k) ?_
  show Wlk p.tables e below (T22.setTop (mkF m 27 #[rv a, dv u, sd, iv (1 : Int32)] [(.int (1 : Int32)), (.ref lst)])) K
  refine Wlk.of (fun _ k => XS.iconst X22.here hx rfl (hb hby d3_27) k) ?_
  show Wlk p.tables e below (T22.setTop (mkF m 28 #[rv a, dv u, sd, iv (1 : Int32)] [(.int (0 : Int32)), (.int (1 : Int32)), (.ref lst)])) K
  have f23 : Arl Z h18 lst .int [(.int (0 : Int32)), (.int (0 : Int32)), (.int (0 : Int32)), (.int (0 : Int32)), (.int (0 : Int32))] := (Vw9.other W18 (Ne.symm ne_stp_lst))
  obtain ⟨T24, h24, X24, e24, W24, V24, st24⟩ := stIl X22 hx hZ e22 f23 (j := (1 : Int32)) (i := 1) (by decide) (by decide) (show 1 < 5 by decide) (g := (mkF m 28 #[rv a, dv u, sd, iv (1 : Int32)] [(.int (0 : Int32)), (.int (1 : Int32)), (.ref lst)])) rfl rfl (hb hby d3_28)
  refine Wlk.of (fun _ k => st24 _ k) ?_
  have K25 : Keep h0 h24 [stp, lst] := K19.wr W24 (Or.inl (List.mem_of_getElem? (i := 1) rfl))
  have N26 := Fr.snoc X24 N20 g_lst
  have Vw24 : Arl Z h24 lst .int [(.int (0 : Int32)), (.int (0 : Int32)), (.int (0 : Int32)), (.int (0 : Int32)), (.int (0 : Int32))] := V24
  show Wlk p.tables e below (T24.setTop (mkF m 29 #[rv a, dv u, sd, iv (1 : Int32)] [])) K
  refine Wlk.of (fun _ k => XS.iinc X24.here hx rfl (hb hby d3_29) rfl (l' := #[rv a, dv u, sd, iv (2 : Int32)]) rfl k) ?_
  show Wlk p.tables e below (T24.setTop (mkF m 32 #[rv a, dv u, sd, iv (2 : Int32)] [])) K
  refine Wlk.of (fun _ k => XS.goto X24.here hx rfl (pc0 := 32) (pc' := 2) rfl (hb hby d3_32) (by decide) (by decide) k) ?_
  show Wlk p.tables e below (T24.setTop (mkF m 2 #[rv a, dv u, sd, iv (2 : Int32)] [])) K
  refine Wlk.of (fun _ k => XS.iloadN X24.here hx rfl (hb hby d3_2) rfl k) ?_
  show Wlk p.tables e below (T24.setTop (mkF m 3 #[rv a, dv u, sd, iv (2 : Int32)] [(.int (2 : Int32))])) K
  refine Wlk.of (fun _ k => XS.aloadN X24.here hx rfl (hb hby d3_3) rfl rfl k) ?_
  show Wlk p.tables e below (T24.setTop (mkF m 4 #[rv a, dv u, sd, iv (2 : Int32)] [(.ref a), (.int (2 : Int32))])) K
  have f27 : Fld Z h24 a "com/example/wardwise/wardwise/solver/LimitPrices" "price" "[D" (.ref pri) := ((f12.other W18 (Or.inl ne_a_stp)).other W24 (Or.inl ne_a_lst))
  obtain ⟨T28, X28, e28, st28⟩ := getF X24 hx hZ hown (host := "") (Or.inl (wd hw 23 rfl)) Via.refl e24 f27 (g := (mkF m 4 #[rv a, dv u, sd, iv (2 : Int32)] [(.ref a), (.int (2 : Int32))])) rfl rfl (hb hby d3_4)
  refine Wlk.of (fun _ k => st28 _ k) ?_
  show Wlk p.tables e below (T28.setTop (mkF m 7 #[rv a, dv u, sd, iv (2 : Int32)] [(.ref pri), (.int (2 : Int32))])) K
  have f29 : Arl Z h24 pri .double [(.double (0 : UInt64)), (.double (0 : UInt64)), (.double (0 : UInt64)), (.double (0 : UInt64)), (.double (0 : UInt64))] := ((f14.other W18 ne_pri_stp).other W24 ne_pri_lst)
  refine Wlk.of (fun _ k => lenL X28 hx hZ e28 f29 (n := (5 : Int32)) rfl (g := (mkF m 7 #[rv a, dv u, sd, iv (2 : Int32)] [(.ref pri), (.int (2 : Int32))])) rfl rfl (hb hby d3_7) _ k) ?_
  show Wlk p.tables e below (T28.setTop (mkF m 8 #[rv a, dv u, sd, iv (2 : Int32)] [(.int (5 : Int32)), (.int (2 : Int32))])) K
  refine Wlk.of (fun _ k => XS.icmpNo X28.here hx rfl (hb hby d3_8) rfl (tlt (by decide : (2 : Int32) < (5 : Int32))).2.1 k) ?_
  show Wlk p.tables e below (T28.setTop (mkF m 11 #[rv a, dv u, sd, iv (2 : Int32)] [])) K
  refine Wlk.of (fun _ k => XS.aloadN X28.here hx rfl (hb hby d3_11) rfl rfl k) ?_
  show Wlk p.tables e below (T28.setTop (mkF m 12 #[rv a, dv u, sd, iv (2 : Int32)] [(.ref a)])) K
  have f30 : Fld Z h24 a "com/example/wardwise/wardwise/solver/LimitPrices" "stepSize" "[D" (.ref stp) := ((f15.other W18 (Or.inl ne_a_stp)).other W24 (Or.inl ne_a_lst))
  obtain ⟨T31, X31, e31, st31⟩ := getF X28 hx hZ hown (host := "") (Or.inl (wd hw 25 rfl)) Via.refl e28 f30 (g := (mkF m 12 #[rv a, dv u, sd, iv (2 : Int32)] [(.ref a)])) rfl rfl (hb hby d3_12)
  refine Wlk.of (fun _ k => st31 _ k) ?_
  show Wlk p.tables e below (T31.setTop (mkF m 15 #[rv a, dv u, sd, iv (2 : Int32)] [(.ref stp)])) K
  refine Wlk.of (fun _ k => XS.iloadN X31.here hx rfl (hb hby d3_15) rfl k) ?_
  show Wlk p.tables e below (T31.setTop (mkF m 16 #[rv a, dv u, sd, iv (2 : Int32)] [(.int (2 : Int32)), (.ref stp)])) K
  refine Wlk.of (fun _ k => X31.ldc2DoubleC hx hown (mvT hZ (wd hw 35 rfl)) (g := (mkF m 16 #[rv a, dv u, sd, iv (2 : Int32)] [(.int (2 : Int32)), (.ref stp)])) rfl (hb hby d3_16) _ k) ?_
  show Wlk p.tables e below (T31.setTop (mkF m 19 #[rv a, dv u, sd, iv (2 : Int32)] [(.double (4598175219545276416 : UInt64)), (.int (2 : Int32)), (.ref stp)])) K
  refine Wlk.of (fun _ k => XS.dloadN X31.here hx rfl (hb hby d3_19) rfl k) ?_
  show Wlk p.tables e below (T31.setTop (mkF m 20 #[rv a, dv u, sd, iv (2 : Int32)] [(.double u), (.double (4598175219545276416 : UInt64)), (.int (2 : Int32)), (.ref stp)])) K
  refine Wlk.of (fun _ k => XS.dmulS X31.here hx rfl (hb hby d3_20) rfl nq rfl k) ?_
  show Wlk p.tables e below (T31.setTop (mkF m 21 #[rv a, dv u, sd, iv (2 : Int32)] [(.double (FP.dmul (4598175219545276416 : UInt64) u)), (.int (2 : Int32)), (.ref stp)])) K
  have f32 : Arl Z h24 stp .double [(.double (FP.dmul (4598175219545276416 : UInt64) u)), (.double (FP.dmul (4598175219545276416 : UInt64) u)), (.double (0 : UInt64)), (.double (0 : UInt64)), (.double (0 : UInt64))] := (Vw18.other W24 ne_stp_lst)
  obtain ⟨T33, h33, X33, e33, W33, V33, st33⟩ := stDl X31 hx hZ e31 f32 (j := (2 : Int32)) (i := 2) (by decide) (by decide) (show 2 < 5 by decide) (g := (mkF m 21 #[rv a, dv u, sd, iv (2 : Int32)] [(.double (FP.dmul (4598175219545276416 : UInt64) u)), (.int (2 : Int32)), (.ref stp)])) rfl rfl (hb hby d3_21)
  refine Wlk.of (fun _ k => st33 _ k) ?_
  have K34 : Keep h0 h33 [stp, lst] := K25.wr W33 (Or.inl (List.mem_of_getElem? (i := 0) rfl))
  have N35 := Fr.snoc X33 N26 g_stp
  have Vw33 : Arl Z h33 stp .double [(.double (FP.dmul (4598175219545276416 : UInt64) u)), (.double (FP.dmul (4598175219545276416 : UInt64) u)), (.double (FP.dmul (4598175219545276416 : UInt64) u)), (.double (0 : UInt64)), (.double (0 : UInt64))] := V33
  show Wlk p.tables e below (T33.setTop (mkF m 22 #[rv a, dv u, sd, iv (2 : Int32)] [])) K
  refine Wlk.of (fun _ k => XS.aloadN X33.here hx rfl (hb hby d3_22) rfl rfl k) ?_
  show Wlk p.tables e below (T33.setTop (mkF m 23 #[rv a, dv u, sd, iv (2 : Int32)] [(.ref a)])) K
  have f36 : Fld Z h33 a "com/example/wardwise/wardwise/solver/LimitPrices" "lastSide" "[I" (.ref lst) := ((f21.other W24 (Or.inl ne_a_lst)).other W33 (Or.inl ne_a_stp))
  obtain ⟨T37, X37, e37, st37⟩ := getF X33 hx hZ hown (host := "") (Or.inl (wd hw 27 rfl)) Via.refl e33 f36 (g := (mkF m 23 #[rv a, dv u, sd, iv (2 : Int32)] [(.ref a)])) rfl rfl (hb hby d3_23)
  refine Wlk.of (fun _ k => st37 _ k) ?_
  show Wlk p.tables e below (T37.setTop (mkF m 26 #[rv a, dv u, sd, iv (2 : Int32)] [(.ref lst)])) K
  refine Wlk.of (fun _ k => XS.iloadN X37.here hx rfl (hb hby d3_26) rfl k) ?_
  show Wlk p.tables e below (T37.setTop (mkF m 27 #[rv a, dv u, sd, iv (2 : Int32)] [(.int (2 : Int32)), (.ref lst)])) K
  refine Wlk.of (fun _ k => XS.iconst X37.here hx rfl (hb hby d3_27) k) ?_
  show Wlk p.tables e below (T37.setTop (mkF m 28 #[rv a, dv u, sd, iv (2 : Int32)] [(.int (0 : Int32)), (.int (2 : Int32)), (.ref lst)])) K
  have f38 : Arl Z h33 lst .int [(.int (0 : Int32)), (.int (0 : Int32)), (.int (0 : Int32)), (.int (0 : Int32)), (.int (0 : Int32))] := (Vw24.other W33 (Ne.symm ne_stp_lst))
  obtain ⟨T39, h39, X39, e39, W39, V39, st39⟩ := stIl X37 hx hZ e37 f38 (j := (2 : Int32)) (i := 2) (by decide) (by decide) (show 2 < 5 by decide) (g := (mkF m 28 #[rv a, dv u, sd, iv (2 : Int32)] [(.int (0 : Int32)), (.int (2 : Int32)), (.ref lst)])) rfl rfl (hb hby d3_28)
  refine Wlk.of (fun _ k => st39 _ k) ?_
  have K40 : Keep h0 h39 [stp, lst] := K34.wr W39 (Or.inl (List.mem_of_getElem? (i := 1) rfl))
  have N41 := Fr.snoc X39 N35 g_lst
  have Vw39 : Arl Z h39 lst .int [(.int (0 : Int32)), (.int (0 : Int32)), (.int (0 : Int32)), (.int (0 : Int32)), (.int (0 : Int32))] := V39
  show Wlk p.tables e below (T39.setTop (mkF m 29 #[rv a, dv u, sd, iv (2 : Int32)] [])) K
  refine Wlk.of (fun _ k => XS.iinc X39.here hx rfl (hb hby d3_29) rfl (l' := #[rv a, dv u, sd, iv (3 : Int32)]) rfl k) ?_
  show Wlk p.tables e below (T39.setTop (mkF m 32 #[rv a, dv u, sd, iv (3 : Int32)] [])) K
  refine Wlk.of (fun _ k => XS.goto X39.here hx rfl (pc0 := 32) (pc' := 2) rfl (hb hby d3_32) (by decide) (by decide) k) ?_
  show Wlk p.tables e below (T39.setTop (mkF m 2 #[rv a, dv u, sd, iv (3 : Int32)] [])) K
  refine Wlk.of (fun _ k => XS.iloadN X39.here hx rfl (hb hby d3_2) rfl k) ?_
  show Wlk p.tables e below (T39.setTop (mkF m 3 #[rv a, dv u, sd, iv (3 : Int32)] [(.int (3 : Int32))])) K
  refine Wlk.of (fun _ k => XS.aloadN X39.here hx rfl (hb hby d3_3) rfl rfl k) ?_
  show Wlk p.tables e below (T39.setTop (mkF m 4 #[rv a, dv u, sd, iv (3 : Int32)] [(.ref a), (.int (3 : Int32))])) K
  have f42 : Fld Z h39 a "com/example/wardwise/wardwise/solver/LimitPrices" "price" "[D" (.ref pri) := ((f27.other W33 (Or.inl ne_a_stp)).other W39 (Or.inl ne_a_lst))
  obtain ⟨T43, X43, e43, st43⟩ := getF X39 hx hZ hown (host := "") (Or.inl (wd hw 23 rfl)) Via.refl e39 f42 (g := (mkF m 4 #[rv a, dv u, sd, iv (3 : Int32)] [(.ref a), (.int (3 : Int32))])) rfl rfl (hb hby d3_4)
  refine Wlk.of (fun _ k => st43 _ k) ?_
  show Wlk p.tables e below (T43.setTop (mkF m 7 #[rv a, dv u, sd, iv (3 : Int32)] [(.ref pri), (.int (3 : Int32))])) K
  have f44 : Arl Z h39 pri .double [(.double (0 : UInt64)), (.double (0 : UInt64)), (.double (0 : UInt64)), (.double (0 : UInt64)), (.double (0 : UInt64))] := ((f29.other W33 ne_pri_stp).other W39 ne_pri_lst)
  refine Wlk.of (fun _ k => lenL X43 hx hZ e43 f44 (n := (5 : Int32)) rfl (g := (mkF m 7 #[rv a, dv u, sd, iv (3 : Int32)] [(.ref pri), (.int (3 : Int32))])) rfl rfl (hb hby d3_7) _ k) ?_
  show Wlk p.tables e below (T43.setTop (mkF m 8 #[rv a, dv u, sd, iv (3 : Int32)] [(.int (5 : Int32)), (.int (3 : Int32))])) K
  refine Wlk.of (fun _ k => XS.icmpNo X43.here hx rfl (hb hby d3_8) rfl (tlt (by decide : (3 : Int32) < (5 : Int32))).2.1 k) ?_
  show Wlk p.tables e below (T43.setTop (mkF m 11 #[rv a, dv u, sd, iv (3 : Int32)] [])) K
  refine Wlk.of (fun _ k => XS.aloadN X43.here hx rfl (hb hby d3_11) rfl rfl k) ?_
  show Wlk p.tables e below (T43.setTop (mkF m 12 #[rv a, dv u, sd, iv (3 : Int32)] [(.ref a)])) K
  have f45 : Fld Z h39 a "com/example/wardwise/wardwise/solver/LimitPrices" "stepSize" "[D" (.ref stp) := ((f30.other W33 (Or.inl ne_a_stp)).other W39 (Or.inl ne_a_lst))
  obtain ⟨T46, X46, e46, st46⟩ := getF X43 hx hZ hown (host := "") (Or.inl (wd hw 25 rfl)) Via.refl e43 f45 (g := (mkF m 12 #[rv a, dv u, sd, iv (3 : Int32)] [(.ref a)])) rfl rfl (hb hby d3_12)
  refine Wlk.of (fun _ k => st46 _ k) ?_
  show Wlk p.tables e below (T46.setTop (mkF m 15 #[rv a, dv u, sd, iv (3 : Int32)] [(.ref stp)])) K
  refine Wlk.of (fun _ k => XS.iloadN X46.here hx rfl (hb hby d3_15) rfl k) ?_
  show Wlk p.tables e below (T46.setTop (mkF m 16 #[rv a, dv u, sd, iv (3 : Int32)] [(.int (3 : Int32)), (.ref stp)])) K
  refine Wlk.of (fun _ k => X46.ldc2DoubleC hx hown (mvT hZ (wd hw 35 rfl)) (g := (mkF m 16 #[rv a, dv u, sd, iv (3 : Int32)] [(.int (3 : Int32)), (.ref stp)])) rfl (hb hby d3_16) _ k) ?_
  show Wlk p.tables e below (T46.setTop (mkF m 19 #[rv a, dv u, sd, iv (3 : Int32)] [(.double (4598175219545276416 : UInt64)), (.int (3 : Int32)), (.ref stp)])) K
  refine Wlk.of (fun _ k => XS.dloadN X46.here hx rfl (hb hby d3_19) rfl k) ?_
  show Wlk p.tables e below (T46.setTop (mkF m 20 #[rv a, dv u, sd, iv (3 : Int32)] [(.double u), (.double (4598175219545276416 : UInt64)), (.int (3 : Int32)), (.ref stp)])) K
  refine Wlk.of (fun _ k => XS.dmulS X46.here hx rfl (hb hby d3_20) rfl nq rfl k) ?_
  show Wlk p.tables e below (T46.setTop (mkF m 21 #[rv a, dv u, sd, iv (3 : Int32)] [(.double (FP.dmul (4598175219545276416 : UInt64) u)), (.int (3 : Int32)), (.ref stp)])) K
  have f47 : Arl Z h39 stp .double [(.double (FP.dmul (4598175219545276416 : UInt64) u)), (.double (FP.dmul (4598175219545276416 : UInt64) u)), (.double (FP.dmul (4598175219545276416 : UInt64) u)), (.double (0 : UInt64)), (.double (0 : UInt64))] := (Vw33.other W39 ne_stp_lst)
  obtain ⟨T48, h48, X48, e48, W48, V48, st48⟩ := stDl X46 hx hZ e46 f47 (j := (3 : Int32)) (i := 3) (by decide) (by decide) (show 3 < 5 by decide) (g := (mkF m 21 #[rv a, dv u, sd, iv (3 : Int32)] [(.double (FP.dmul (4598175219545276416 : UInt64) u)), (.int (3 : Int32)), (.ref stp)])) rfl rfl (hb hby d3_21)
  refine Wlk.of (fun _ k => st48 _ k) ?_
  have K49 : Keep h0 h48 [stp, lst] := K40.wr W48 (Or.inl (List.mem_of_getElem? (i := 0) rfl))
  have N50 := Fr.snoc X48 N41 g_stp
  have Vw48 : Arl Z h48 stp .double [(.double (FP.dmul (4598175219545276416 : UInt64) u)), (.double (FP.dmul (4598175219545276416 : UInt64) u)), (.double (FP.dmul (4598175219545276416 : UInt64) u)), (.double (FP.dmul (4598175219545276416 : UInt64) u)), (.double (0 : UInt64))] := V48
  show Wlk p.tables e below (T48.setTop (mkF m 22 #[rv a, dv u, sd, iv (3 : Int32)] [])) K
  refine Wlk.of (fun _ k => XS.aloadN X48.here hx rfl (hb hby d3_22) rfl rfl k) ?_
  show Wlk p.tables e below (T48.setTop (mkF m 23 #[rv a, dv u, sd, iv (3 : Int32)] [(.ref a)])) K
  have f51 : Fld Z h48 a "com/example/wardwise/wardwise/solver/LimitPrices" "lastSide" "[I" (.ref lst) := ((f36.other W39 (Or.inl ne_a_lst)).other W48 (Or.inl ne_a_stp))
  obtain ⟨T52, X52, e52, st52⟩ := getF X48 hx hZ hown (host := "") (Or.inl (wd hw 27 rfl)) Via.refl e48 f51 (g := (mkF m 23 #[rv a, dv u, sd, iv (3 : Int32)] [(.ref a)])) rfl rfl (hb hby d3_23)
  refine Wlk.of (fun _ k => st52 _ k) ?_
  show Wlk p.tables e below (T52.setTop (mkF m 26 #[rv a, dv u, sd, iv (3 : Int32)] [(.ref lst)])) K
  refine Wlk.of (fun _ k => XS.iloadN X52.here hx rfl (hb hby d3_26) rfl k) ?_
  show Wlk p.tables e below (T52.setTop (mkF m 27 #[rv a, dv u, sd, iv (3 : Int32)] [(.int (3 : Int32)), (.ref lst)])) K
  refine Wlk.of (fun _ k => XS.iconst X52.here hx rfl (hb hby d3_27) k) ?_
  show Wlk p.tables e below (T52.setTop (mkF m 28 #[rv a, dv u, sd, iv (3 : Int32)] [(.int (0 : Int32)), (.int (3 : Int32)), (.ref lst)])) K
  have f53 : Arl Z h48 lst .int [(.int (0 : Int32)), (.int (0 : Int32)), (.int (0 : Int32)), (.int (0 : Int32)), (.int (0 : Int32))] := (Vw39.other W48 (Ne.symm ne_stp_lst))
  obtain ⟨T54, h54, X54, e54, W54, V54, st54⟩ := stIl X52 hx hZ e52 f53 (j := (3 : Int32)) (i := 3) (by decide) (by decide) (show 3 < 5 by decide) (g := (mkF m 28 #[rv a, dv u, sd, iv (3 : Int32)] [(.int (0 : Int32)), (.int (3 : Int32)), (.ref lst)])) rfl rfl (hb hby d3_28)
  refine Wlk.of (fun _ k => st54 _ k) ?_
  have K55 : Keep h0 h54 [stp, lst] := K49.wr W54 (Or.inl (List.mem_of_getElem? (i := 1) rfl))
  have N56 := Fr.snoc X54 N50 g_lst
  have Vw54 : Arl Z h54 lst .int [(.int (0 : Int32)), (.int (0 : Int32)), (.int (0 : Int32)), (.int (0 : Int32)), (.int (0 : Int32))] := V54
  show Wlk p.tables e below (T54.setTop (mkF m 29 #[rv a, dv u, sd, iv (3 : Int32)] [])) K
  refine Wlk.of (fun _ k => XS.iinc X54.here hx rfl (hb hby d3_29) rfl (l' := #[rv a, dv u, sd, iv (4 : Int32)]) rfl k) ?_
  show Wlk p.tables e below (T54.setTop (mkF m 32 #[rv a, dv u, sd, iv (4 : Int32)] [])) K
  refine Wlk.of (fun _ k => XS.goto X54.here hx rfl (pc0 := 32) (pc' := 2) rfl (hb hby d3_32) (by decide) (by decide) k) ?_
  show Wlk p.tables e below (T54.setTop (mkF m 2 #[rv a, dv u, sd, iv (4 : Int32)] [])) K
  refine Wlk.of (fun _ k => XS.iloadN X54.here hx rfl (hb hby d3_2) rfl k) ?_
  show Wlk p.tables e below (T54.setTop (mkF m 3 #[rv a, dv u, sd, iv (4 : Int32)] [(.int (4 : Int32))])) K
  refine Wlk.of (fun _ k => XS.aloadN X54.here hx rfl (hb hby d3_3) rfl rfl k) ?_
  show Wlk p.tables e below (T54.setTop (mkF m 4 #[rv a, dv u, sd, iv (4 : Int32)] [(.ref a), (.int (4 : Int32))])) K
  have f57 : Fld Z h54 a "com/example/wardwise/wardwise/solver/LimitPrices" "price" "[D" (.ref pri) := ((f42.other W48 (Or.inl ne_a_stp)).other W54 (Or.inl ne_a_lst))
  obtain ⟨T58, X58, e58, st58⟩ := getF X54 hx hZ hown (host := "") (Or.inl (wd hw 23 rfl)) Via.refl e54 f57 (g := (mkF m 4 #[rv a, dv u, sd, iv (4 : Int32)] [(.ref a), (.int (4 : Int32))])) rfl rfl (hb hby d3_4)
  refine Wlk.of (fun _ k => st58 _ k) ?_
  show Wlk p.tables e below (T58.setTop (mkF m 7 #[rv a, dv u, sd, iv (4 : Int32)] [(.ref pri), (.int (4 : Int32))])) K
  have f59 : Arl Z h54 pri .double [(.double (0 : UInt64)), (.double (0 : UInt64)), (.double (0 : UInt64)), (.double (0 : UInt64)), (.double (0 : UInt64))] := ((f44.other W48 ne_pri_stp).other W54 ne_pri_lst)
  refine Wlk.of (fun _ k => lenL X58 hx hZ e58 f59 (n := (5 : Int32)) rfl (g := (mkF m 7 #[rv a, dv u, sd, iv (4 : Int32)] [(.ref pri), (.int (4 : Int32))])) rfl rfl (hb hby d3_7) _ k) ?_
  show Wlk p.tables e below (T58.setTop (mkF m 8 #[rv a, dv u, sd, iv (4 : Int32)] [(.int (5 : Int32)), (.int (4 : Int32))])) K
  refine Wlk.of (fun _ k => XS.icmpNo X58.here hx rfl (hb hby d3_8) rfl (tlt (by decide : (4 : Int32) < (5 : Int32))).2.1 k) ?_
  show Wlk p.tables e below (T58.setTop (mkF m 11 #[rv a, dv u, sd, iv (4 : Int32)] [])) K
  refine Wlk.of (fun _ k => XS.aloadN X58.here hx rfl (hb hby d3_11) rfl rfl k) ?_
  show Wlk p.tables e below (T58.setTop (mkF m 12 #[rv a, dv u, sd, iv (4 : Int32)] [(.ref a)])) K
  have f60 : Fld Z h54 a "com/example/wardwise/wardwise/solver/LimitPrices" "stepSize" "[D" (.ref stp) := ((f45.other W48 (Or.inl ne_a_stp)).other W54 (Or.inl ne_a_lst))
  obtain ⟨T61, X61, e61, st61⟩ := getF X58 hx hZ hown (host := "") (Or.inl (wd hw 25 rfl)) Via.refl e58 f60 (g := (mkF m 12 #[rv a, dv u, sd, iv (4 : Int32)] [(.ref a)])) rfl rfl (hb hby d3_12)
  refine Wlk.of (fun _ k => st61 _ k) ?_
  show Wlk p.tables e below (T61.setTop (mkF m 15 #[rv a, dv u, sd, iv (4 : Int32)] [(.ref stp)])) K
  refine Wlk.of (fun _ k => XS.iloadN X61.here hx rfl (hb hby d3_15) rfl k) ?_
  show Wlk p.tables e below (T61.setTop (mkF m 16 #[rv a, dv u, sd, iv (4 : Int32)] [(.int (4 : Int32)), (.ref stp)])) K
  refine Wlk.of (fun _ k => X61.ldc2DoubleC hx hown (mvT hZ (wd hw 35 rfl)) (g := (mkF m 16 #[rv a, dv u, sd, iv (4 : Int32)] [(.int (4 : Int32)), (.ref stp)])) rfl (hb hby d3_16) _ k) ?_
  show Wlk p.tables e below (T61.setTop (mkF m 19 #[rv a, dv u, sd, iv (4 : Int32)] [(.double (4598175219545276416 : UInt64)), (.int (4 : Int32)), (.ref stp)])) K
  refine Wlk.of (fun _ k => XS.dloadN X61.here hx rfl (hb hby d3_19) rfl k) ?_
  show Wlk p.tables e below (T61.setTop (mkF m 20 #[rv a, dv u, sd, iv (4 : Int32)] [(.double u), (.double (4598175219545276416 : UInt64)), (.int (4 : Int32)), (.ref stp)])) K
  refine Wlk.of (fun _ k => XS.dmulS X61.here hx rfl (hb hby d3_20) rfl nq rfl k) ?_
  show Wlk p.tables e below (T61.setTop (mkF m 21 #[rv a, dv u, sd, iv (4 : Int32)] [(.double (FP.dmul (4598175219545276416 : UInt64) u)), (.int (4 : Int32)), (.ref stp)])) K
  have f62 : Arl Z h54 stp .double [(.double (FP.dmul (4598175219545276416 : UInt64) u)), (.double (FP.dmul (4598175219545276416 : UInt64) u)), (.double (FP.dmul (4598175219545276416 : UInt64) u)), (.double (FP.dmul (4598175219545276416 : UInt64) u)), (.double (0 : UInt64))] := (Vw48.other W54 ne_stp_lst)
  obtain ⟨T63, h63, X63, e63, W63, V63, st63⟩ := stDl X61 hx hZ e61 f62 (j := (4 : Int32)) (i := 4) (by decide) (by decide) (show 4 < 5 by decide) (g := (mkF m 21 #[rv a, dv u, sd, iv (4 : Int32)] [(.double (FP.dmul (4598175219545276416 : UInt64) u)), (.int (4 : Int32)), (.ref stp)])) rfl rfl (hb hby d3_21)
  refine Wlk.of (fun _ k => st63 _ k) ?_
  have K64 : Keep h0 h63 [stp, lst] := K55.wr W63 (Or.inl (List.mem_of_getElem? (i := 0) rfl))
  have N65 := Fr.snoc X63 N56 g_stp
  have Vw63 : Arl Z h63 stp .double [(.double (FP.dmul (4598175219545276416 : UInt64) u)), (.double (FP.dmul (4598175219545276416 : UInt64) u)), (.double (FP.dmul (4598175219545276416 : UInt64) u)), (.double (FP.dmul (4598175219545276416 : UInt64) u)), (.double (FP.dmul (4598175219545276416 : UInt64) u))] := V63
  show Wlk p.tables e below (T63.setTop (mkF m 22 #[rv a, dv u, sd, iv (4 : Int32)] [])) K
  refine Wlk.of (fun _ k => XS.aloadN X63.here hx rfl (hb hby d3_22) rfl rfl k) ?_
  show Wlk p.tables e below (T63.setTop (mkF m 23 #[rv a, dv u, sd, iv (4 : Int32)] [(.ref a)])) K
  have f66 : Fld Z h63 a "com/example/wardwise/wardwise/solver/LimitPrices" "lastSide" "[I" (.ref lst) := ((f51.other W54 (Or.inl ne_a_lst)).other W63 (Or.inl ne_a_stp))
  obtain ⟨T67, X67, e67, st67⟩ := getF X63 hx hZ hown (host := "") (Or.inl (wd hw 27 rfl)) Via.refl e63 f66 (g := (mkF m 23 #[rv a, dv u, sd, iv (4 : Int32)] [(.ref a)])) rfl rfl (hb hby d3_23)
  refine Wlk.of (fun _ k => st67 _ k) ?_
  show Wlk p.tables e below (T67.setTop (mkF m 26 #[rv a, dv u, sd, iv (4 : Int32)] [(.ref lst)])) K
  refine Wlk.of (fun _ k => XS.iloadN X67.here hx rfl (hb hby d3_26) rfl k) ?_
  show Wlk p.tables e below (T67.setTop (mkF m 27 #[rv a, dv u, sd, iv (4 : Int32)] [(.int (4 : Int32)), (.ref lst)])) K
  refine Wlk.of (fun _ k => XS.iconst X67.here hx rfl (hb hby d3_27) k) ?_
  show Wlk p.tables e below (T67.setTop (mkF m 28 #[rv a, dv u, sd, iv (4 : Int32)] [(.int (0 : Int32)), (.int (4 : Int32)), (.ref lst)])) K
  have f68 : Arl Z h63 lst .int [(.int (0 : Int32)), (.int (0 : Int32)), (.int (0 : Int32)), (.int (0 : Int32)), (.int (0 : Int32))] := (Vw54.other W63 (Ne.symm ne_stp_lst))
  obtain ⟨T69, h69, X69, e69, W69, V69, st69⟩ := stIl X67 hx hZ e67 f68 (j := (4 : Int32)) (i := 4) (by decide) (by decide) (show 4 < 5 by decide) (g := (mkF m 28 #[rv a, dv u, sd, iv (4 : Int32)] [(.int (0 : Int32)), (.int (4 : Int32)), (.ref lst)])) rfl rfl (hb hby d3_28)
  refine Wlk.of (fun _ k => st69 _ k) ?_
  have K70 : Keep h0 h69 [stp, lst] := K64.wr W69 (Or.inl (List.mem_of_getElem? (i := 1) rfl))
  have N71 := Fr.snoc X69 N65 g_lst
  have Vw69 : Arl Z h69 lst .int [(.int (0 : Int32)), (.int (0 : Int32)), (.int (0 : Int32)), (.int (0 : Int32)), (.int (0 : Int32))] := V69
  show Wlk p.tables e below (T69.setTop (mkF m 29 #[rv a, dv u, sd, iv (4 : Int32)] [])) K
  refine Wlk.of (fun _ k => XS.iinc X69.here hx rfl (hb hby d3_29) rfl (l' := #[rv a, dv u, sd, iv (5 : Int32)]) rfl k) ?_
  show Wlk p.tables e below (T69.setTop (mkF m 32 #[rv a, dv u, sd, iv (5 : Int32)] [])) K
  refine Wlk.of (fun _ k => XS.goto X69.here hx rfl (pc0 := 32) (pc' := 2) rfl (hb hby d3_32) (by decide) (by decide) k) ?_
  show Wlk p.tables e below (T69.setTop (mkF m 2 #[rv a, dv u, sd, iv (5 : Int32)] [])) K
  refine Wlk.of (fun _ k => XS.iloadN X69.here hx rfl (hb hby d3_2) rfl k) ?_
  show Wlk p.tables e below (T69.setTop (mkF m 3 #[rv a, dv u, sd, iv (5 : Int32)] [(.int (5 : Int32))])) K
  refine Wlk.of (fun _ k => XS.aloadN X69.here hx rfl (hb hby d3_3) rfl rfl k) ?_
  show Wlk p.tables e below (T69.setTop (mkF m 4 #[rv a, dv u, sd, iv (5 : Int32)] [(.ref a), (.int (5 : Int32))])) K
  have f72 : Fld Z h69 a "com/example/wardwise/wardwise/solver/LimitPrices" "price" "[D" (.ref pri) := ((f57.other W63 (Or.inl ne_a_stp)).other W69 (Or.inl ne_a_lst))
  obtain ⟨T73, X73, e73, st73⟩ := getF X69 hx hZ hown (host := "") (Or.inl (wd hw 23 rfl)) Via.refl e69 f72 (g := (mkF m 4 #[rv a, dv u, sd, iv (5 : Int32)] [(.ref a), (.int (5 : Int32))])) rfl rfl (hb hby d3_4)
  refine Wlk.of (fun _ k => st73 _ k) ?_
  show Wlk p.tables e below (T73.setTop (mkF m 7 #[rv a, dv u, sd, iv (5 : Int32)] [(.ref pri), (.int (5 : Int32))])) K
  have f74 : Arl Z h69 pri .double [(.double (0 : UInt64)), (.double (0 : UInt64)), (.double (0 : UInt64)), (.double (0 : UInt64)), (.double (0 : UInt64))] := ((f59.other W63 ne_pri_stp).other W69 ne_pri_lst)
  refine Wlk.of (fun _ k => lenL X73 hx hZ e73 f74 (n := (5 : Int32)) rfl (g := (mkF m 7 #[rv a, dv u, sd, iv (5 : Int32)] [(.ref pri), (.int (5 : Int32))])) rfl rfl (hb hby d3_7) _ k) ?_
  show Wlk p.tables e below (T73.setTop (mkF m 8 #[rv a, dv u, sd, iv (5 : Int32)] [(.int (5 : Int32)), (.int (5 : Int32))])) K
  refine Wlk.of (fun _ k => XS.icmpYes X73.here hx rfl (pc0 := 8) (pc' := 35) rfl (hb hby d3_8) rfl (flt (by decide : ¬ ((5 : Int32) < (5 : Int32)))).2.1 (by decide) (by decide) k) ?_
  show Wlk p.tables e below (T73.setTop (mkF m 35 #[rv a, dv u, sd, iv (5 : Int32)] [])) K
  have f75 : Arl Z h69 stp .double [(.double (FP.dmul (4598175219545276416 : UInt64) u)), (.double (FP.dmul (4598175219545276416 : UInt64) u)), (.double (FP.dmul (4598175219545276416 : UInt64) u)), (.double (FP.dmul (4598175219545276416 : UInt64) u)), (.double (FP.dmul (4598175219545276416 : UInt64) u))] := (Vw63.other W69 ne_stp_lst)
  refine hK none X73 (fun q => rfl) (fun fs hr => X73.returnOut hx hret (hb hby d3_35) hr) ?_ (by decide) (by decide)
  rw [show T73.heap = h69 from e73]
  exact ⟨rfl, N71, K70, f75, Vw69⟩
theorem d6_0 : decode jdk_33_method_56_code 0 = .ok (.iload_n 0, 1) := by decide +kernel
theorem d6_1 : decode jdk_33_method_56_code 1 = .ok (.bipush 31, 2) := by decide +kernel
theorem d6_3 : decode jdk_33_method_56_code 3 = .ok (.ishr, 1) := by decide +kernel
theorem d6_4 : decode jdk_33_method_56_code 4 = .ok (.iload_n 0, 1) := by decide +kernel
theorem d6_5 : decode jdk_33_method_56_code 5 = .ok (.ineg, 1) := by decide +kernel
theorem d6_6 : decode jdk_33_method_56_code 6 = .ok (.bipush 31, 2) := by decide +kernel
theorem d6_8 : decode jdk_33_method_56_code 8 = .ok (.iushr, 1) := by decide +kernel
theorem d6_9 : decode jdk_33_method_56_code 9 = .ok (.ior, 1) := by decide +kernel
theorem d6_10 : decode jdk_33_method_56_code 10 = .ok (.ireturn, 1) := by decide +kernel
theorem pn_88 : plainName "java/lang/Integer" = true := by first | (simp [plainName, overriddenIn]; done) | decide +kernel
theorem ef_rmG (m : MethodId) (d : Int32) : entryFrame m #[(.int d)] 1 = mkF m 0 #[iv d] [] := by first | (simp [entryFrame, mkF, argsToLocals, Value.category]; done) | rfl
def Q_rmG (Z : State) (d : Int32) (h0 : Heap) (n0 : Nat) (v : Option Value) (h : Heap) (L : List Loc) : Prop := v = (some (.int (own_sg d))) ∧ Fr n0 L ∧ h = h0
set_option maxRecDepth 65536 in
set_option maxHeartbeats 40000000 in
theorem rmG (l : Launch) (Z : State) (a0 : Array Value) (hw : ∀ d ∈ tables_1, d.before a0 Z = true) (d : Int32) (h0 : Heap) (n0 : Nat) (Z0 : n0 ≤ h0.size) :
    Ctr l Z h0 (⟨"java/lang/Integer", "signum", "(I)I"⟩ : MethodName) jdk_33_method_56_code 1 (some .int) [] ({ frames := 0, cells := 0, slots := 0, locals := 0 } : Room) #[(.int d)] (Q_rmG Z d h0 n0) := by
  refine Ctr.make (plainFor_of_name pn_88) fun p e s m below meth c s₁ K hret hml hx hby hown hnm hZ X0 e0 hK => ?_
  have hown : s.vm.findClass "java/lang/Integer" = some m.cls := hown
  have N0 := Fr.nil n0
  have K0 : Keep h0 h0 [] := Keep.refl _ _
  refine Wlk.of (fun _ k => castTop (ef_rmG m d) k) ?_
  show Wlk p.tables e below (s₁.setTop (mkF m 0 #[iv d] [])) K
  refine Wlk.of (fun _ k => XS.iloadN X0.here hx rfl (hb hby d6_0) rfl k) ?_
  show Wlk p.tables e below (s₁.setTop (mkF m 1 #[iv d] [(.int d)])) K
  refine Wlk.of (fun _ k => XS.bipush X0.here hx rfl (hb hby d6_1) k) ?_
  show Wlk p.tables e below (s₁.setTop (mkF m 3 #[iv d] [(.int (31 : Int32)), (.int d)])) K
  refine Wlk.of (fun _ k => XS.ishr X0.here hx rfl (hb hby d6_3) rfl k) ?_
  show Wlk p.tables e below (s₁.setTop (mkF m 4 #[iv d] [(.int (d >>> ((31 : Int32) &&& 31)))])) K
  refine Wlk.of (fun _ k => XS.iloadN X0.here hx rfl (hb hby d6_4) rfl k) ?_
  show Wlk p.tables e below (s₁.setTop (mkF m 5 #[iv d] [(.int d), (.int (d >>> ((31 : Int32) &&& 31)))])) K
  refine Wlk.of (fun _ k => XS.ineg X0.here hx rfl (hb hby d6_5) rfl k) ?_
  show Wlk p.tables e below (s₁.setTop (mkF m 6 #[iv d] [(.int (-d)), (.int (d >>> ((31 : Int32) &&& 31)))])) K
  refine Wlk.of (fun _ k => XS.bipush X0.here hx rfl (hb hby d6_6) k) ?_
  show Wlk p.tables e below (s₁.setTop (mkF m 8 #[iv d] [(.int (31 : Int32)), (.int (-d)), (.int (d >>> ((31 : Int32) &&& 31)))])) K
  refine Wlk.of (fun _ k => XS.iushr X0.here hx rfl (hb hby d6_8) rfl k) ?_
  show Wlk p.tables e below (s₁.setTop (mkF m 9 #[iv d] [(.int (((-d).toUInt32 >>> ((31 : Int32) &&& 31).toUInt32).toInt32)), (.int (d >>> ((31 : Int32) &&& 31)))])) K
  refine Wlk.of (fun _ k => XS.ior X0.here hx rfl (hb hby d6_9) rfl k) ?_
  show Wlk p.tables e below (s₁.setTop (mkF m 10 #[iv d] [(.int ((d >>> ((31 : Int32) &&& 31)) ||| (((-d).toUInt32 >>> ((31 : Int32) &&& 31).toUInt32).toInt32)))])) K
  refine hK (some (.int ((d >>> ((31 : Int32) &&& 31)) ||| (((-d).toUInt32 >>> ((31 : Int32) &&& 31).toUInt32).toInt32)))) X0 (fun q => by cases q) (fun fs hr => retOut X0 hx hret rfl (Or.inl ⟨rfl, Or.inl rfl, _, rfl⟩) (hb hby d6_10) hr) ?_ (by decide) (by decide)
  rw [show s₁.heap = h0 from e0]
  exact ⟨rfl, N0, rfl⟩
theorem pd_89 : parseMethodDescriptor "(DD)D" = some ⟨[.double, .double], some .double⟩ := by decide +kernel
theorem dM0_0 : decode prog_41_method_13_code 0 = .ok (.iload_n 2, 1) := by decide +kernel
theorem dM0_1 : decode prog_41_method_13_code 1 = .ok (.ifCond .eq 18, 3) := by decide +kernel
theorem dM0_4 : decode prog_41_method_13_code 4 = .ok (.iload_n 2, 1) := by decide +kernel
theorem dM0_5 : decode prog_41_method_13_code 5 = .ok (.ifCond .ge 15, 3) := by decide +kernel
theorem dM0_8 : decode prog_41_method_13_code 8 = .ok (.aload_n 0, 1) := by decide +kernel
theorem dM0_9 : decode prog_41_method_13_code 9 = .ok (.getfield 32, 3) := by decide +kernel
theorem dM0_12 : decode prog_41_method_13_code 12 = .ok (.iload_n 1, 1) := by decide +kernel
theorem dM0_13 : decode prog_41_method_13_code 13 = .ok (.daload, 1) := by decide +kernel
theorem dM0_14 : decode prog_41_method_13_code 14 = .ok (.dconst 0, 1) := by decide +kernel
theorem dM0_15 : decode prog_41_method_13_code 15 = .ok (.dcmp .l, 1) := by decide +kernel
theorem dM0_16 : decode prog_41_method_13_code 16 = .ok (.ifCond .ne 4, 3) := by decide +kernel
theorem dM0_19 : decode prog_41_method_13_code 19 = .ok (.return_, 1) := by decide +kernel
theorem dM0_20 : decode prog_41_method_13_code 20 = .ok (.aload_n 0, 1) := by decide +kernel
theorem dM0_21 : decode prog_41_method_13_code 21 = .ok (.getfield 39, 3) := by decide +kernel
theorem dM0_24 : decode prog_41_method_13_code 24 = .ok (.iload_n 1, 1) := by decide +kernel
theorem dM0_25 : decode prog_41_method_13_code 25 = .ok (.iaload, 1) := by decide +kernel
theorem dM0_26 : decode prog_41_method_13_code 26 = .ok (.ifCond .eq 31, 3) := by decide +kernel
theorem dM0_57 : decode prog_41_method_13_code 57 = .ok (.aload_n 0, 1) := by decide +kernel
theorem dM0_58 : decode prog_41_method_13_code 58 = .ok (.getfield 39, 3) := by decide +kernel
theorem dM0_61 : decode prog_41_method_13_code 61 = .ok (.iload_n 1, 1) := by decide +kernel
theorem dM0_62 : decode prog_41_method_13_code 62 = .ok (.iload_n 2, 1) := by decide +kernel
theorem dM0_63 : decode prog_41_method_13_code 63 = .ok (.iastore, 1) := by decide +kernel
theorem dM0_64 : decode prog_41_method_13_code 64 = .ok (.aload_n 0, 1) := by decide +kernel
theorem dM0_65 : decode prog_41_method_13_code 65 = .ok (.getfield 32, 3) := by decide +kernel
theorem dM0_68 : decode prog_41_method_13_code 68 = .ok (.iload_n 1, 1) := by decide +kernel
theorem dM0_69 : decode prog_41_method_13_code 69 = .ok (.dconst 0, 1) := by decide +kernel
theorem dM0_70 : decode prog_41_method_13_code 70 = .ok (.aload_n 0, 1) := by decide +kernel
theorem dM0_71 : decode prog_41_method_13_code 71 = .ok (.getfield 32, 3) := by decide +kernel
theorem dM0_74 : decode prog_41_method_13_code 74 = .ok (.iload_n 1, 1) := by decide +kernel
theorem dM0_75 : decode prog_41_method_13_code 75 = .ok (.daload, 1) := by decide +kernel
theorem dM0_76 : decode prog_41_method_13_code 76 = .ok (.iload_n 2, 1) := by decide +kernel
theorem dM0_77 : decode prog_41_method_13_code 77 = .ok (.i2d, 1) := by decide +kernel
theorem dM0_78 : decode prog_41_method_13_code 78 = .ok (.aload_n 0, 1) := by decide +kernel
theorem dM0_79 : decode prog_41_method_13_code 79 = .ok (.getfield 36, 3) := by decide +kernel
theorem dM0_82 : decode prog_41_method_13_code 82 = .ok (.iload_n 1, 1) := by decide +kernel
theorem dM0_83 : decode prog_41_method_13_code 83 = .ok (.daload, 1) := by decide +kernel
theorem dM0_84 : decode prog_41_method_13_code 84 = .ok (.dmul, 1) := by decide +kernel
theorem dM0_85 : decode prog_41_method_13_code 85 = .ok (.dadd, 1) := by decide +kernel
theorem dM0_86 : decode prog_41_method_13_code 86 = .ok (.invokestatic 64, 3) := by decide +kernel
theorem dM0_89 : decode prog_41_method_13_code 89 = .ok (.dastore, 1) := by decide +kernel
theorem dM0_90 : decode prog_41_method_13_code 90 = .ok (.return_, 1) := by decide +kernel
theorem ef_rmM0 (m : MethodId) (a : Addr) (sd : Int32) : entryFrame m #[(.ref a), (.int (0 : Int32)), (.int sd)] 3 = mkF m 0 #[rv a, iv (0 : Int32), iv sd] [] := by first | (simp [entryFrame, mkF, argsToLocals, Value.category]; done) | rfl
def Q_rmM0 (Z : State) (a : Addr) (sd : Int32) (pri : Addr) (stp : Addr) (lst : Addr) (t : Int64) (x1 : UInt64) (x2 : UInt64) (x3 : UInt64) (x4 : UInt64) (z1 : Int32) (z2 : Int32) (z3 : Int32) (z4 : Int32) (h0 : Heap) (n0 : Nat) (v : Option Value) (h : Heap) (L : List Loc) : Prop := ∃ zz : Int32, v = none ∧ Fr n0 L ∧ Keep h0 h [pri, lst] ∧ Arl Z h pri .double [(.double (if (0 : Int32) < sd then (FP.l2d t) else (0 : UInt64))), (.double x1), (.double x2), (.double x3), (.double x4)] ∧ Arl Z h lst .int [(.int zz), (.int z1), (.int z2), (.int z3), (.int z4)]
set_option maxRecDepth 65536 in
set_option maxHeartbeats 40000000 in
theorem rmM0 (l : Launch) (Z : State) (a0 : Array Value) (hw : ∀ d ∈ tables_1, d.before a0 Z = true) (a : Addr) (sd : Int32) (pri : Addr) (stp : Addr) (lst : Addr) (t : Int64) (x1 : UInt64) (x2 : UInt64) (x3 : UInt64) (x4 : UInt64) (z1 : Int32) (z2 : Int32) (z3 : Int32) (z4 : Int32) (h0 : Heap) (n0 : Nat) (Z0 : n0 ≤ h0.size) (F_a_price : Fld Z h0 a "com/example/wardwise/wardwise/solver/LimitPrices" "price" "[D" (.ref pri)) (F_a_stepSize : Fld Z h0 a "com/example/wardwise/wardwise/solver/LimitPrices" "stepSize" "[D" (.ref stp)) (F_a_lastSide : Fld Z h0 a "com/example/wardwise/wardwise/solver/LimitPrices" "lastSide" "[I" (.ref lst)) (A_pri : Arl Z h0 pri .double [(.double (0 : UInt64)), (.double x1), (.double x2), (.double x3), (.double x4)]) (A_stp : Arl Z h0 stp .double [(.double (FP.l2d t)), (.double (FP.l2d t)), (.double (FP.l2d t)), (.double (FP.l2d t)), (.double (FP.l2d t))]) (A_lst : Arl Z h0 lst .int [(.int (0 : Int32)), (.int z1), (.int z2), (.int z3), (.int z4)]) (ne_a_pri : a ≠ pri) (ne_a_stp : a ≠ stp) (ne_a_lst : a ≠ lst) (ne_pri_stp : pri ≠ stp) (ne_pri_lst : pri ≠ lst) (ne_stp_lst : stp ≠ lst) (g_pri : n0 ≤ pri) (g_lst : n0 ≤ lst) (hs : sd = -1 ∨ sd = 0 ∨ sd = 1) (ht : 0 ≤ t.toInt ∧ t.toInt ≤ 255) :
    Ctr l Z h0 (⟨"com/example/wardwise/wardwise/solver/LimitPrices", "move", "(II)V"⟩ : MethodName) prog_41_method_13_code 3 none [] ({ frames := 1, cells := 0, slots := 0, locals := 17 } : Room) #[(.ref a), (.int (0 : Int32)), (.int sd)] (Q_rmM0 Z a sd pri stp lst t x1 x2 x3 x4 z1 z2 z3 z4 h0 n0) := by
  refine Ctr.make (plainFor_of_name pn_40) fun p e s m below meth c s₁ K hret hml hx hby hown hnm hZ X0 e0 hK => ?_
  have hown : s.vm.findClass "com/example/wardwise/wardwise/solver/LimitPrices" = some m.cls := hown
  have N0 := Fr.nil n0
  have K0 : Keep h0 h0 [pri, lst] := Keep.refl _ _
  refine Wlk.of (fun _ k => castTop (ef_rmM0 m a sd) k) ?_
  show Wlk p.tables e below (s₁.setTop (mkF m 0 #[rv a, iv (0 : Int32), iv sd] [])) K
  refine Wlk.of (fun _ k => XS.iloadN X0.here hx rfl (hb hby dM0_0) rfl k) ?_
  show Wlk p.tables e below (s₁.setTop (mkF m 1 #[rv a, iv (0 : Int32), iv sd] [(.int sd)])) K
  by_cases hc1 : sd = (0 : Int32)
  · refine Wlk.of (fun _ k => XS.ifYes X0.here hx rfl (pc0 := 1) (pc' := 19) rfl (hb hby dM0_1) rfl ((if0 _ _).trans (teq hc1).1) (by decide) (by decide) k) ?_
    show Wlk p.tables e below (s₁.setTop (mkF m 19 #[rv a, iv (0 : Int32), iv sd] [])) K
    refine hK none X0 (fun q => rfl) (fun fs hr => X0.returnOut hx hret (hb hby dM0_19) hr) ?_ (by decide) (by decide)
    rw [show s₁.heap = h0 from e0]
    exact ⟨(0 : Int32), rfl, N0, K0, (by rw [if_neg (show ¬ (0 : Int32) < sd by rw [hc1]; decide)]; exact A_pri), A_lst⟩
  · refine Wlk.of (fun _ k => XS.ifNo X0.here hx rfl (hb hby dM0_1) rfl ((if0 _ _).trans (feq hc1).1) k) ?_
    show Wlk p.tables e below (s₁.setTop (mkF m 4 #[rv a, iv (0 : Int32), iv sd] [])) K
    refine Wlk.of (fun _ k => XS.iloadN X0.here hx rfl (hb hby dM0_4) rfl k) ?_
    show Wlk p.tables e below (s₁.setTop (mkF m 5 #[rv a, iv (0 : Int32), iv sd] [(.int sd)])) K
    by_cases hc2 : sd < (0 : Int32)
    · refine Wlk.of (fun _ k => XS.ifNo X0.here hx rfl (hb hby dM0_5) rfl ((if0 _ _).trans (tlt hc2).2.1) k) ?_
      show Wlk p.tables e below (s₁.setTop (mkF m 8 #[rv a, iv (0 : Int32), iv sd] [])) K
      refine Wlk.of (fun _ k => XS.aloadN X0.here hx rfl (hb hby dM0_8) rfl rfl k) ?_
      show Wlk p.tables e below (s₁.setTop (mkF m 9 #[rv a, iv (0 : Int32), iv sd] [(.ref a)])) K
      obtain ⟨T3, X3, e3, st3⟩ := getF X0 hx hZ hown (host := "") (Or.inl (wd hw 23 rfl)) Via.refl e0 F_a_price (g := (mkF m 9 #[rv a, iv (0 : Int32), iv sd] [(.ref a)])) rfl rfl (hb hby dM0_9)
      refine Wlk.of (fun _ k => st3 _ k) ?_
      show Wlk p.tables e below (T3.setTop (mkF m 12 #[rv a, iv (0 : Int32), iv sd] [(.ref pri)])) K
      refine Wlk.of (fun _ k => XS.iloadN X3.here hx rfl (hb hby dM0_12) rfl k) ?_
      show Wlk p.tables e below (T3.setTop (mkF m 13 #[rv a, iv (0 : Int32), iv sd] [(.int (0 : Int32)), (.ref pri)])) K
      refine Wlk.of (fun _ k => ldD X3 hx hZ e3 A_pri (j := (0 : Int32)) (i := 0) (by decide) (by decide) rfl (g := (mkF m 13 #[rv a, iv (0 : Int32), iv sd] [(.int (0 : Int32)), (.ref pri)])) rfl rfl (hb hby dM0_13) _ k) ?_
      show Wlk p.tables e below (T3.setTop (mkF m 14 #[rv a, iv (0 : Int32), iv sd] [(.double (0 : UInt64))])) K
      refine Wlk.of (fun _ k => XS.dconst0 X3.here hx rfl (hb hby dM0_14) rfl k) ?_
      show Wlk p.tables e below (T3.setTop (mkF m 15 #[rv a, iv (0 : Int32), iv sd] [(.double FP.dconst0), (.double (0 : UInt64))])) K
      refine Wlk.of (fun _ k => XS.dcmpS X3.here hx rfl (hb hby dM0_15) rfl rfl k) ?_
      show Wlk p.tables e below (T3.setTop (mkF m 16 #[rv a, iv (0 : Int32), iv sd] [(.int (cmpValue (FP.dcmp (0 : UInt64) FP.dconst0) .l))])) K
      refine Wlk.of (fun _ k => XS.ifNo X3.here hx rfl (hb hby dM0_16) rfl ((if0 _ _).trans (teq (show (cmpValue (FP.dcmp (0 : UInt64) FP.dconst0) .l) = (0 : Int32) by decide +kernel)).2) k) ?_
      show Wlk p.tables e below (T3.setTop (mkF m 19 #[rv a, iv (0 : Int32), iv sd] [])) K
      refine hK none X3 (fun q => rfl) (fun fs hr => X3.returnOut hx hret (hb hby dM0_19) hr) ?_ (by decide) (by decide)
      rw [show T3.heap = h0 from e3]
      exact ⟨(0 : Int32), rfl, N0, K0, (by rw [if_neg (own_neg hc2)]; exact A_pri), A_lst⟩
    · refine Wlk.of (fun _ k => XS.ifYes X0.here hx rfl (pc0 := 5) (pc' := 20) rfl (hb hby dM0_5) rfl ((if0 _ _).trans (flt hc2).2.1) (by decide) (by decide) k) ?_
      show Wlk p.tables e below (s₁.setTop (mkF m 20 #[rv a, iv (0 : Int32), iv sd] [])) K
      have hsd := own_pos hs hc1 hc2
      have hm1 := own_mul1 (t := t) hsd
      refine Wlk.of (fun _ k => XS.aloadN X0.here hx rfl (hb hby dM0_20) rfl rfl k) ?_
      show Wlk p.tables e below (s₁.setTop (mkF m 21 #[rv a, iv (0 : Int32), iv sd] [(.ref a)])) K
      obtain ⟨T4, X4, e4, st4⟩ := getF X0 hx hZ hown (host := "") (Or.inl (wd hw 27 rfl)) Via.refl e0 F_a_lastSide (g := (mkF m 21 #[rv a, iv (0 : Int32), iv sd] [(.ref a)])) rfl rfl (hb hby dM0_21)
      refine Wlk.of (fun _ k => st4 _ k) ?_
      show Wlk p.tables e below (T4.setTop (mkF m 24 #[rv a, iv (0 : Int32), iv sd] [(.ref lst)])) K
      refine Wlk.of (fun _ k => XS.iloadN X4.here hx rfl (hb hby dM0_24) rfl k) ?_
      show Wlk p.tables e below (T4.setTop (mkF m 25 #[rv a, iv (0 : Int32), iv sd] [(.int (0 : Int32)), (.ref lst)])) K
      refine Wlk.of (fun _ k => ldI X4 hx hZ e4 A_lst (j := (0 : Int32)) (i := 0) (by decide) (by decide) rfl (g := (mkF m 25 #[rv a, iv (0 : Int32), iv sd] [(.int (0 : Int32)), (.ref lst)])) rfl rfl (hb hby dM0_25) _ k) ?_
      show Wlk p.tables e below (T4.setTop (mkF m 26 #[rv a, iv (0 : Int32), iv sd] [(.int (0 : Int32))])) K
      refine Wlk.of (fun _ k => XS.ifYes X4.here hx rfl (pc0 := 26) (pc' := 57) rfl (hb hby dM0_26) rfl ((if0 _ _).trans (teq (by decide : (0 : Int32) = (0 : Int32))).1) (by decide) (by decide) k) ?_
      show Wlk p.tables e below (T4.setTop (mkF m 57 #[rv a, iv (0 : Int32), iv sd] [])) K
      refine Wlk.of (fun _ k => XS.aloadN X4.here hx rfl (hb hby dM0_57) rfl rfl k) ?_
      show Wlk p.tables e below (T4.setTop (mkF m 58 #[rv a, iv (0 : Int32), iv sd] [(.ref a)])) K
      obtain ⟨T5, X5, e5, st5⟩ := getF X4 hx hZ hown (host := "") (Or.inl (wd hw 27 rfl)) Via.refl e4 F_a_lastSide (g := (mkF m 58 #[rv a, iv (0 : Int32), iv sd] [(.ref a)])) rfl rfl (hb hby dM0_58)
      refine Wlk.of (fun _ k => st5 _ k) ?_
      show Wlk p.tables e below (T5.setTop (mkF m 61 #[rv a, iv (0 : Int32), iv sd] [(.ref lst)])) K
      refine Wlk.of (fun _ k => XS.iloadN X5.here hx rfl (hb hby dM0_61) rfl k) ?_
      show Wlk p.tables e below (T5.setTop (mkF m 62 #[rv a, iv (0 : Int32), iv sd] [(.int (0 : Int32)), (.ref lst)])) K
      refine Wlk.of (fun _ k => XS.iloadN X5.here hx rfl (hb hby dM0_62) rfl k) ?_
      show Wlk p.tables e below (T5.setTop (mkF m 63 #[rv a, iv (0 : Int32), iv sd] [(.int sd), (.int (0 : Int32)), (.ref lst)])) K
      obtain ⟨T6, h6, X6, e6, W6, V6, st6⟩ := stIl X5 hx hZ e5 A_lst (j := (0 : Int32)) (i := 0) (by decide) (by decide) (show 0 < 5 by decide) (g := (mkF m 63 #[rv a, iv (0 : Int32), iv sd] [(.int sd), (.int (0 : Int32)), (.ref lst)])) rfl rfl (hb hby dM0_63)
      refine Wlk.of (fun _ k => st6 _ k) ?_
      have K7 : Keep h0 h6 [pri, lst] := K0.wr W6 (Or.inl (List.mem_of_getElem? (i := 1) rfl))
      have N8 := Fr.snoc X6 N0 g_lst
      have Vw6 : Arl Z h6 lst .int [(.int sd), (.int z1), (.int z2), (.int z3), (.int z4)] := V6
      show Wlk p.tables e below (T6.setTop (mkF m 64 #[rv a, iv (0 : Int32), iv sd] [])) K
      refine Wlk.of (fun _ k => XS.aloadN X6.here hx rfl (hb hby dM0_64) rfl rfl k) ?_
      show Wlk p.tables e below (T6.setTop (mkF m 65 #[rv a, iv (0 : Int32), iv sd] [(.ref a)])) K
      have f9 : Fld Z h6 a "com/example/wardwise/wardwise/solver/LimitPrices" "price" "[D" (.ref pri) := (F_a_price.other W6 (Or.inl ne_a_lst))
      obtain ⟨T10, X10, e10, st10⟩ := getF X6 hx hZ hown (host := "") (Or.inl (wd hw 23 rfl)) Via.refl e6 f9 (g := (mkF m 65 #[rv a, iv (0 : Int32), iv sd] [(.ref a)])) rfl rfl (hb hby dM0_65)
      refine Wlk.of (fun _ k => st10 _ k) ?_
      show Wlk p.tables e below (T10.setTop (mkF m 68 #[rv a, iv (0 : Int32), iv sd] [(.ref pri)])) K
      refine Wlk.of (fun _ k => XS.iloadN X10.here hx rfl (hb hby dM0_68) rfl k) ?_
      show Wlk p.tables e below (T10.setTop (mkF m 69 #[rv a, iv (0 : Int32), iv sd] [(.int (0 : Int32)), (.ref pri)])) K
      refine Wlk.of (fun _ k => XS.dconst0 X10.here hx rfl (hb hby dM0_69) rfl k) ?_
      show Wlk p.tables e below (T10.setTop (mkF m 70 #[rv a, iv (0 : Int32), iv sd] [(.double FP.dconst0), (.int (0 : Int32)), (.ref pri)])) K
      refine Wlk.of (fun _ k => XS.aloadN X10.here hx rfl (hb hby dM0_70) rfl rfl k) ?_
      show Wlk p.tables e below (T10.setTop (mkF m 71 #[rv a, iv (0 : Int32), iv sd] [(.ref a), (.double FP.dconst0), (.int (0 : Int32)), (.ref pri)])) K
      obtain ⟨T11, X11, e11, st11⟩ := getF X10 hx hZ hown (host := "") (Or.inl (wd hw 23 rfl)) Via.refl e10 f9 (g := (mkF m 71 #[rv a, iv (0 : Int32), iv sd] [(.ref a), (.double FP.dconst0), (.int (0 : Int32)), (.ref pri)])) rfl rfl (hb hby dM0_71)
      refine Wlk.of (fun _ k => st11 _ k) ?_
      show Wlk p.tables e below (T11.setTop (mkF m 74 #[rv a, iv (0 : Int32), iv sd] [(.ref pri), (.double FP.dconst0), (.int (0 : Int32)), (.ref pri)])) K
      refine Wlk.of (fun _ k => XS.iloadN X11.here hx rfl (hb hby dM0_74) rfl k) ?_
      show Wlk p.tables e below (T11.setTop (mkF m 75 #[rv a, iv (0 : Int32), iv sd] [(.int (0 : Int32)), (.ref pri), (.double FP.dconst0), (.int (0 : Int32)), (.ref pri)])) K
      have f12 : Arl Z h6 pri .double [(.double (0 : UInt64)), (.double x1), (.double x2), (.double x3), (.double x4)] := (A_pri.other W6 ne_pri_lst)
      refine Wlk.of (fun _ k => ldD X11 hx hZ e11 f12 (j := (0 : Int32)) (i := 0) (by decide) (by decide) rfl (g := (mkF m 75 #[rv a, iv (0 : Int32), iv sd] [(.int (0 : Int32)), (.ref pri), (.double FP.dconst0), (.int (0 : Int32)), (.ref pri)])) rfl rfl (hb hby dM0_75) _ k) ?_
      show Wlk p.tables e below (T11.setTop (mkF m 76 #[rv a, iv (0 : Int32), iv sd] [(.double (0 : UInt64)), (.double FP.dconst0), (.int (0 : Int32)), (.ref pri)])) K
      refine Wlk.of (fun _ k => XS.iloadN X11.here hx rfl (hb hby dM0_76) rfl k) ?_
      show Wlk p.tables e below (T11.setTop (mkF m 77 #[rv a, iv (0 : Int32), iv sd] [(.int sd), (.double (0 : UInt64)), (.double FP.dconst0), (.int (0 : Int32)), (.ref pri)])) K
      refine Wlk.of (fun _ k => XS.i2dS X11.here hx rfl (hb hby dM0_77) rfl rfl k) ?_
      show Wlk p.tables e below (T11.setTop (mkF m 78 #[rv a, iv (0 : Int32), iv sd] [(.double (FP.i2d sd)), (.double (0 : UInt64)), (.double FP.dconst0), (.int (0 : Int32)), (.ref pri)])) K
      refine Wlk.of (fun _ k => XS.aloadN X11.here hx rfl (hb hby dM0_78) rfl rfl k) ?_
      show Wlk p.tables e below (T11.setTop (mkF m 79 #[rv a, iv (0 : Int32), iv sd] [(.ref a), (.double (FP.i2d sd)), (.double (0 : UInt64)), (.double FP.dconst0), (.int (0 : Int32)), (.ref pri)])) K
      have f13 : Fld Z h6 a "com/example/wardwise/wardwise/solver/LimitPrices" "stepSize" "[D" (.ref stp) := (F_a_stepSize.other W6 (Or.inl ne_a_lst))
      obtain ⟨T14, X14, e14, st14⟩ := getF X11 hx hZ hown (host := "") (Or.inl (wd hw 25 rfl)) Via.refl e11 f13 (g := (mkF m 79 #[rv a, iv (0 : Int32), iv sd] [(.ref a), (.double (FP.i2d sd)), (.double (0 : UInt64)), (.double FP.dconst0), (.int (0 : Int32)), (.ref pri)])) rfl rfl (hb hby dM0_79)
      refine Wlk.of (fun _ k => st14 _ k) ?_
      show Wlk p.tables e below (T14.setTop (mkF m 82 #[rv a, iv (0 : Int32), iv sd] [(.ref stp), (.double (FP.i2d sd)), (.double (0 : UInt64)), (.double FP.dconst0), (.int (0 : Int32)), (.ref pri)])) K
      refine Wlk.of (fun _ k => XS.iloadN X14.here hx rfl (hb hby dM0_82) rfl k) ?_
      show Wlk p.tables e below (T14.setTop (mkF m 83 #[rv a, iv (0 : Int32), iv sd] [(.int (0 : Int32)), (.ref stp), (.double (FP.i2d sd)), (.double (0 : UInt64)), (.double FP.dconst0), (.int (0 : Int32)), (.ref pri)])) K
      have f15 : Arl Z h6 stp .double [(.double (FP.l2d t)), (.double (FP.l2d t)), (.double (FP.l2d t)), (.double (FP.l2d t)), (.double (FP.l2d t))] := (A_stp.other W6 ne_stp_lst)
      refine Wlk.of (fun _ k => ldD X14 hx hZ e14 f15 (j := (0 : Int32)) (i := 0) (by decide) (by decide) rfl (g := (mkF m 83 #[rv a, iv (0 : Int32), iv sd] [(.int (0 : Int32)), (.ref stp), (.double (FP.i2d sd)), (.double (0 : UInt64)), (.double FP.dconst0), (.int (0 : Int32)), (.ref pri)])) rfl rfl (hb hby dM0_83) _ k) ?_
      show Wlk p.tables e below (T14.setTop (mkF m 84 #[rv a, iv (0 : Int32), iv sd] [(.double (FP.l2d t)), (.double (FP.i2d sd)), (.double (0 : UInt64)), (.double FP.dconst0), (.int (0 : Int32)), (.ref pri)])) K
      refine Wlk.of (fun _ k => XS.dmulS X14.here hx rfl (hb hby dM0_84) rfl (Fl.dmul_out (Fl.i2d_fin _) (Fl.l2d_fin _)) rfl k) ?_
      show Wlk p.tables e below (T14.setTop (mkF m 85 #[rv a, iv (0 : Int32), iv sd] [(.double (FP.dmul (FP.i2d sd) (FP.l2d t))), (.double (0 : UInt64)), (.double FP.dconst0), (.int (0 : Int32)), (.ref pri)])) K
      refine Wlk.of (fun _ k => XS.daddS X14.here hx rfl (hb hby dM0_85) rfl (by rw [hm1, own_add0 ht]; exact (Fl.l2d_fin t).noNaN) rfl k) ?_
      show Wlk p.tables e below (T14.setTop (mkF m 86 #[rv a, iv (0 : Int32), iv sd] [(.double (FP.dadd (0 : UInt64) (FP.dmul (FP.i2d sd) (FP.l2d t)))), (.double FP.dconst0), (.int (0 : Int32)), (.ref pri)])) K
      obtain ⟨T16, X16, e16, st16⟩ := paidS (y := (⟨"java/lang/Math", "max", "(DD)D"⟩ : MethodName)) (val := (.double (FP.l2d t))) X14 hx hZ e14 hown (wd hw 54 rfl) (wd hw 55 rfl) (wd hw 56 rfl) (wd hw 57 rfl) (by decide) (W := 2) (Fl.Abs.maxD_pays FP.dconst0 (FP.dadd (0 : UInt64) (FP.dmul (FP.i2d sd) (FP.l2d t))) (mvT hZ (wd hw 57 rfl)) (by decide) (by decide)) pd_89 (g := (mkF m 86 #[rv a, iv (0 : Int32), iv sd] [(.double (FP.dadd (0 : UInt64) (FP.dmul (FP.i2d sd) (FP.l2d t)))), (.double FP.dconst0), (.int (0 : Int32)), (.ref pri)])) rfl (by rw [hml]; rfl) (argsL := [(.double FP.dconst0), (.double (FP.dadd (0 : UInt64) (FP.dmul (FP.i2d sd) (FP.l2d t))))]) (rest := [(.int (0 : Int32)), (.ref pri)]) rfl rfl (by show 2 * 0 + _ ≤ _; exact Nat.le_of_eq rfl) (hb hby dM0_86) (fun _ _ => ⟨by show (0 : Nat) ≤ _; decide, by show (0 : Nat) ≤ _; decide, rfl, (by unfold Fl.NoNaN64; decide), (by rw [hm1, own_add0 ht]; exact (Fl.l2d_fin t).noNaN)⟩) (fun A v B h => ⟨by rw [h.1, hm1, own_add0 ht, own_max0 ht], by rw [h.2]; exact ⟨rfl, rfl, rfl, rfl⟩⟩)
      refine Wlk.of (fun _ k => st16 _ k) ?_
      show Wlk p.tables e below (T16.setTop (mkF m 89 #[rv a, iv (0 : Int32), iv sd] [(.double (FP.l2d t)), (.int (0 : Int32)), (.ref pri)])) K
      obtain ⟨T17, h17, X17, e17, W17, V17, st17⟩ := stDl X16 hx hZ e16 f12 (j := (0 : Int32)) (i := 0) (by decide) (by decide) (show 0 < 5 by decide) (g := (mkF m 89 #[rv a, iv (0 : Int32), iv sd] [(.double (FP.l2d t)), (.int (0 : Int32)), (.ref pri)])) rfl rfl (hb hby dM0_89)
      refine Wlk.of (fun _ k => st17 _ k) ?_
      have K18 : Keep h0 h17 [pri, lst] := K7.wr W17 (Or.inl (List.mem_of_getElem? (i := 0) rfl))
      have N19 := Fr.snoc X17 N8 g_pri
      have Vw17 : Arl Z h17 pri .double [(.double (FP.l2d t)), (.double x1), (.double x2), (.double x3), (.double x4)] := V17
      show Wlk p.tables e below (T17.setTop (mkF m 90 #[rv a, iv (0 : Int32), iv sd] [])) K
      have f20 : Arl Z h17 lst .int [(.int sd), (.int z1), (.int z2), (.int z3), (.int z4)] := (Vw6.other W17 (Ne.symm ne_pri_lst))
      refine hK none X17 (fun q => rfl) (fun fs hr => X17.returnOut hx hret (hb hby dM0_90) hr) ?_ (by decide) (by decide)
      rw [show T17.heap = h17 from e17]
      exact ⟨sd, rfl, N19, K18, (by rw [if_pos (show (0 : Int32) < sd by rw [hsd]; decide)]; exact Vw17), f20⟩
theorem dM1_0 : decode prog_41_method_13_code 0 = .ok (.iload_n 2, 1) := by decide +kernel
theorem dM1_1 : decode prog_41_method_13_code 1 = .ok (.ifCond .eq 18, 3) := by decide +kernel
theorem dM1_4 : decode prog_41_method_13_code 4 = .ok (.iload_n 2, 1) := by decide +kernel
theorem dM1_5 : decode prog_41_method_13_code 5 = .ok (.ifCond .ge 15, 3) := by decide +kernel
theorem dM1_8 : decode prog_41_method_13_code 8 = .ok (.aload_n 0, 1) := by decide +kernel
theorem dM1_9 : decode prog_41_method_13_code 9 = .ok (.getfield 32, 3) := by decide +kernel
theorem dM1_12 : decode prog_41_method_13_code 12 = .ok (.iload_n 1, 1) := by decide +kernel
theorem dM1_13 : decode prog_41_method_13_code 13 = .ok (.daload, 1) := by decide +kernel
theorem dM1_14 : decode prog_41_method_13_code 14 = .ok (.dconst 0, 1) := by decide +kernel
theorem dM1_15 : decode prog_41_method_13_code 15 = .ok (.dcmp .l, 1) := by decide +kernel
theorem dM1_16 : decode prog_41_method_13_code 16 = .ok (.ifCond .ne 4, 3) := by decide +kernel
theorem dM1_19 : decode prog_41_method_13_code 19 = .ok (.return_, 1) := by decide +kernel
theorem dM1_20 : decode prog_41_method_13_code 20 = .ok (.aload_n 0, 1) := by decide +kernel
theorem dM1_21 : decode prog_41_method_13_code 21 = .ok (.getfield 39, 3) := by decide +kernel
theorem dM1_24 : decode prog_41_method_13_code 24 = .ok (.iload_n 1, 1) := by decide +kernel
theorem dM1_25 : decode prog_41_method_13_code 25 = .ok (.iaload, 1) := by decide +kernel
theorem dM1_26 : decode prog_41_method_13_code 26 = .ok (.ifCond .eq 31, 3) := by decide +kernel
theorem dM1_57 : decode prog_41_method_13_code 57 = .ok (.aload_n 0, 1) := by decide +kernel
theorem dM1_58 : decode prog_41_method_13_code 58 = .ok (.getfield 39, 3) := by decide +kernel
theorem dM1_61 : decode prog_41_method_13_code 61 = .ok (.iload_n 1, 1) := by decide +kernel
theorem dM1_62 : decode prog_41_method_13_code 62 = .ok (.iload_n 2, 1) := by decide +kernel
theorem dM1_63 : decode prog_41_method_13_code 63 = .ok (.iastore, 1) := by decide +kernel
theorem dM1_64 : decode prog_41_method_13_code 64 = .ok (.aload_n 0, 1) := by decide +kernel
theorem dM1_65 : decode prog_41_method_13_code 65 = .ok (.getfield 32, 3) := by decide +kernel
theorem dM1_68 : decode prog_41_method_13_code 68 = .ok (.iload_n 1, 1) := by decide +kernel
theorem dM1_69 : decode prog_41_method_13_code 69 = .ok (.dconst 0, 1) := by decide +kernel
theorem dM1_70 : decode prog_41_method_13_code 70 = .ok (.aload_n 0, 1) := by decide +kernel
theorem dM1_71 : decode prog_41_method_13_code 71 = .ok (.getfield 32, 3) := by decide +kernel
theorem dM1_74 : decode prog_41_method_13_code 74 = .ok (.iload_n 1, 1) := by decide +kernel
theorem dM1_75 : decode prog_41_method_13_code 75 = .ok (.daload, 1) := by decide +kernel
theorem dM1_76 : decode prog_41_method_13_code 76 = .ok (.iload_n 2, 1) := by decide +kernel
theorem dM1_77 : decode prog_41_method_13_code 77 = .ok (.i2d, 1) := by decide +kernel
theorem dM1_78 : decode prog_41_method_13_code 78 = .ok (.aload_n 0, 1) := by decide +kernel
theorem dM1_79 : decode prog_41_method_13_code 79 = .ok (.getfield 36, 3) := by decide +kernel
theorem dM1_82 : decode prog_41_method_13_code 82 = .ok (.iload_n 1, 1) := by decide +kernel
theorem dM1_83 : decode prog_41_method_13_code 83 = .ok (.daload, 1) := by decide +kernel
theorem dM1_84 : decode prog_41_method_13_code 84 = .ok (.dmul, 1) := by decide +kernel
theorem dM1_85 : decode prog_41_method_13_code 85 = .ok (.dadd, 1) := by decide +kernel
theorem dM1_86 : decode prog_41_method_13_code 86 = .ok (.invokestatic 64, 3) := by decide +kernel
theorem dM1_89 : decode prog_41_method_13_code 89 = .ok (.dastore, 1) := by decide +kernel
theorem dM1_90 : decode prog_41_method_13_code 90 = .ok (.return_, 1) := by decide +kernel
theorem ef_rmM1 (m : MethodId) (a : Addr) (sd : Int32) : entryFrame m #[(.ref a), (.int (1 : Int32)), (.int sd)] 3 = mkF m 0 #[rv a, iv (1 : Int32), iv sd] [] := by first | (simp [entryFrame, mkF, argsToLocals, Value.category]; done) | rfl
def Q_rmM1 (Z : State) (a : Addr) (sd : Int32) (pri : Addr) (stp : Addr) (lst : Addr) (t : Int64) (x0 : UInt64) (x2 : UInt64) (x3 : UInt64) (x4 : UInt64) (z0 : Int32) (z2 : Int32) (z3 : Int32) (z4 : Int32) (h0 : Heap) (n0 : Nat) (v : Option Value) (h : Heap) (L : List Loc) : Prop := ∃ zz : Int32, v = none ∧ Fr n0 L ∧ Keep h0 h [pri, lst] ∧ Arl Z h pri .double [(.double x0), (.double (if (0 : Int32) < sd then (FP.l2d t) else (0 : UInt64))), (.double x2), (.double x3), (.double x4)] ∧ Arl Z h lst .int [(.int z0), (.int zz), (.int z2), (.int z3), (.int z4)]
set_option maxRecDepth 65536 in
set_option maxHeartbeats 40000000 in
theorem rmM1 (l : Launch) (Z : State) (a0 : Array Value) (hw : ∀ d ∈ tables_1, d.before a0 Z = true) (a : Addr) (sd : Int32) (pri : Addr) (stp : Addr) (lst : Addr) (t : Int64) (x0 : UInt64) (x2 : UInt64) (x3 : UInt64) (x4 : UInt64) (z0 : Int32) (z2 : Int32) (z3 : Int32) (z4 : Int32) (h0 : Heap) (n0 : Nat) (Z0 : n0 ≤ h0.size) (F_a_price : Fld Z h0 a "com/example/wardwise/wardwise/solver/LimitPrices" "price" "[D" (.ref pri)) (F_a_stepSize : Fld Z h0 a "com/example/wardwise/wardwise/solver/LimitPrices" "stepSize" "[D" (.ref stp)) (F_a_lastSide : Fld Z h0 a "com/example/wardwise/wardwise/solver/LimitPrices" "lastSide" "[I" (.ref lst)) (A_pri : Arl Z h0 pri .double [(.double x0), (.double (0 : UInt64)), (.double x2), (.double x3), (.double x4)]) (A_stp : Arl Z h0 stp .double [(.double (FP.l2d t)), (.double (FP.l2d t)), (.double (FP.l2d t)), (.double (FP.l2d t)), (.double (FP.l2d t))]) (A_lst : Arl Z h0 lst .int [(.int z0), (.int (0 : Int32)), (.int z2), (.int z3), (.int z4)]) (ne_a_pri : a ≠ pri) (ne_a_stp : a ≠ stp) (ne_a_lst : a ≠ lst) (ne_pri_stp : pri ≠ stp) (ne_pri_lst : pri ≠ lst) (ne_stp_lst : stp ≠ lst) (g_pri : n0 ≤ pri) (g_lst : n0 ≤ lst) (hs : sd = -1 ∨ sd = 0 ∨ sd = 1) (ht : 0 ≤ t.toInt ∧ t.toInt ≤ 255) :
    Ctr l Z h0 (⟨"com/example/wardwise/wardwise/solver/LimitPrices", "move", "(II)V"⟩ : MethodName) prog_41_method_13_code 3 none [] ({ frames := 1, cells := 0, slots := 0, locals := 17 } : Room) #[(.ref a), (.int (1 : Int32)), (.int sd)] (Q_rmM1 Z a sd pri stp lst t x0 x2 x3 x4 z0 z2 z3 z4 h0 n0) := by
  refine Ctr.make (plainFor_of_name pn_40) fun p e s m below meth c s₁ K hret hml hx hby hown hnm hZ X0 e0 hK => ?_
  have hown : s.vm.findClass "com/example/wardwise/wardwise/solver/LimitPrices" = some m.cls := hown
  have N0 := Fr.nil n0
  have K0 : Keep h0 h0 [pri, lst] := Keep.refl _ _
  refine Wlk.of (fun _ k => castTop (ef_rmM1 m a sd) k) ?_
  show Wlk p.tables e below (s₁.setTop (mkF m 0 #[rv a, iv (1 : Int32), iv sd] [])) K
  refine Wlk.of (fun _ k => XS.iloadN X0.here hx rfl (hb hby dM1_0) rfl k) ?_
  show Wlk p.tables e below (s₁.setTop (mkF m 1 #[rv a, iv (1 : Int32), iv sd] [(.int sd)])) K
  by_cases hc1 : sd = (0 : Int32)
  · refine Wlk.of (fun _ k => XS.ifYes X0.here hx rfl (pc0 := 1) (pc' := 19) rfl (hb hby dM1_1) rfl ((if0 _ _).trans (teq hc1).1) (by decide) (by decide) k) ?_
    show Wlk p.tables e below (s₁.setTop (mkF m 19 #[rv a, iv (1 : Int32), iv sd] [])) K
    refine hK none X0 (fun q => rfl) (fun fs hr => X0.returnOut hx hret (hb hby dM1_19) hr) ?_ (by decide) (by decide)
    rw [show s₁.heap = h0 from e0]
    exact ⟨(0 : Int32), rfl, N0, K0, (by rw [if_neg (show ¬ (0 : Int32) < sd by rw [hc1]; decide)]; exact A_pri), A_lst⟩
  · refine Wlk.of (fun _ k => XS.ifNo X0.here hx rfl (hb hby dM1_1) rfl ((if0 _ _).trans (feq hc1).1) k) ?_
    show Wlk p.tables e below (s₁.setTop (mkF m 4 #[rv a, iv (1 : Int32), iv sd] [])) K
    refine Wlk.of (fun _ k => XS.iloadN X0.here hx rfl (hb hby dM1_4) rfl k) ?_
    show Wlk p.tables e below (s₁.setTop (mkF m 5 #[rv a, iv (1 : Int32), iv sd] [(.int sd)])) K
    by_cases hc2 : sd < (0 : Int32)
    · refine Wlk.of (fun _ k => XS.ifNo X0.here hx rfl (hb hby dM1_5) rfl ((if0 _ _).trans (tlt hc2).2.1) k) ?_
      show Wlk p.tables e below (s₁.setTop (mkF m 8 #[rv a, iv (1 : Int32), iv sd] [])) K
      refine Wlk.of (fun _ k => XS.aloadN X0.here hx rfl (hb hby dM1_8) rfl rfl k) ?_
      show Wlk p.tables e below (s₁.setTop (mkF m 9 #[rv a, iv (1 : Int32), iv sd] [(.ref a)])) K
      obtain ⟨T3, X3, e3, st3⟩ := getF X0 hx hZ hown (host := "") (Or.inl (wd hw 23 rfl)) Via.refl e0 F_a_price (g := (mkF m 9 #[rv a, iv (1 : Int32), iv sd] [(.ref a)])) rfl rfl (hb hby dM1_9)
      refine Wlk.of (fun _ k => st3 _ k) ?_
      show Wlk p.tables e below (T3.setTop (mkF m 12 #[rv a, iv (1 : Int32), iv sd] [(.ref pri)])) K
      refine Wlk.of (fun _ k => XS.iloadN X3.here hx rfl (hb hby dM1_12) rfl k) ?_
      show Wlk p.tables e below (T3.setTop (mkF m 13 #[rv a, iv (1 : Int32), iv sd] [(.int (1 : Int32)), (.ref pri)])) K
      refine Wlk.of (fun _ k => ldD X3 hx hZ e3 A_pri (j := (1 : Int32)) (i := 1) (by decide) (by decide) rfl (g := (mkF m 13 #[rv a, iv (1 : Int32), iv sd] [(.int (1 : Int32)), (.ref pri)])) rfl rfl (hb hby dM1_13) _ k) ?_
      show Wlk p.tables e below (T3.setTop (mkF m 14 #[rv a, iv (1 : Int32), iv sd] [(.double (0 : UInt64))])) K
      refine Wlk.of (fun _ k => XS.dconst0 X3.here hx rfl (hb hby dM1_14) rfl k) ?_
      show Wlk p.tables e below (T3.setTop (mkF m 15 #[rv a, iv (1 : Int32), iv sd] [(.double FP.dconst0), (.double (0 : UInt64))])) K
      refine Wlk.of (fun _ k => XS.dcmpS X3.here hx rfl (hb hby dM1_15) rfl rfl k) ?_
      show Wlk p.tables e below (T3.setTop (mkF m 16 #[rv a, iv (1 : Int32), iv sd] [(.int (cmpValue (FP.dcmp (0 : UInt64) FP.dconst0) .l))])) K
      refine Wlk.of (fun _ k => XS.ifNo X3.here hx rfl (hb hby dM1_16) rfl ((if0 _ _).trans (teq (show (cmpValue (FP.dcmp (0 : UInt64) FP.dconst0) .l) = (0 : Int32) by decide +kernel)).2) k) ?_
      show Wlk p.tables e below (T3.setTop (mkF m 19 #[rv a, iv (1 : Int32), iv sd] [])) K
      refine hK none X3 (fun q => rfl) (fun fs hr => X3.returnOut hx hret (hb hby dM1_19) hr) ?_ (by decide) (by decide)
      rw [show T3.heap = h0 from e3]
      exact ⟨(0 : Int32), rfl, N0, K0, (by rw [if_neg (own_neg hc2)]; exact A_pri), A_lst⟩
    · refine Wlk.of (fun _ k => XS.ifYes X0.here hx rfl (pc0 := 5) (pc' := 20) rfl (hb hby dM1_5) rfl ((if0 _ _).trans (flt hc2).2.1) (by decide) (by decide) k) ?_
      show Wlk p.tables e below (s₁.setTop (mkF m 20 #[rv a, iv (1 : Int32), iv sd] [])) K
      have hsd := own_pos hs hc1 hc2
      have hm1 := own_mul1 (t := t) hsd
      refine Wlk.of (fun _ k => XS.aloadN X0.here hx rfl (hb hby dM1_20) rfl rfl k) ?_
      show Wlk p.tables e below (s₁.setTop (mkF m 21 #[rv a, iv (1 : Int32), iv sd] [(.ref a)])) K
      obtain ⟨T4, X4, e4, st4⟩ := getF X0 hx hZ hown (host := "") (Or.inl (wd hw 27 rfl)) Via.refl e0 F_a_lastSide (g := (mkF m 21 #[rv a, iv (1 : Int32), iv sd] [(.ref a)])) rfl rfl (hb hby dM1_21)
      refine Wlk.of (fun _ k => st4 _ k) ?_
      show Wlk p.tables e below (T4.setTop (mkF m 24 #[rv a, iv (1 : Int32), iv sd] [(.ref lst)])) K
      refine Wlk.of (fun _ k => XS.iloadN X4.here hx rfl (hb hby dM1_24) rfl k) ?_
      show Wlk p.tables e below (T4.setTop (mkF m 25 #[rv a, iv (1 : Int32), iv sd] [(.int (1 : Int32)), (.ref lst)])) K
      refine Wlk.of (fun _ k => ldI X4 hx hZ e4 A_lst (j := (1 : Int32)) (i := 1) (by decide) (by decide) rfl (g := (mkF m 25 #[rv a, iv (1 : Int32), iv sd] [(.int (1 : Int32)), (.ref lst)])) rfl rfl (hb hby dM1_25) _ k) ?_
      show Wlk p.tables e below (T4.setTop (mkF m 26 #[rv a, iv (1 : Int32), iv sd] [(.int (0 : Int32))])) K
      refine Wlk.of (fun _ k => XS.ifYes X4.here hx rfl (pc0 := 26) (pc' := 57) rfl (hb hby dM1_26) rfl ((if0 _ _).trans (teq (by decide : (0 : Int32) = (0 : Int32))).1) (by decide) (by decide) k) ?_
      show Wlk p.tables e below (T4.setTop (mkF m 57 #[rv a, iv (1 : Int32), iv sd] [])) K
      refine Wlk.of (fun _ k => XS.aloadN X4.here hx rfl (hb hby dM1_57) rfl rfl k) ?_
      show Wlk p.tables e below (T4.setTop (mkF m 58 #[rv a, iv (1 : Int32), iv sd] [(.ref a)])) K
      obtain ⟨T5, X5, e5, st5⟩ := getF X4 hx hZ hown (host := "") (Or.inl (wd hw 27 rfl)) Via.refl e4 F_a_lastSide (g := (mkF m 58 #[rv a, iv (1 : Int32), iv sd] [(.ref a)])) rfl rfl (hb hby dM1_58)
      refine Wlk.of (fun _ k => st5 _ k) ?_
      show Wlk p.tables e below (T5.setTop (mkF m 61 #[rv a, iv (1 : Int32), iv sd] [(.ref lst)])) K
      refine Wlk.of (fun _ k => XS.iloadN X5.here hx rfl (hb hby dM1_61) rfl k) ?_
      show Wlk p.tables e below (T5.setTop (mkF m 62 #[rv a, iv (1 : Int32), iv sd] [(.int (1 : Int32)), (.ref lst)])) K
      refine Wlk.of (fun _ k => XS.iloadN X5.here hx rfl (hb hby dM1_62) rfl k) ?_
      show Wlk p.tables e below (T5.setTop (mkF m 63 #[rv a, iv (1 : Int32), iv sd] [(.int sd), (.int (1 : Int32)), (.ref lst)])) K
      obtain ⟨T6, h6, X6, e6, W6, V6, st6⟩ := stIl X5 hx hZ e5 A_lst (j := (1 : Int32)) (i := 1) (by decide) (by decide) (show 1 < 5 by decide) (g := (mkF m 63 #[rv a, iv (1 : Int32), iv sd] [(.int sd), (.int (1 : Int32)), (.ref lst)])) rfl rfl (hb hby dM1_63)
      refine Wlk.of (fun _ k => st6 _ k) ?_
      have K7 : Keep h0 h6 [pri, lst] := K0.wr W6 (Or.inl (List.mem_of_getElem? (i := 1) rfl))
      have N8 := Fr.snoc X6 N0 g_lst
      have Vw6 : Arl Z h6 lst .int [(.int z0), (.int sd), (.int z2), (.int z3), (.int z4)] := V6
      show Wlk p.tables e below (T6.setTop (mkF m 64 #[rv a, iv (1 : Int32), iv sd] [])) K
      refine Wlk.of (fun _ k => XS.aloadN X6.here hx rfl (hb hby dM1_64) rfl rfl k) ?_
      show Wlk p.tables e below (T6.setTop (mkF m 65 #[rv a, iv (1 : Int32), iv sd] [(.ref a)])) K
      have f9 : Fld Z h6 a "com/example/wardwise/wardwise/solver/LimitPrices" "price" "[D" (.ref pri) := (F_a_price.other W6 (Or.inl ne_a_lst))
      obtain ⟨T10, X10, e10, st10⟩ := getF X6 hx hZ hown (host := "") (Or.inl (wd hw 23 rfl)) Via.refl e6 f9 (g := (mkF m 65 #[rv a, iv (1 : Int32), iv sd] [(.ref a)])) rfl rfl (hb hby dM1_65)
      refine Wlk.of (fun _ k => st10 _ k) ?_
      show Wlk p.tables e below (T10.setTop (mkF m 68 #[rv a, iv (1 : Int32), iv sd] [(.ref pri)])) K
      refine Wlk.of (fun _ k => XS.iloadN X10.here hx rfl (hb hby dM1_68) rfl k) ?_
      show Wlk p.tables e below (T10.setTop (mkF m 69 #[rv a, iv (1 : Int32), iv sd] [(.int (1 : Int32)), (.ref pri)])) K
      refine Wlk.of (fun _ k => XS.dconst0 X10.here hx rfl (hb hby dM1_69) rfl k) ?_
      show Wlk p.tables e below (T10.setTop (mkF m 70 #[rv a, iv (1 : Int32), iv sd] [(.double FP.dconst0), (.int (1 : Int32)), (.ref pri)])) K
      refine Wlk.of (fun _ k => XS.aloadN X10.here hx rfl (hb hby dM1_70) rfl rfl k) ?_
      show Wlk p.tables e below (T10.setTop (mkF m 71 #[rv a, iv (1 : Int32), iv sd] [(.ref a), (.double FP.dconst0), (.int (1 : Int32)), (.ref pri)])) K
      obtain ⟨T11, X11, e11, st11⟩ := getF X10 hx hZ hown (host := "") (Or.inl (wd hw 23 rfl)) Via.refl e10 f9 (g := (mkF m 71 #[rv a, iv (1 : Int32), iv sd] [(.ref a), (.double FP.dconst0), (.int (1 : Int32)), (.ref pri)])) rfl rfl (hb hby dM1_71)
      refine Wlk.of (fun _ k => st11 _ k) ?_
      show Wlk p.tables e below (T11.setTop (mkF m 74 #[rv a, iv (1 : Int32), iv sd] [(.ref pri), (.double FP.dconst0), (.int (1 : Int32)), (.ref pri)])) K
      refine Wlk.of (fun _ k => XS.iloadN X11.here hx rfl (hb hby dM1_74) rfl k) ?_
      show Wlk p.tables e below (T11.setTop (mkF m 75 #[rv a, iv (1 : Int32), iv sd] [(.int (1 : Int32)), (.ref pri), (.double FP.dconst0), (.int (1 : Int32)), (.ref pri)])) K
      have f12 : Arl Z h6 pri .double [(.double x0), (.double (0 : UInt64)), (.double x2), (.double x3), (.double x4)] := (A_pri.other W6 ne_pri_lst)
      refine Wlk.of (fun _ k => ldD X11 hx hZ e11 f12 (j := (1 : Int32)) (i := 1) (by decide) (by decide) rfl (g := (mkF m 75 #[rv a, iv (1 : Int32), iv sd] [(.int (1 : Int32)), (.ref pri), (.double FP.dconst0), (.int (1 : Int32)), (.ref pri)])) rfl rfl (hb hby dM1_75) _ k) ?_
      show Wlk p.tables e below (T11.setTop (mkF m 76 #[rv a, iv (1 : Int32), iv sd] [(.double (0 : UInt64)), (.double FP.dconst0), (.int (1 : Int32)), (.ref pri)])) K
      refine Wlk.of (fun _ k => XS.iloadN X11.here hx rfl (hb hby dM1_76) rfl k) ?_
      show Wlk p.tables e below (T11.setTop (mkF m 77 #[rv a, iv (1 : Int32), iv sd] [(.int sd), (.double (0 : UInt64)), (.double FP.dconst0), (.int (1 : Int32)), (.ref pri)])) K
      refine Wlk.of (fun _ k => XS.i2dS X11.here hx rfl (hb hby dM1_77) rfl rfl k) ?_
      show Wlk p.tables e below (T11.setTop (mkF m 78 #[rv a, iv (1 : Int32), iv sd] [(.double (FP.i2d sd)), (.double (0 : UInt64)), (.double FP.dconst0), (.int (1 : Int32)), (.ref pri)])) K
      refine Wlk.of (fun _ k => XS.aloadN X11.here hx rfl (hb hby dM1_78) rfl rfl k) ?_
      show Wlk p.tables e below (T11.setTop (mkF m 79 #[rv a, iv (1 : Int32), iv sd] [(.ref a), (.double (FP.i2d sd)), (.double (0 : UInt64)), (.double FP.dconst0), (.int (1 : Int32)), (.ref pri)])) K
      have f13 : Fld Z h6 a "com/example/wardwise/wardwise/solver/LimitPrices" "stepSize" "[D" (.ref stp) := (F_a_stepSize.other W6 (Or.inl ne_a_lst))
      obtain ⟨T14, X14, e14, st14⟩ := getF X11 hx hZ hown (host := "") (Or.inl (wd hw 25 rfl)) Via.refl e11 f13 (g := (mkF m 79 #[rv a, iv (1 : Int32), iv sd] [(.ref a), (.double (FP.i2d sd)), (.double (0 : UInt64)), (.double FP.dconst0), (.int (1 : Int32)), (.ref pri)])) rfl rfl (hb hby dM1_79)
      refine Wlk.of (fun _ k => st14 _ k) ?_
      show Wlk p.tables e below (T14.setTop (mkF m 82 #[rv a, iv (1 : Int32), iv sd] [(.ref stp), (.double (FP.i2d sd)), (.double (0 : UInt64)), (.double FP.dconst0), (.int (1 : Int32)), (.ref pri)])) K
      refine Wlk.of (fun _ k => XS.iloadN X14.here hx rfl (hb hby dM1_82) rfl k) ?_
      show Wlk p.tables e below (T14.setTop (mkF m 83 #[rv a, iv (1 : Int32), iv sd] [(.int (1 : Int32)), (.ref stp), (.double (FP.i2d sd)), (.double (0 : UInt64)), (.double FP.dconst0), (.int (1 : Int32)), (.ref pri)])) K
      have f15 : Arl Z h6 stp .double [(.double (FP.l2d t)), (.double (FP.l2d t)), (.double (FP.l2d t)), (.double (FP.l2d t)), (.double (FP.l2d t))] := (A_stp.other W6 ne_stp_lst)
      refine Wlk.of (fun _ k => ldD X14 hx hZ e14 f15 (j := (1 : Int32)) (i := 1) (by decide) (by decide) rfl (g := (mkF m 83 #[rv a, iv (1 : Int32), iv sd] [(.int (1 : Int32)), (.ref stp), (.double (FP.i2d sd)), (.double (0 : UInt64)), (.double FP.dconst0), (.int (1 : Int32)), (.ref pri)])) rfl rfl (hb hby dM1_83) _ k) ?_
      show Wlk p.tables e below (T14.setTop (mkF m 84 #[rv a, iv (1 : Int32), iv sd] [(.double (FP.l2d t)), (.double (FP.i2d sd)), (.double (0 : UInt64)), (.double FP.dconst0), (.int (1 : Int32)), (.ref pri)])) K
      refine Wlk.of (fun _ k => XS.dmulS X14.here hx rfl (hb hby dM1_84) rfl (Fl.dmul_out (Fl.i2d_fin _) (Fl.l2d_fin _)) rfl k) ?_
      show Wlk p.tables e below (T14.setTop (mkF m 85 #[rv a, iv (1 : Int32), iv sd] [(.double (FP.dmul (FP.i2d sd) (FP.l2d t))), (.double (0 : UInt64)), (.double FP.dconst0), (.int (1 : Int32)), (.ref pri)])) K
      refine Wlk.of (fun _ k => XS.daddS X14.here hx rfl (hb hby dM1_85) rfl (by rw [hm1, own_add0 ht]; exact (Fl.l2d_fin t).noNaN) rfl k) ?_
      show Wlk p.tables e below (T14.setTop (mkF m 86 #[rv a, iv (1 : Int32), iv sd] [(.double (FP.dadd (0 : UInt64) (FP.dmul (FP.i2d sd) (FP.l2d t)))), (.double FP.dconst0), (.int (1 : Int32)), (.ref pri)])) K
      obtain ⟨T16, X16, e16, st16⟩ := paidS (y := (⟨"java/lang/Math", "max", "(DD)D"⟩ : MethodName)) (val := (.double (FP.l2d t))) X14 hx hZ e14 hown (wd hw 54 rfl) (wd hw 55 rfl) (wd hw 56 rfl) (wd hw 57 rfl) (by decide) (W := 2) (Fl.Abs.maxD_pays FP.dconst0 (FP.dadd (0 : UInt64) (FP.dmul (FP.i2d sd) (FP.l2d t))) (mvT hZ (wd hw 57 rfl)) (by decide) (by decide)) pd_89 (g := (mkF m 86 #[rv a, iv (1 : Int32), iv sd] [(.double (FP.dadd (0 : UInt64) (FP.dmul (FP.i2d sd) (FP.l2d t)))), (.double FP.dconst0), (.int (1 : Int32)), (.ref pri)])) rfl (by rw [hml]; rfl) (argsL := [(.double FP.dconst0), (.double (FP.dadd (0 : UInt64) (FP.dmul (FP.i2d sd) (FP.l2d t))))]) (rest := [(.int (1 : Int32)), (.ref pri)]) rfl rfl (by show 2 * 0 + _ ≤ _; exact Nat.le_of_eq rfl) (hb hby dM1_86) (fun _ _ => ⟨by show (0 : Nat) ≤ _; decide, by show (0 : Nat) ≤ _; decide, rfl, (by unfold Fl.NoNaN64; decide), (by rw [hm1, own_add0 ht]; exact (Fl.l2d_fin t).noNaN)⟩) (fun A v B h => ⟨by rw [h.1, hm1, own_add0 ht, own_max0 ht], by rw [h.2]; exact ⟨rfl, rfl, rfl, rfl⟩⟩)
      refine Wlk.of (fun _ k => st16 _ k) ?_
      show Wlk p.tables e below (T16.setTop (mkF m 89 #[rv a, iv (1 : Int32), iv sd] [(.double (FP.l2d t)), (.int (1 : Int32)), (.ref pri)])) K
      obtain ⟨T17, h17, X17, e17, W17, V17, st17⟩ := stDl X16 hx hZ e16 f12 (j := (1 : Int32)) (i := 1) (by decide) (by decide) (show 1 < 5 by decide) (g := (mkF m 89 #[rv a, iv (1 : Int32), iv sd] [(.double (FP.l2d t)), (.int (1 : Int32)), (.ref pri)])) rfl rfl (hb hby dM1_89)
      refine Wlk.of (fun _ k => st17 _ k) ?_
      have K18 : Keep h0 h17 [pri, lst] := K7.wr W17 (Or.inl (List.mem_of_getElem? (i := 0) rfl))
      have N19 := Fr.snoc X17 N8 g_pri
      have Vw17 : Arl Z h17 pri .double [(.double x0), (.double (FP.l2d t)), (.double x2), (.double x3), (.double x4)] := V17
      show Wlk p.tables e below (T17.setTop (mkF m 90 #[rv a, iv (1 : Int32), iv sd] [])) K
      have f20 : Arl Z h17 lst .int [(.int z0), (.int sd), (.int z2), (.int z3), (.int z4)] := (Vw6.other W17 (Ne.symm ne_pri_lst))
      refine hK none X17 (fun q => rfl) (fun fs hr => X17.returnOut hx hret (hb hby dM1_90) hr) ?_ (by decide) (by decide)
      rw [show T17.heap = h17 from e17]
      exact ⟨sd, rfl, N19, K18, (by rw [if_pos (show (0 : Int32) < sd by rw [hsd]; decide)]; exact Vw17), f20⟩
theorem dM2_0 : decode prog_41_method_13_code 0 = .ok (.iload_n 2, 1) := by decide +kernel
theorem dM2_1 : decode prog_41_method_13_code 1 = .ok (.ifCond .eq 18, 3) := by decide +kernel
theorem dM2_4 : decode prog_41_method_13_code 4 = .ok (.iload_n 2, 1) := by decide +kernel
theorem dM2_5 : decode prog_41_method_13_code 5 = .ok (.ifCond .ge 15, 3) := by decide +kernel
theorem dM2_8 : decode prog_41_method_13_code 8 = .ok (.aload_n 0, 1) := by decide +kernel
theorem dM2_9 : decode prog_41_method_13_code 9 = .ok (.getfield 32, 3) := by decide +kernel
theorem dM2_12 : decode prog_41_method_13_code 12 = .ok (.iload_n 1, 1) := by decide +kernel
theorem dM2_13 : decode prog_41_method_13_code 13 = .ok (.daload, 1) := by decide +kernel
theorem dM2_14 : decode prog_41_method_13_code 14 = .ok (.dconst 0, 1) := by decide +kernel
theorem dM2_15 : decode prog_41_method_13_code 15 = .ok (.dcmp .l, 1) := by decide +kernel
theorem dM2_16 : decode prog_41_method_13_code 16 = .ok (.ifCond .ne 4, 3) := by decide +kernel
theorem dM2_19 : decode prog_41_method_13_code 19 = .ok (.return_, 1) := by decide +kernel
theorem dM2_20 : decode prog_41_method_13_code 20 = .ok (.aload_n 0, 1) := by decide +kernel
theorem dM2_21 : decode prog_41_method_13_code 21 = .ok (.getfield 39, 3) := by decide +kernel
theorem dM2_24 : decode prog_41_method_13_code 24 = .ok (.iload_n 1, 1) := by decide +kernel
theorem dM2_25 : decode prog_41_method_13_code 25 = .ok (.iaload, 1) := by decide +kernel
theorem dM2_26 : decode prog_41_method_13_code 26 = .ok (.ifCond .eq 31, 3) := by decide +kernel
theorem dM2_57 : decode prog_41_method_13_code 57 = .ok (.aload_n 0, 1) := by decide +kernel
theorem dM2_58 : decode prog_41_method_13_code 58 = .ok (.getfield 39, 3) := by decide +kernel
theorem dM2_61 : decode prog_41_method_13_code 61 = .ok (.iload_n 1, 1) := by decide +kernel
theorem dM2_62 : decode prog_41_method_13_code 62 = .ok (.iload_n 2, 1) := by decide +kernel
theorem dM2_63 : decode prog_41_method_13_code 63 = .ok (.iastore, 1) := by decide +kernel
theorem dM2_64 : decode prog_41_method_13_code 64 = .ok (.aload_n 0, 1) := by decide +kernel
theorem dM2_65 : decode prog_41_method_13_code 65 = .ok (.getfield 32, 3) := by decide +kernel
theorem dM2_68 : decode prog_41_method_13_code 68 = .ok (.iload_n 1, 1) := by decide +kernel
theorem dM2_69 : decode prog_41_method_13_code 69 = .ok (.dconst 0, 1) := by decide +kernel
theorem dM2_70 : decode prog_41_method_13_code 70 = .ok (.aload_n 0, 1) := by decide +kernel
theorem dM2_71 : decode prog_41_method_13_code 71 = .ok (.getfield 32, 3) := by decide +kernel
theorem dM2_74 : decode prog_41_method_13_code 74 = .ok (.iload_n 1, 1) := by decide +kernel
theorem dM2_75 : decode prog_41_method_13_code 75 = .ok (.daload, 1) := by decide +kernel
theorem dM2_76 : decode prog_41_method_13_code 76 = .ok (.iload_n 2, 1) := by decide +kernel
theorem dM2_77 : decode prog_41_method_13_code 77 = .ok (.i2d, 1) := by decide +kernel
theorem dM2_78 : decode prog_41_method_13_code 78 = .ok (.aload_n 0, 1) := by decide +kernel
theorem dM2_79 : decode prog_41_method_13_code 79 = .ok (.getfield 36, 3) := by decide +kernel
theorem dM2_82 : decode prog_41_method_13_code 82 = .ok (.iload_n 1, 1) := by decide +kernel
theorem dM2_83 : decode prog_41_method_13_code 83 = .ok (.daload, 1) := by decide +kernel
theorem dM2_84 : decode prog_41_method_13_code 84 = .ok (.dmul, 1) := by decide +kernel
theorem dM2_85 : decode prog_41_method_13_code 85 = .ok (.dadd, 1) := by decide +kernel
theorem dM2_86 : decode prog_41_method_13_code 86 = .ok (.invokestatic 64, 3) := by decide +kernel
theorem dM2_89 : decode prog_41_method_13_code 89 = .ok (.dastore, 1) := by decide +kernel
theorem dM2_90 : decode prog_41_method_13_code 90 = .ok (.return_, 1) := by decide +kernel
theorem ef_rmM2 (m : MethodId) (a : Addr) (sd : Int32) : entryFrame m #[(.ref a), (.int (2 : Int32)), (.int sd)] 3 = mkF m 0 #[rv a, iv (2 : Int32), iv sd] [] := by first | (simp [entryFrame, mkF, argsToLocals, Value.category]; done) | rfl
def Q_rmM2 (Z : State) (a : Addr) (sd : Int32) (pri : Addr) (stp : Addr) (lst : Addr) (t : Int64) (x0 : UInt64) (x1 : UInt64) (x3 : UInt64) (x4 : UInt64) (z0 : Int32) (z1 : Int32) (z3 : Int32) (z4 : Int32) (h0 : Heap) (n0 : Nat) (v : Option Value) (h : Heap) (L : List Loc) : Prop := ∃ zz : Int32, v = none ∧ Fr n0 L ∧ Keep h0 h [pri, lst] ∧ Arl Z h pri .double [(.double x0), (.double x1), (.double (if (0 : Int32) < sd then (FP.l2d t) else (0 : UInt64))), (.double x3), (.double x4)] ∧ Arl Z h lst .int [(.int z0), (.int z1), (.int zz), (.int z3), (.int z4)]
set_option maxRecDepth 65536 in
set_option maxHeartbeats 40000000 in
theorem rmM2 (l : Launch) (Z : State) (a0 : Array Value) (hw : ∀ d ∈ tables_1, d.before a0 Z = true) (a : Addr) (sd : Int32) (pri : Addr) (stp : Addr) (lst : Addr) (t : Int64) (x0 : UInt64) (x1 : UInt64) (x3 : UInt64) (x4 : UInt64) (z0 : Int32) (z1 : Int32) (z3 : Int32) (z4 : Int32) (h0 : Heap) (n0 : Nat) (Z0 : n0 ≤ h0.size) (F_a_price : Fld Z h0 a "com/example/wardwise/wardwise/solver/LimitPrices" "price" "[D" (.ref pri)) (F_a_stepSize : Fld Z h0 a "com/example/wardwise/wardwise/solver/LimitPrices" "stepSize" "[D" (.ref stp)) (F_a_lastSide : Fld Z h0 a "com/example/wardwise/wardwise/solver/LimitPrices" "lastSide" "[I" (.ref lst)) (A_pri : Arl Z h0 pri .double [(.double x0), (.double x1), (.double (0 : UInt64)), (.double x3), (.double x4)]) (A_stp : Arl Z h0 stp .double [(.double (FP.l2d t)), (.double (FP.l2d t)), (.double (FP.l2d t)), (.double (FP.l2d t)), (.double (FP.l2d t))]) (A_lst : Arl Z h0 lst .int [(.int z0), (.int z1), (.int (0 : Int32)), (.int z3), (.int z4)]) (ne_a_pri : a ≠ pri) (ne_a_stp : a ≠ stp) (ne_a_lst : a ≠ lst) (ne_pri_stp : pri ≠ stp) (ne_pri_lst : pri ≠ lst) (ne_stp_lst : stp ≠ lst) (g_pri : n0 ≤ pri) (g_lst : n0 ≤ lst) (hs : sd = -1 ∨ sd = 0 ∨ sd = 1) (ht : 0 ≤ t.toInt ∧ t.toInt ≤ 255) :
    Ctr l Z h0 (⟨"com/example/wardwise/wardwise/solver/LimitPrices", "move", "(II)V"⟩ : MethodName) prog_41_method_13_code 3 none [] ({ frames := 1, cells := 0, slots := 0, locals := 17 } : Room) #[(.ref a), (.int (2 : Int32)), (.int sd)] (Q_rmM2 Z a sd pri stp lst t x0 x1 x3 x4 z0 z1 z3 z4 h0 n0) := by
  refine Ctr.make (plainFor_of_name pn_40) fun p e s m below meth c s₁ K hret hml hx hby hown hnm hZ X0 e0 hK => ?_
  have hown : s.vm.findClass "com/example/wardwise/wardwise/solver/LimitPrices" = some m.cls := hown
  have N0 := Fr.nil n0
  have K0 : Keep h0 h0 [pri, lst] := Keep.refl _ _
  refine Wlk.of (fun _ k => castTop (ef_rmM2 m a sd) k) ?_
  show Wlk p.tables e below (s₁.setTop (mkF m 0 #[rv a, iv (2 : Int32), iv sd] [])) K
  refine Wlk.of (fun _ k => XS.iloadN X0.here hx rfl (hb hby dM2_0) rfl k) ?_
  show Wlk p.tables e below (s₁.setTop (mkF m 1 #[rv a, iv (2 : Int32), iv sd] [(.int sd)])) K
  by_cases hc1 : sd = (0 : Int32)
  · refine Wlk.of (fun _ k => XS.ifYes X0.here hx rfl (pc0 := 1) (pc' := 19) rfl (hb hby dM2_1) rfl ((if0 _ _).trans (teq hc1).1) (by decide) (by decide) k) ?_
    show Wlk p.tables e below (s₁.setTop (mkF m 19 #[rv a, iv (2 : Int32), iv sd] [])) K
    refine hK none X0 (fun q => rfl) (fun fs hr => X0.returnOut hx hret (hb hby dM2_19) hr) ?_ (by decide) (by decide)
    rw [show s₁.heap = h0 from e0]
    exact ⟨(0 : Int32), rfl, N0, K0, (by rw [if_neg (show ¬ (0 : Int32) < sd by rw [hc1]; decide)]; exact A_pri), A_lst⟩
  · refine Wlk.of (fun _ k => XS.ifNo X0.here hx rfl (hb hby dM2_1) rfl ((if0 _ _).trans (feq hc1).1) k) ?_
    show Wlk p.tables e below (s₁.setTop (mkF m 4 #[rv a, iv (2 : Int32), iv sd] [])) K
    refine Wlk.of (fun _ k => XS.iloadN X0.here hx rfl (hb hby dM2_4) rfl k) ?_
    show Wlk p.tables e below (s₁.setTop (mkF m 5 #[rv a, iv (2 : Int32), iv sd] [(.int sd)])) K
    by_cases hc2 : sd < (0 : Int32)
    · refine Wlk.of (fun _ k => XS.ifNo X0.here hx rfl (hb hby dM2_5) rfl ((if0 _ _).trans (tlt hc2).2.1) k) ?_
      show Wlk p.tables e below (s₁.setTop (mkF m 8 #[rv a, iv (2 : Int32), iv sd] [])) K
      refine Wlk.of (fun _ k => XS.aloadN X0.here hx rfl (hb hby dM2_8) rfl rfl k) ?_
      show Wlk p.tables e below (s₁.setTop (mkF m 9 #[rv a, iv (2 : Int32), iv sd] [(.ref a)])) K
      obtain ⟨T3, X3, e3, st3⟩ := getF X0 hx hZ hown (host := "") (Or.inl (wd hw 23 rfl)) Via.refl e0 F_a_price (g := (mkF m 9 #[rv a, iv (2 : Int32), iv sd] [(.ref a)])) rfl rfl (hb hby dM2_9)
      refine Wlk.of (fun _ k => st3 _ k) ?_
      show Wlk p.tables e below (T3.setTop (mkF m 12 #[rv a, iv (2 : Int32), iv sd] [(.ref pri)])) K
      refine Wlk.of (fun _ k => XS.iloadN X3.here hx rfl (hb hby dM2_12) rfl k) ?_
      show Wlk p.tables e below (T3.setTop (mkF m 13 #[rv a, iv (2 : Int32), iv sd] [(.int (2 : Int32)), (.ref pri)])) K
      refine Wlk.of (fun _ k => ldD X3 hx hZ e3 A_pri (j := (2 : Int32)) (i := 2) (by decide) (by decide) rfl (g := (mkF m 13 #[rv a, iv (2 : Int32), iv sd] [(.int (2 : Int32)), (.ref pri)])) rfl rfl (hb hby dM2_13) _ k) ?_
      show Wlk p.tables e below (T3.setTop (mkF m 14 #[rv a, iv (2 : Int32), iv sd] [(.double (0 : UInt64))])) K
      refine Wlk.of (fun _ k => XS.dconst0 X3.here hx rfl (hb hby dM2_14) rfl k) ?_
      show Wlk p.tables e below (T3.setTop (mkF m 15 #[rv a, iv (2 : Int32), iv sd] [(.double FP.dconst0), (.double (0 : UInt64))])) K
      refine Wlk.of (fun _ k => XS.dcmpS X3.here hx rfl (hb hby dM2_15) rfl rfl k) ?_
      show Wlk p.tables e below (T3.setTop (mkF m 16 #[rv a, iv (2 : Int32), iv sd] [(.int (cmpValue (FP.dcmp (0 : UInt64) FP.dconst0) .l))])) K
      refine Wlk.of (fun _ k => XS.ifNo X3.here hx rfl (hb hby dM2_16) rfl ((if0 _ _).trans (teq (show (cmpValue (FP.dcmp (0 : UInt64) FP.dconst0) .l) = (0 : Int32) by decide +kernel)).2) k) ?_
      show Wlk p.tables e below (T3.setTop (mkF m 19 #[rv a, iv (2 : Int32), iv sd] [])) K
      refine hK none X3 (fun q => rfl) (fun fs hr => X3.returnOut hx hret (hb hby dM2_19) hr) ?_ (by decide) (by decide)
      rw [show T3.heap = h0 from e3]
      exact ⟨(0 : Int32), rfl, N0, K0, (by rw [if_neg (own_neg hc2)]; exact A_pri), A_lst⟩
    · refine Wlk.of (fun _ k => XS.ifYes X0.here hx rfl (pc0 := 5) (pc' := 20) rfl (hb hby dM2_5) rfl ((if0 _ _).trans (flt hc2).2.1) (by decide) (by decide) k) ?_
      show Wlk p.tables e below (s₁.setTop (mkF m 20 #[rv a, iv (2 : Int32), iv sd] [])) K
      have hsd := own_pos hs hc1 hc2
      have hm1 := own_mul1 (t := t) hsd
      refine Wlk.of (fun _ k => XS.aloadN X0.here hx rfl (hb hby dM2_20) rfl rfl k) ?_
      show Wlk p.tables e below (s₁.setTop (mkF m 21 #[rv a, iv (2 : Int32), iv sd] [(.ref a)])) K
      obtain ⟨T4, X4, e4, st4⟩ := getF X0 hx hZ hown (host := "") (Or.inl (wd hw 27 rfl)) Via.refl e0 F_a_lastSide (g := (mkF m 21 #[rv a, iv (2 : Int32), iv sd] [(.ref a)])) rfl rfl (hb hby dM2_21)
      refine Wlk.of (fun _ k => st4 _ k) ?_
      show Wlk p.tables e below (T4.setTop (mkF m 24 #[rv a, iv (2 : Int32), iv sd] [(.ref lst)])) K
      refine Wlk.of (fun _ k => XS.iloadN X4.here hx rfl (hb hby dM2_24) rfl k) ?_
      show Wlk p.tables e below (T4.setTop (mkF m 25 #[rv a, iv (2 : Int32), iv sd] [(.int (2 : Int32)), (.ref lst)])) K
      refine Wlk.of (fun _ k => ldI X4 hx hZ e4 A_lst (j := (2 : Int32)) (i := 2) (by decide) (by decide) rfl (g := (mkF m 25 #[rv a, iv (2 : Int32), iv sd] [(.int (2 : Int32)), (.ref lst)])) rfl rfl (hb hby dM2_25) _ k) ?_
      show Wlk p.tables e below (T4.setTop (mkF m 26 #[rv a, iv (2 : Int32), iv sd] [(.int (0 : Int32))])) K
      refine Wlk.of (fun _ k => XS.ifYes X4.here hx rfl (pc0 := 26) (pc' := 57) rfl (hb hby dM2_26) rfl ((if0 _ _).trans (teq (by decide : (0 : Int32) = (0 : Int32))).1) (by decide) (by decide) k) ?_
      show Wlk p.tables e below (T4.setTop (mkF m 57 #[rv a, iv (2 : Int32), iv sd] [])) K
      refine Wlk.of (fun _ k => XS.aloadN X4.here hx rfl (hb hby dM2_57) rfl rfl k) ?_
      show Wlk p.tables e below (T4.setTop (mkF m 58 #[rv a, iv (2 : Int32), iv sd] [(.ref a)])) K
      obtain ⟨T5, X5, e5, st5⟩ := getF X4 hx hZ hown (host := "") (Or.inl (wd hw 27 rfl)) Via.refl e4 F_a_lastSide (g := (mkF m 58 #[rv a, iv (2 : Int32), iv sd] [(.ref a)])) rfl rfl (hb hby dM2_58)
      refine Wlk.of (fun _ k => st5 _ k) ?_
      show Wlk p.tables e below (T5.setTop (mkF m 61 #[rv a, iv (2 : Int32), iv sd] [(.ref lst)])) K
      refine Wlk.of (fun _ k => XS.iloadN X5.here hx rfl (hb hby dM2_61) rfl k) ?_
      show Wlk p.tables e below (T5.setTop (mkF m 62 #[rv a, iv (2 : Int32), iv sd] [(.int (2 : Int32)), (.ref lst)])) K
      refine Wlk.of (fun _ k => XS.iloadN X5.here hx rfl (hb hby dM2_62) rfl k) ?_
      show Wlk p.tables e below (T5.setTop (mkF m 63 #[rv a, iv (2 : Int32), iv sd] [(.int sd), (.int (2 : Int32)), (.ref lst)])) K
      obtain ⟨T6, h6, X6, e6, W6, V6, st6⟩ := stIl X5 hx hZ e5 A_lst (j := (2 : Int32)) (i := 2) (by decide) (by decide) (show 2 < 5 by decide) (g := (mkF m 63 #[rv a, iv (2 : Int32), iv sd] [(.int sd), (.int (2 : Int32)), (.ref lst)])) rfl rfl (hb hby dM2_63)
      refine Wlk.of (fun _ k => st6 _ k) ?_
      have K7 : Keep h0 h6 [pri, lst] := K0.wr W6 (Or.inl (List.mem_of_getElem? (i := 1) rfl))
      have N8 := Fr.snoc X6 N0 g_lst
      have Vw6 : Arl Z h6 lst .int [(.int z0), (.int z1), (.int sd), (.int z3), (.int z4)] := V6
      show Wlk p.tables e below (T6.setTop (mkF m 64 #[rv a, iv (2 : Int32), iv sd] [])) K
      refine Wlk.of (fun _ k => XS.aloadN X6.here hx rfl (hb hby dM2_64) rfl rfl k) ?_
      show Wlk p.tables e below (T6.setTop (mkF m 65 #[rv a, iv (2 : Int32), iv sd] [(.ref a)])) K
      have f9 : Fld Z h6 a "com/example/wardwise/wardwise/solver/LimitPrices" "price" "[D" (.ref pri) := (F_a_price.other W6 (Or.inl ne_a_lst))
      obtain ⟨T10, X10, e10, st10⟩ := getF X6 hx hZ hown (host := "") (Or.inl (wd hw 23 rfl)) Via.refl e6 f9 (g := (mkF m 65 #[rv a, iv (2 : Int32), iv sd] [(.ref a)])) rfl rfl (hb hby dM2_65)
      refine Wlk.of (fun _ k => st10 _ k) ?_
      show Wlk p.tables e below (T10.setTop (mkF m 68 #[rv a, iv (2 : Int32), iv sd] [(.ref pri)])) K
      refine Wlk.of (fun _ k => XS.iloadN X10.here hx rfl (hb hby dM2_68) rfl k) ?_
      show Wlk p.tables e below (T10.setTop (mkF m 69 #[rv a, iv (2 : Int32), iv sd] [(.int (2 : Int32)), (.ref pri)])) K
      refine Wlk.of (fun _ k => XS.dconst0 X10.here hx rfl (hb hby dM2_69) rfl k) ?_
      show Wlk p.tables e below (T10.setTop (mkF m 70 #[rv a, iv (2 : Int32), iv sd] [(.double FP.dconst0), (.int (2 : Int32)), (.ref pri)])) K
      refine Wlk.of (fun _ k => XS.aloadN X10.here hx rfl (hb hby dM2_70) rfl rfl k) ?_
      show Wlk p.tables e below (T10.setTop (mkF m 71 #[rv a, iv (2 : Int32), iv sd] [(.ref a), (.double FP.dconst0), (.int (2 : Int32)), (.ref pri)])) K
      obtain ⟨T11, X11, e11, st11⟩ := getF X10 hx hZ hown (host := "") (Or.inl (wd hw 23 rfl)) Via.refl e10 f9 (g := (mkF m 71 #[rv a, iv (2 : Int32), iv sd] [(.ref a), (.double FP.dconst0), (.int (2 : Int32)), (.ref pri)])) rfl rfl (hb hby dM2_71)
      refine Wlk.of (fun _ k => st11 _ k) ?_
      show Wlk p.tables e below (T11.setTop (mkF m 74 #[rv a, iv (2 : Int32), iv sd] [(.ref pri), (.double FP.dconst0), (.int (2 : Int32)), (.ref pri)])) K
      refine Wlk.of (fun _ k => XS.iloadN X11.here hx rfl (hb hby dM2_74) rfl k) ?_
      show Wlk p.tables e below (T11.setTop (mkF m 75 #[rv a, iv (2 : Int32), iv sd] [(.int (2 : Int32)), (.ref pri), (.double FP.dconst0), (.int (2 : Int32)), (.ref pri)])) K
      have f12 : Arl Z h6 pri .double [(.double x0), (.double x1), (.double (0 : UInt64)), (.double x3), (.double x4)] := (A_pri.other W6 ne_pri_lst)
      refine Wlk.of (fun _ k => ldD X11 hx hZ e11 f12 (j := (2 : Int32)) (i := 2) (by decide) (by decide) rfl (g := (mkF m 75 #[rv a, iv (2 : Int32), iv sd] [(.int (2 : Int32)), (.ref pri), (.double FP.dconst0), (.int (2 : Int32)), (.ref pri)])) rfl rfl (hb hby dM2_75) _ k) ?_
      show Wlk p.tables e below (T11.setTop (mkF m 76 #[rv a, iv (2 : Int32), iv sd] [(.double (0 : UInt64)), (.double FP.dconst0), (.int (2 : Int32)), (.ref pri)])) K
      refine Wlk.of (fun _ k => XS.iloadN X11.here hx rfl (hb hby dM2_76) rfl k) ?_
      show Wlk p.tables e below (T11.setTop (mkF m 77 #[rv a, iv (2 : Int32), iv sd] [(.int sd), (.double (0 : UInt64)), (.double FP.dconst0), (.int (2 : Int32)), (.ref pri)])) K
      refine Wlk.of (fun _ k => XS.i2dS X11.here hx rfl (hb hby dM2_77) rfl rfl k) ?_
      show Wlk p.tables e below (T11.setTop (mkF m 78 #[rv a, iv (2 : Int32), iv sd] [(.double (FP.i2d sd)), (.double (0 : UInt64)), (.double FP.dconst0), (.int (2 : Int32)), (.ref pri)])) K
      refine Wlk.of (fun _ k => XS.aloadN X11.here hx rfl (hb hby dM2_78) rfl rfl k) ?_
      show Wlk p.tables e below (T11.setTop (mkF m 79 #[rv a, iv (2 : Int32), iv sd] [(.ref a), (.double (FP.i2d sd)), (.double (0 : UInt64)), (.double FP.dconst0), (.int (2 : Int32)), (.ref pri)])) K
      have f13 : Fld Z h6 a "com/example/wardwise/wardwise/solver/LimitPrices" "stepSize" "[D" (.ref stp) := (F_a_stepSize.other W6 (Or.inl ne_a_lst))
      obtain ⟨T14, X14, e14, st14⟩ := getF X11 hx hZ hown (host := "") (Or.inl (wd hw 25 rfl)) Via.refl e11 f13 (g := (mkF m 79 #[rv a, iv (2 : Int32), iv sd] [(.ref a), (.double (FP.i2d sd)), (.double (0 : UInt64)), (.double FP.dconst0), (.int (2 : Int32)), (.ref pri)])) rfl rfl (hb hby dM2_79)
      refine Wlk.of (fun _ k => st14 _ k) ?_
      show Wlk p.tables e below (T14.setTop (mkF m 82 #[rv a, iv (2 : Int32), iv sd] [(.ref stp), (.double (FP.i2d sd)), (.double (0 : UInt64)), (.double FP.dconst0), (.int (2 : Int32)), (.ref pri)])) K
      refine Wlk.of (fun _ k => XS.iloadN X14.here hx rfl (hb hby dM2_82) rfl k) ?_
      show Wlk p.tables e below (T14.setTop (mkF m 83 #[rv a, iv (2 : Int32), iv sd] [(.int (2 : Int32)), (.ref stp), (.double (FP.i2d sd)), (.double (0 : UInt64)), (.double FP.dconst0), (.int (2 : Int32)), (.ref pri)])) K
      have f15 : Arl Z h6 stp .double [(.double (FP.l2d t)), (.double (FP.l2d t)), (.double (FP.l2d t)), (.double (FP.l2d t)), (.double (FP.l2d t))] := (A_stp.other W6 ne_stp_lst)
      refine Wlk.of (fun _ k => ldD X14 hx hZ e14 f15 (j := (2 : Int32)) (i := 2) (by decide) (by decide) rfl (g := (mkF m 83 #[rv a, iv (2 : Int32), iv sd] [(.int (2 : Int32)), (.ref stp), (.double (FP.i2d sd)), (.double (0 : UInt64)), (.double FP.dconst0), (.int (2 : Int32)), (.ref pri)])) rfl rfl (hb hby dM2_83) _ k) ?_
      show Wlk p.tables e below (T14.setTop (mkF m 84 #[rv a, iv (2 : Int32), iv sd] [(.double (FP.l2d t)), (.double (FP.i2d sd)), (.double (0 : UInt64)), (.double FP.dconst0), (.int (2 : Int32)), (.ref pri)])) K
      refine Wlk.of (fun _ k => XS.dmulS X14.here hx rfl (hb hby dM2_84) rfl (Fl.dmul_out (Fl.i2d_fin _) (Fl.l2d_fin _)) rfl k) ?_
      show Wlk p.tables e below (T14.setTop (mkF m 85 #[rv a, iv (2 : Int32), iv sd] [(.double (FP.dmul (FP.i2d sd) (FP.l2d t))), (.double (0 : UInt64)), (.double FP.dconst0), (.int (2 : Int32)), (.ref pri)])) K
      refine Wlk.of (fun _ k => XS.daddS X14.here hx rfl (hb hby dM2_85) rfl (by rw [hm1, own_add0 ht]; exact (Fl.l2d_fin t).noNaN) rfl k) ?_
      show Wlk p.tables e below (T14.setTop (mkF m 86 #[rv a, iv (2 : Int32), iv sd] [(.double (FP.dadd (0 : UInt64) (FP.dmul (FP.i2d sd) (FP.l2d t)))), (.double FP.dconst0), (.int (2 : Int32)), (.ref pri)])) K
      obtain ⟨T16, X16, e16, st16⟩ := paidS (y := (⟨"java/lang/Math", "max", "(DD)D"⟩ : MethodName)) (val := (.double (FP.l2d t))) X14 hx hZ e14 hown (wd hw 54 rfl) (wd hw 55 rfl) (wd hw 56 rfl) (wd hw 57 rfl) (by decide) (W := 2) (Fl.Abs.maxD_pays FP.dconst0 (FP.dadd (0 : UInt64) (FP.dmul (FP.i2d sd) (FP.l2d t))) (mvT hZ (wd hw 57 rfl)) (by decide) (by decide)) pd_89 (g := (mkF m 86 #[rv a, iv (2 : Int32), iv sd] [(.double (FP.dadd (0 : UInt64) (FP.dmul (FP.i2d sd) (FP.l2d t)))), (.double FP.dconst0), (.int (2 : Int32)), (.ref pri)])) rfl (by rw [hml]; rfl) (argsL := [(.double FP.dconst0), (.double (FP.dadd (0 : UInt64) (FP.dmul (FP.i2d sd) (FP.l2d t))))]) (rest := [(.int (2 : Int32)), (.ref pri)]) rfl rfl (by show 2 * 0 + _ ≤ _; exact Nat.le_of_eq rfl) (hb hby dM2_86) (fun _ _ => ⟨by show (0 : Nat) ≤ _; decide, by show (0 : Nat) ≤ _; decide, rfl, (by unfold Fl.NoNaN64; decide), (by rw [hm1, own_add0 ht]; exact (Fl.l2d_fin t).noNaN)⟩) (fun A v B h => ⟨by rw [h.1, hm1, own_add0 ht, own_max0 ht], by rw [h.2]; exact ⟨rfl, rfl, rfl, rfl⟩⟩)
      refine Wlk.of (fun _ k => st16 _ k) ?_
      show Wlk p.tables e below (T16.setTop (mkF m 89 #[rv a, iv (2 : Int32), iv sd] [(.double (FP.l2d t)), (.int (2 : Int32)), (.ref pri)])) K
      obtain ⟨T17, h17, X17, e17, W17, V17, st17⟩ := stDl X16 hx hZ e16 f12 (j := (2 : Int32)) (i := 2) (by decide) (by decide) (show 2 < 5 by decide) (g := (mkF m 89 #[rv a, iv (2 : Int32), iv sd] [(.double (FP.l2d t)), (.int (2 : Int32)), (.ref pri)])) rfl rfl (hb hby dM2_89)
      refine Wlk.of (fun _ k => st17 _ k) ?_
      have K18 : Keep h0 h17 [pri, lst] := K7.wr W17 (Or.inl (List.mem_of_getElem? (i := 0) rfl))
      have N19 := Fr.snoc X17 N8 g_pri
      have Vw17 : Arl Z h17 pri .double [(.double x0), (.double x1), (.double (FP.l2d t)), (.double x3), (.double x4)] := V17
      show Wlk p.tables e below (T17.setTop (mkF m 90 #[rv a, iv (2 : Int32), iv sd] [])) K
      have f20 : Arl Z h17 lst .int [(.int z0), (.int z1), (.int sd), (.int z3), (.int z4)] := (Vw6.other W17 (Ne.symm ne_pri_lst))
      refine hK none X17 (fun q => rfl) (fun fs hr => X17.returnOut hx hret (hb hby dM2_90) hr) ?_ (by decide) (by decide)
      rw [show T17.heap = h17 from e17]
      exact ⟨sd, rfl, N19, K18, (by rw [if_pos (show (0 : Int32) < sd by rw [hsd]; decide)]; exact Vw17), f20⟩
theorem dM3_0 : decode prog_41_method_13_code 0 = .ok (.iload_n 2, 1) := by decide +kernel
theorem dM3_1 : decode prog_41_method_13_code 1 = .ok (.ifCond .eq 18, 3) := by decide +kernel
theorem dM3_4 : decode prog_41_method_13_code 4 = .ok (.iload_n 2, 1) := by decide +kernel
theorem dM3_5 : decode prog_41_method_13_code 5 = .ok (.ifCond .ge 15, 3) := by decide +kernel
theorem dM3_8 : decode prog_41_method_13_code 8 = .ok (.aload_n 0, 1) := by decide +kernel
theorem dM3_9 : decode prog_41_method_13_code 9 = .ok (.getfield 32, 3) := by decide +kernel
theorem dM3_12 : decode prog_41_method_13_code 12 = .ok (.iload_n 1, 1) := by decide +kernel
theorem dM3_13 : decode prog_41_method_13_code 13 = .ok (.daload, 1) := by decide +kernel
theorem dM3_14 : decode prog_41_method_13_code 14 = .ok (.dconst 0, 1) := by decide +kernel
theorem dM3_15 : decode prog_41_method_13_code 15 = .ok (.dcmp .l, 1) := by decide +kernel
theorem dM3_16 : decode prog_41_method_13_code 16 = .ok (.ifCond .ne 4, 3) := by decide +kernel
theorem dM3_19 : decode prog_41_method_13_code 19 = .ok (.return_, 1) := by decide +kernel
theorem dM3_20 : decode prog_41_method_13_code 20 = .ok (.aload_n 0, 1) := by decide +kernel
theorem dM3_21 : decode prog_41_method_13_code 21 = .ok (.getfield 39, 3) := by decide +kernel
theorem dM3_24 : decode prog_41_method_13_code 24 = .ok (.iload_n 1, 1) := by decide +kernel
theorem dM3_25 : decode prog_41_method_13_code 25 = .ok (.iaload, 1) := by decide +kernel
theorem dM3_26 : decode prog_41_method_13_code 26 = .ok (.ifCond .eq 31, 3) := by decide +kernel
theorem dM3_57 : decode prog_41_method_13_code 57 = .ok (.aload_n 0, 1) := by decide +kernel
theorem dM3_58 : decode prog_41_method_13_code 58 = .ok (.getfield 39, 3) := by decide +kernel
theorem dM3_61 : decode prog_41_method_13_code 61 = .ok (.iload_n 1, 1) := by decide +kernel
theorem dM3_62 : decode prog_41_method_13_code 62 = .ok (.iload_n 2, 1) := by decide +kernel
theorem dM3_63 : decode prog_41_method_13_code 63 = .ok (.iastore, 1) := by decide +kernel
theorem dM3_64 : decode prog_41_method_13_code 64 = .ok (.aload_n 0, 1) := by decide +kernel
theorem dM3_65 : decode prog_41_method_13_code 65 = .ok (.getfield 32, 3) := by decide +kernel
theorem dM3_68 : decode prog_41_method_13_code 68 = .ok (.iload_n 1, 1) := by decide +kernel
theorem dM3_69 : decode prog_41_method_13_code 69 = .ok (.dconst 0, 1) := by decide +kernel
theorem dM3_70 : decode prog_41_method_13_code 70 = .ok (.aload_n 0, 1) := by decide +kernel
theorem dM3_71 : decode prog_41_method_13_code 71 = .ok (.getfield 32, 3) := by decide +kernel
theorem dM3_74 : decode prog_41_method_13_code 74 = .ok (.iload_n 1, 1) := by decide +kernel
theorem dM3_75 : decode prog_41_method_13_code 75 = .ok (.daload, 1) := by decide +kernel
theorem dM3_76 : decode prog_41_method_13_code 76 = .ok (.iload_n 2, 1) := by decide +kernel
theorem dM3_77 : decode prog_41_method_13_code 77 = .ok (.i2d, 1) := by decide +kernel
theorem dM3_78 : decode prog_41_method_13_code 78 = .ok (.aload_n 0, 1) := by decide +kernel
theorem dM3_79 : decode prog_41_method_13_code 79 = .ok (.getfield 36, 3) := by decide +kernel
theorem dM3_82 : decode prog_41_method_13_code 82 = .ok (.iload_n 1, 1) := by decide +kernel
theorem dM3_83 : decode prog_41_method_13_code 83 = .ok (.daload, 1) := by decide +kernel
theorem dM3_84 : decode prog_41_method_13_code 84 = .ok (.dmul, 1) := by decide +kernel
theorem dM3_85 : decode prog_41_method_13_code 85 = .ok (.dadd, 1) := by decide +kernel
theorem dM3_86 : decode prog_41_method_13_code 86 = .ok (.invokestatic 64, 3) := by decide +kernel
theorem dM3_89 : decode prog_41_method_13_code 89 = .ok (.dastore, 1) := by decide +kernel
theorem dM3_90 : decode prog_41_method_13_code 90 = .ok (.return_, 1) := by decide +kernel
theorem ef_rmM3 (m : MethodId) (a : Addr) (sd : Int32) : entryFrame m #[(.ref a), (.int (3 : Int32)), (.int sd)] 3 = mkF m 0 #[rv a, iv (3 : Int32), iv sd] [] := by first | (simp [entryFrame, mkF, argsToLocals, Value.category]; done) | rfl
def Q_rmM3 (Z : State) (a : Addr) (sd : Int32) (pri : Addr) (stp : Addr) (lst : Addr) (t : Int64) (x0 : UInt64) (x1 : UInt64) (x2 : UInt64) (x4 : UInt64) (z0 : Int32) (z1 : Int32) (z2 : Int32) (z4 : Int32) (h0 : Heap) (n0 : Nat) (v : Option Value) (h : Heap) (L : List Loc) : Prop := ∃ zz : Int32, v = none ∧ Fr n0 L ∧ Keep h0 h [pri, lst] ∧ Arl Z h pri .double [(.double x0), (.double x1), (.double x2), (.double (if (0 : Int32) < sd then (FP.l2d t) else (0 : UInt64))), (.double x4)] ∧ Arl Z h lst .int [(.int z0), (.int z1), (.int z2), (.int zz), (.int z4)]
set_option maxRecDepth 65536 in
set_option maxHeartbeats 40000000 in
theorem rmM3 (l : Launch) (Z : State) (a0 : Array Value) (hw : ∀ d ∈ tables_1, d.before a0 Z = true) (a : Addr) (sd : Int32) (pri : Addr) (stp : Addr) (lst : Addr) (t : Int64) (x0 : UInt64) (x1 : UInt64) (x2 : UInt64) (x4 : UInt64) (z0 : Int32) (z1 : Int32) (z2 : Int32) (z4 : Int32) (h0 : Heap) (n0 : Nat) (Z0 : n0 ≤ h0.size) (F_a_price : Fld Z h0 a "com/example/wardwise/wardwise/solver/LimitPrices" "price" "[D" (.ref pri)) (F_a_stepSize : Fld Z h0 a "com/example/wardwise/wardwise/solver/LimitPrices" "stepSize" "[D" (.ref stp)) (F_a_lastSide : Fld Z h0 a "com/example/wardwise/wardwise/solver/LimitPrices" "lastSide" "[I" (.ref lst)) (A_pri : Arl Z h0 pri .double [(.double x0), (.double x1), (.double x2), (.double (0 : UInt64)), (.double x4)]) (A_stp : Arl Z h0 stp .double [(.double (FP.l2d t)), (.double (FP.l2d t)), (.double (FP.l2d t)), (.double (FP.l2d t)), (.double (FP.l2d t))]) (A_lst : Arl Z h0 lst .int [(.int z0), (.int z1), (.int z2), (.int (0 : Int32)), (.int z4)]) (ne_a_pri : a ≠ pri) (ne_a_stp : a ≠ stp) (ne_a_lst : a ≠ lst) (ne_pri_stp : pri ≠ stp) (ne_pri_lst : pri ≠ lst) (ne_stp_lst : stp ≠ lst) (g_pri : n0 ≤ pri) (g_lst : n0 ≤ lst) (hs : sd = -1 ∨ sd = 0 ∨ sd = 1) (ht : 0 ≤ t.toInt ∧ t.toInt ≤ 255) :
    Ctr l Z h0 (⟨"com/example/wardwise/wardwise/solver/LimitPrices", "move", "(II)V"⟩ : MethodName) prog_41_method_13_code 3 none [] ({ frames := 1, cells := 0, slots := 0, locals := 17 } : Room) #[(.ref a), (.int (3 : Int32)), (.int sd)] (Q_rmM3 Z a sd pri stp lst t x0 x1 x2 x4 z0 z1 z2 z4 h0 n0) := by
  refine Ctr.make (plainFor_of_name pn_40) fun p e s m below meth c s₁ K hret hml hx hby hown hnm hZ X0 e0 hK => ?_
  have hown : s.vm.findClass "com/example/wardwise/wardwise/solver/LimitPrices" = some m.cls := hown
  have N0 := Fr.nil n0
  have K0 : Keep h0 h0 [pri, lst] := Keep.refl _ _
  refine Wlk.of (fun _ k => castTop (ef_rmM3 m a sd) k) ?_
  show Wlk p.tables e below (s₁.setTop (mkF m 0 #[rv a, iv (3 : Int32), iv sd] [])) K
  refine Wlk.of (fun _ k => XS.iloadN X0.here hx rfl (hb hby dM3_0) rfl k) ?_
  show Wlk p.tables e below (s₁.setTop (mkF m 1 #[rv a, iv (3 : Int32), iv sd] [(.int sd)])) K
  by_cases hc1 : sd = (0 : Int32)
  · refine Wlk.of (fun _ k => XS.ifYes X0.here hx rfl (pc0 := 1) (pc' := 19) rfl (hb hby dM3_1) rfl ((if0 _ _).trans (teq hc1).1) (by decide) (by decide) k) ?_
    show Wlk p.tables e below (s₁.setTop (mkF m 19 #[rv a, iv (3 : Int32), iv sd] [])) K
    refine hK none X0 (fun q => rfl) (fun fs hr => X0.returnOut hx hret (hb hby dM3_19) hr) ?_ (by decide) (by decide)
    rw [show s₁.heap = h0 from e0]
    exact ⟨(0 : Int32), rfl, N0, K0, (by rw [if_neg (show ¬ (0 : Int32) < sd by rw [hc1]; decide)]; exact A_pri), A_lst⟩
  · refine Wlk.of (fun _ k => XS.ifNo X0.here hx rfl (hb hby dM3_1) rfl ((if0 _ _).trans (feq hc1).1) k) ?_
    show Wlk p.tables e below (s₁.setTop (mkF m 4 #[rv a, iv (3 : Int32), iv sd] [])) K
    refine Wlk.of (fun _ k => XS.iloadN X0.here hx rfl (hb hby dM3_4) rfl k) ?_
    show Wlk p.tables e below (s₁.setTop (mkF m 5 #[rv a, iv (3 : Int32), iv sd] [(.int sd)])) K
    by_cases hc2 : sd < (0 : Int32)
    · refine Wlk.of (fun _ k => XS.ifNo X0.here hx rfl (hb hby dM3_5) rfl ((if0 _ _).trans (tlt hc2).2.1) k) ?_
      show Wlk p.tables e below (s₁.setTop (mkF m 8 #[rv a, iv (3 : Int32), iv sd] [])) K
      refine Wlk.of (fun _ k => XS.aloadN X0.here hx rfl (hb hby dM3_8) rfl rfl k) ?_
      show Wlk p.tables e below (s₁.setTop (mkF m 9 #[rv a, iv (3 : Int32), iv sd] [(.ref a)])) K
      obtain ⟨T3, X3, e3, st3⟩ := getF X0 hx hZ hown (host := "") (Or.inl (wd hw 23 rfl)) Via.refl e0 F_a_price (g := (mkF m 9 #[rv a, iv (3 : Int32), iv sd] [(.ref a)])) rfl rfl (hb hby dM3_9)
      refine Wlk.of (fun _ k => st3 _ k) ?_
      show Wlk p.tables e below (T3.setTop (mkF m 12 #[rv a, iv (3 : Int32), iv sd] [(.ref pri)])) K
      refine Wlk.of (fun _ k => XS.iloadN X3.here hx rfl (hb hby dM3_12) rfl k) ?_
      show Wlk p.tables e below (T3.setTop (mkF m 13 #[rv a, iv (3 : Int32), iv sd] [(.int (3 : Int32)), (.ref pri)])) K
      refine Wlk.of (fun _ k => ldD X3 hx hZ e3 A_pri (j := (3 : Int32)) (i := 3) (by decide) (by decide) rfl (g := (mkF m 13 #[rv a, iv (3 : Int32), iv sd] [(.int (3 : Int32)), (.ref pri)])) rfl rfl (hb hby dM3_13) _ k) ?_
      show Wlk p.tables e below (T3.setTop (mkF m 14 #[rv a, iv (3 : Int32), iv sd] [(.double (0 : UInt64))])) K
      refine Wlk.of (fun _ k => XS.dconst0 X3.here hx rfl (hb hby dM3_14) rfl k) ?_
      show Wlk p.tables e below (T3.setTop (mkF m 15 #[rv a, iv (3 : Int32), iv sd] [(.double FP.dconst0), (.double (0 : UInt64))])) K
      refine Wlk.of (fun _ k => XS.dcmpS X3.here hx rfl (hb hby dM3_15) rfl rfl k) ?_
      show Wlk p.tables e below (T3.setTop (mkF m 16 #[rv a, iv (3 : Int32), iv sd] [(.int (cmpValue (FP.dcmp (0 : UInt64) FP.dconst0) .l))])) K
      refine Wlk.of (fun _ k => XS.ifNo X3.here hx rfl (hb hby dM3_16) rfl ((if0 _ _).trans (teq (show (cmpValue (FP.dcmp (0 : UInt64) FP.dconst0) .l) = (0 : Int32) by decide +kernel)).2) k) ?_
      show Wlk p.tables e below (T3.setTop (mkF m 19 #[rv a, iv (3 : Int32), iv sd] [])) K
      refine hK none X3 (fun q => rfl) (fun fs hr => X3.returnOut hx hret (hb hby dM3_19) hr) ?_ (by decide) (by decide)
      rw [show T3.heap = h0 from e3]
      exact ⟨(0 : Int32), rfl, N0, K0, (by rw [if_neg (own_neg hc2)]; exact A_pri), A_lst⟩
    · refine Wlk.of (fun _ k => XS.ifYes X0.here hx rfl (pc0 := 5) (pc' := 20) rfl (hb hby dM3_5) rfl ((if0 _ _).trans (flt hc2).2.1) (by decide) (by decide) k) ?_
      show Wlk p.tables e below (s₁.setTop (mkF m 20 #[rv a, iv (3 : Int32), iv sd] [])) K
      have hsd := own_pos hs hc1 hc2
      have hm1 := own_mul1 (t := t) hsd
      refine Wlk.of (fun _ k => XS.aloadN X0.here hx rfl (hb hby dM3_20) rfl rfl k) ?_
      show Wlk p.tables e below (s₁.setTop (mkF m 21 #[rv a, iv (3 : Int32), iv sd] [(.ref a)])) K
      obtain ⟨T4, X4, e4, st4⟩ := getF X0 hx hZ hown (host := "") (Or.inl (wd hw 27 rfl)) Via.refl e0 F_a_lastSide (g := (mkF m 21 #[rv a, iv (3 : Int32), iv sd] [(.ref a)])) rfl rfl (hb hby dM3_21)
      refine Wlk.of (fun _ k => st4 _ k) ?_
      show Wlk p.tables e below (T4.setTop (mkF m 24 #[rv a, iv (3 : Int32), iv sd] [(.ref lst)])) K
      refine Wlk.of (fun _ k => XS.iloadN X4.here hx rfl (hb hby dM3_24) rfl k) ?_
      show Wlk p.tables e below (T4.setTop (mkF m 25 #[rv a, iv (3 : Int32), iv sd] [(.int (3 : Int32)), (.ref lst)])) K
      refine Wlk.of (fun _ k => ldI X4 hx hZ e4 A_lst (j := (3 : Int32)) (i := 3) (by decide) (by decide) rfl (g := (mkF m 25 #[rv a, iv (3 : Int32), iv sd] [(.int (3 : Int32)), (.ref lst)])) rfl rfl (hb hby dM3_25) _ k) ?_
      show Wlk p.tables e below (T4.setTop (mkF m 26 #[rv a, iv (3 : Int32), iv sd] [(.int (0 : Int32))])) K
      refine Wlk.of (fun _ k => XS.ifYes X4.here hx rfl (pc0 := 26) (pc' := 57) rfl (hb hby dM3_26) rfl ((if0 _ _).trans (teq (by decide : (0 : Int32) = (0 : Int32))).1) (by decide) (by decide) k) ?_
      show Wlk p.tables e below (T4.setTop (mkF m 57 #[rv a, iv (3 : Int32), iv sd] [])) K
      refine Wlk.of (fun _ k => XS.aloadN X4.here hx rfl (hb hby dM3_57) rfl rfl k) ?_
      show Wlk p.tables e below (T4.setTop (mkF m 58 #[rv a, iv (3 : Int32), iv sd] [(.ref a)])) K
      obtain ⟨T5, X5, e5, st5⟩ := getF X4 hx hZ hown (host := "") (Or.inl (wd hw 27 rfl)) Via.refl e4 F_a_lastSide (g := (mkF m 58 #[rv a, iv (3 : Int32), iv sd] [(.ref a)])) rfl rfl (hb hby dM3_58)
      refine Wlk.of (fun _ k => st5 _ k) ?_
      show Wlk p.tables e below (T5.setTop (mkF m 61 #[rv a, iv (3 : Int32), iv sd] [(.ref lst)])) K
      refine Wlk.of (fun _ k => XS.iloadN X5.here hx rfl (hb hby dM3_61) rfl k) ?_
      show Wlk p.tables e below (T5.setTop (mkF m 62 #[rv a, iv (3 : Int32), iv sd] [(.int (3 : Int32)), (.ref lst)])) K
      refine Wlk.of (fun _ k => XS.iloadN X5.here hx rfl (hb hby dM3_62) rfl k) ?_
      show Wlk p.tables e below (T5.setTop (mkF m 63 #[rv a, iv (3 : Int32), iv sd] [(.int sd), (.int (3 : Int32)), (.ref lst)])) K
      obtain ⟨T6, h6, X6, e6, W6, V6, st6⟩ := stIl X5 hx hZ e5 A_lst (j := (3 : Int32)) (i := 3) (by decide) (by decide) (show 3 < 5 by decide) (g := (mkF m 63 #[rv a, iv (3 : Int32), iv sd] [(.int sd), (.int (3 : Int32)), (.ref lst)])) rfl rfl (hb hby dM3_63)
      refine Wlk.of (fun _ k => st6 _ k) ?_
      have K7 : Keep h0 h6 [pri, lst] := K0.wr W6 (Or.inl (List.mem_of_getElem? (i := 1) rfl))
      have N8 := Fr.snoc X6 N0 g_lst
      have Vw6 : Arl Z h6 lst .int [(.int z0), (.int z1), (.int z2), (.int sd), (.int z4)] := V6
      show Wlk p.tables e below (T6.setTop (mkF m 64 #[rv a, iv (3 : Int32), iv sd] [])) K
      refine Wlk.of (fun _ k => XS.aloadN X6.here hx rfl (hb hby dM3_64) rfl rfl k) ?_
      show Wlk p.tables e below (T6.setTop (mkF m 65 #[rv a, iv (3 : Int32), iv sd] [(.ref a)])) K
      have f9 : Fld Z h6 a "com/example/wardwise/wardwise/solver/LimitPrices" "price" "[D" (.ref pri) := (F_a_price.other W6 (Or.inl ne_a_lst))
      obtain ⟨T10, X10, e10, st10⟩ := getF X6 hx hZ hown (host := "") (Or.inl (wd hw 23 rfl)) Via.refl e6 f9 (g := (mkF m 65 #[rv a, iv (3 : Int32), iv sd] [(.ref a)])) rfl rfl (hb hby dM3_65)
      refine Wlk.of (fun _ k => st10 _ k) ?_
      show Wlk p.tables e below (T10.setTop (mkF m 68 #[rv a, iv (3 : Int32), iv sd] [(.ref pri)])) K
      refine Wlk.of (fun _ k => XS.iloadN X10.here hx rfl (hb hby dM3_68) rfl k) ?_
      show Wlk p.tables e below (T10.setTop (mkF m 69 #[rv a, iv (3 : Int32), iv sd] [(.int (3 : Int32)), (.ref pri)])) K
      refine Wlk.of (fun _ k => XS.dconst0 X10.here hx rfl (hb hby dM3_69) rfl k) ?_
      show Wlk p.tables e below (T10.setTop (mkF m 70 #[rv a, iv (3 : Int32), iv sd] [(.double FP.dconst0), (.int (3 : Int32)), (.ref pri)])) K
      refine Wlk.of (fun _ k => XS.aloadN X10.here hx rfl (hb hby dM3_70) rfl rfl k) ?_
      show Wlk p.tables e below (T10.setTop (mkF m 71 #[rv a, iv (3 : Int32), iv sd] [(.ref a), (.double FP.dconst0), (.int (3 : Int32)), (.ref pri)])) K
      obtain ⟨T11, X11, e11, st11⟩ := getF X10 hx hZ hown (host := "") (Or.inl (wd hw 23 rfl)) Via.refl e10 f9 (g := (mkF m 71 #[rv a, iv (3 : Int32), iv sd] [(.ref a), (.double FP.dconst0), (.int (3 : Int32)), (.ref pri)])) rfl rfl (hb hby dM3_71)
      refine Wlk.of (fun _ k => st11 _ k) ?_
      show Wlk p.tables e below (T11.setTop (mkF m 74 #[rv a, iv (3 : Int32), iv sd] [(.ref pri), (.double FP.dconst0), (.int (3 : Int32)), (.ref pri)])) K
      refine Wlk.of (fun _ k => XS.iloadN X11.here hx rfl (hb hby dM3_74) rfl k) ?_
      show Wlk p.tables e below (T11.setTop (mkF m 75 #[rv a, iv (3 : Int32), iv sd] [(.int (3 : Int32)), (.ref pri), (.double FP.dconst0), (.int (3 : Int32)), (.ref pri)])) K
      have f12 : Arl Z h6 pri .double [(.double x0), (.double x1), (.double x2), (.double (0 : UInt64)), (.double x4)] := (A_pri.other W6 ne_pri_lst)
      refine Wlk.of (fun _ k => ldD X11 hx hZ e11 f12 (j := (3 : Int32)) (i := 3) (by decide) (by decide) rfl (g := (mkF m 75 #[rv a, iv (3 : Int32), iv sd] [(.int (3 : Int32)), (.ref pri), (.double FP.dconst0), (.int (3 : Int32)), (.ref pri)])) rfl rfl (hb hby dM3_75) _ k) ?_
      show Wlk p.tables e below (T11.setTop (mkF m 76 #[rv a, iv (3 : Int32), iv sd] [(.double (0 : UInt64)), (.double FP.dconst0), (.int (3 : Int32)), (.ref pri)])) K
      refine Wlk.of (fun _ k => XS.iloadN X11.here hx rfl (hb hby dM3_76) rfl k) ?_
      show Wlk p.tables e below (T11.setTop (mkF m 77 #[rv a, iv (3 : Int32), iv sd] [(.int sd), (.double (0 : UInt64)), (.double FP.dconst0), (.int (3 : Int32)), (.ref pri)])) K
      refine Wlk.of (fun _ k => XS.i2dS X11.here hx rfl (hb hby dM3_77) rfl rfl k) ?_
      show Wlk p.tables e below (T11.setTop (mkF m 78 #[rv a, iv (3 : Int32), iv sd] [(.double (FP.i2d sd)), (.double (0 : UInt64)), (.double FP.dconst0), (.int (3 : Int32)), (.ref pri)])) K
      refine Wlk.of (fun _ k => XS.aloadN X11.here hx rfl (hb hby dM3_78) rfl rfl k) ?_
      show Wlk p.tables e below (T11.setTop (mkF m 79 #[rv a, iv (3 : Int32), iv sd] [(.ref a), (.double (FP.i2d sd)), (.double (0 : UInt64)), (.double FP.dconst0), (.int (3 : Int32)), (.ref pri)])) K
      have f13 : Fld Z h6 a "com/example/wardwise/wardwise/solver/LimitPrices" "stepSize" "[D" (.ref stp) := (F_a_stepSize.other W6 (Or.inl ne_a_lst))
      obtain ⟨T14, X14, e14, st14⟩ := getF X11 hx hZ hown (host := "") (Or.inl (wd hw 25 rfl)) Via.refl e11 f13 (g := (mkF m 79 #[rv a, iv (3 : Int32), iv sd] [(.ref a), (.double (FP.i2d sd)), (.double (0 : UInt64)), (.double FP.dconst0), (.int (3 : Int32)), (.ref pri)])) rfl rfl (hb hby dM3_79)
      refine Wlk.of (fun _ k => st14 _ k) ?_
      show Wlk p.tables e below (T14.setTop (mkF m 82 #[rv a, iv (3 : Int32), iv sd] [(.ref stp), (.double (FP.i2d sd)), (.double (0 : UInt64)), (.double FP.dconst0), (.int (3 : Int32)), (.ref pri)])) K
      refine Wlk.of (fun _ k => XS.iloadN X14.here hx rfl (hb hby dM3_82) rfl k) ?_
      show Wlk p.tables e below (T14.setTop (mkF m 83 #[rv a, iv (3 : Int32), iv sd] [(.int (3 : Int32)), (.ref stp), (.double (FP.i2d sd)), (.double (0 : UInt64)), (.double FP.dconst0), (.int (3 : Int32)), (.ref pri)])) K
      have f15 : Arl Z h6 stp .double [(.double (FP.l2d t)), (.double (FP.l2d t)), (.double (FP.l2d t)), (.double (FP.l2d t)), (.double (FP.l2d t))] := (A_stp.other W6 ne_stp_lst)
      refine Wlk.of (fun _ k => ldD X14 hx hZ e14 f15 (j := (3 : Int32)) (i := 3) (by decide) (by decide) rfl (g := (mkF m 83 #[rv a, iv (3 : Int32), iv sd] [(.int (3 : Int32)), (.ref stp), (.double (FP.i2d sd)), (.double (0 : UInt64)), (.double FP.dconst0), (.int (3 : Int32)), (.ref pri)])) rfl rfl (hb hby dM3_83) _ k) ?_
      show Wlk p.tables e below (T14.setTop (mkF m 84 #[rv a, iv (3 : Int32), iv sd] [(.double (FP.l2d t)), (.double (FP.i2d sd)), (.double (0 : UInt64)), (.double FP.dconst0), (.int (3 : Int32)), (.ref pri)])) K
      refine Wlk.of (fun _ k => XS.dmulS X14.here hx rfl (hb hby dM3_84) rfl (Fl.dmul_out (Fl.i2d_fin _) (Fl.l2d_fin _)) rfl k) ?_
      show Wlk p.tables e below (T14.setTop (mkF m 85 #[rv a, iv (3 : Int32), iv sd] [(.double (FP.dmul (FP.i2d sd) (FP.l2d t))), (.double (0 : UInt64)), (.double FP.dconst0), (.int (3 : Int32)), (.ref pri)])) K
      refine Wlk.of (fun _ k => XS.daddS X14.here hx rfl (hb hby dM3_85) rfl (by rw [hm1, own_add0 ht]; exact (Fl.l2d_fin t).noNaN) rfl k) ?_
      show Wlk p.tables e below (T14.setTop (mkF m 86 #[rv a, iv (3 : Int32), iv sd] [(.double (FP.dadd (0 : UInt64) (FP.dmul (FP.i2d sd) (FP.l2d t)))), (.double FP.dconst0), (.int (3 : Int32)), (.ref pri)])) K
      obtain ⟨T16, X16, e16, st16⟩ := paidS (y := (⟨"java/lang/Math", "max", "(DD)D"⟩ : MethodName)) (val := (.double (FP.l2d t))) X14 hx hZ e14 hown (wd hw 54 rfl) (wd hw 55 rfl) (wd hw 56 rfl) (wd hw 57 rfl) (by decide) (W := 2) (Fl.Abs.maxD_pays FP.dconst0 (FP.dadd (0 : UInt64) (FP.dmul (FP.i2d sd) (FP.l2d t))) (mvT hZ (wd hw 57 rfl)) (by decide) (by decide)) pd_89 (g := (mkF m 86 #[rv a, iv (3 : Int32), iv sd] [(.double (FP.dadd (0 : UInt64) (FP.dmul (FP.i2d sd) (FP.l2d t)))), (.double FP.dconst0), (.int (3 : Int32)), (.ref pri)])) rfl (by rw [hml]; rfl) (argsL := [(.double FP.dconst0), (.double (FP.dadd (0 : UInt64) (FP.dmul (FP.i2d sd) (FP.l2d t))))]) (rest := [(.int (3 : Int32)), (.ref pri)]) rfl rfl (by show 2 * 0 + _ ≤ _; exact Nat.le_of_eq rfl) (hb hby dM3_86) (fun _ _ => ⟨by show (0 : Nat) ≤ _; decide, by show (0 : Nat) ≤ _; decide, rfl, (by unfold Fl.NoNaN64; decide), (by rw [hm1, own_add0 ht]; exact (Fl.l2d_fin t).noNaN)⟩) (fun A v B h => ⟨by rw [h.1, hm1, own_add0 ht, own_max0 ht], by rw [h.2]; exact ⟨rfl, rfl, rfl, rfl⟩⟩)
      refine Wlk.of (fun _ k => st16 _ k) ?_
      show Wlk p.tables e below (T16.setTop (mkF m 89 #[rv a, iv (3 : Int32), iv sd] [(.double (FP.l2d t)), (.int (3 : Int32)), (.ref pri)])) K
      obtain ⟨T17, h17, X17, e17, W17, V17, st17⟩ := stDl X16 hx hZ e16 f12 (j := (3 : Int32)) (i := 3) (by decide) (by decide) (show 3 < 5 by decide) (g := (mkF m 89 #[rv a, iv (3 : Int32), iv sd] [(.double (FP.l2d t)), (.int (3 : Int32)), (.ref pri)])) rfl rfl (hb hby dM3_89)
      refine Wlk.of (fun _ k => st17 _ k) ?_
      have K18 : Keep h0 h17 [pri, lst] := K7.wr W17 (Or.inl (List.mem_of_getElem? (i := 0) rfl))
      have N19 := Fr.snoc X17 N8 g_pri
      have Vw17 : Arl Z h17 pri .double [(.double x0), (.double x1), (.double x2), (.double (FP.l2d t)), (.double x4)] := V17
      show Wlk p.tables e below (T17.setTop (mkF m 90 #[rv a, iv (3 : Int32), iv sd] [])) K
      have f20 : Arl Z h17 lst .int [(.int z0), (.int z1), (.int z2), (.int sd), (.int z4)] := (Vw6.other W17 (Ne.symm ne_pri_lst))
      refine hK none X17 (fun q => rfl) (fun fs hr => X17.returnOut hx hret (hb hby dM3_90) hr) ?_ (by decide) (by decide)
      rw [show T17.heap = h17 from e17]
      exact ⟨sd, rfl, N19, K18, (by rw [if_pos (show (0 : Int32) < sd by rw [hsd]; decide)]; exact Vw17), f20⟩
theorem dM4_0 : decode prog_41_method_13_code 0 = .ok (.iload_n 2, 1) := by decide +kernel
theorem dM4_1 : decode prog_41_method_13_code 1 = .ok (.ifCond .eq 18, 3) := by decide +kernel
theorem dM4_4 : decode prog_41_method_13_code 4 = .ok (.iload_n 2, 1) := by decide +kernel
theorem dM4_5 : decode prog_41_method_13_code 5 = .ok (.ifCond .ge 15, 3) := by decide +kernel
theorem dM4_8 : decode prog_41_method_13_code 8 = .ok (.aload_n 0, 1) := by decide +kernel
theorem dM4_9 : decode prog_41_method_13_code 9 = .ok (.getfield 32, 3) := by decide +kernel
theorem dM4_12 : decode prog_41_method_13_code 12 = .ok (.iload_n 1, 1) := by decide +kernel
theorem dM4_13 : decode prog_41_method_13_code 13 = .ok (.daload, 1) := by decide +kernel
theorem dM4_14 : decode prog_41_method_13_code 14 = .ok (.dconst 0, 1) := by decide +kernel
theorem dM4_15 : decode prog_41_method_13_code 15 = .ok (.dcmp .l, 1) := by decide +kernel
theorem dM4_16 : decode prog_41_method_13_code 16 = .ok (.ifCond .ne 4, 3) := by decide +kernel
theorem dM4_19 : decode prog_41_method_13_code 19 = .ok (.return_, 1) := by decide +kernel
theorem dM4_20 : decode prog_41_method_13_code 20 = .ok (.aload_n 0, 1) := by decide +kernel
theorem dM4_21 : decode prog_41_method_13_code 21 = .ok (.getfield 39, 3) := by decide +kernel
theorem dM4_24 : decode prog_41_method_13_code 24 = .ok (.iload_n 1, 1) := by decide +kernel
theorem dM4_25 : decode prog_41_method_13_code 25 = .ok (.iaload, 1) := by decide +kernel
theorem dM4_26 : decode prog_41_method_13_code 26 = .ok (.ifCond .eq 31, 3) := by decide +kernel
theorem dM4_57 : decode prog_41_method_13_code 57 = .ok (.aload_n 0, 1) := by decide +kernel
theorem dM4_58 : decode prog_41_method_13_code 58 = .ok (.getfield 39, 3) := by decide +kernel
theorem dM4_61 : decode prog_41_method_13_code 61 = .ok (.iload_n 1, 1) := by decide +kernel
theorem dM4_62 : decode prog_41_method_13_code 62 = .ok (.iload_n 2, 1) := by decide +kernel
theorem dM4_63 : decode prog_41_method_13_code 63 = .ok (.iastore, 1) := by decide +kernel
theorem dM4_64 : decode prog_41_method_13_code 64 = .ok (.aload_n 0, 1) := by decide +kernel
theorem dM4_65 : decode prog_41_method_13_code 65 = .ok (.getfield 32, 3) := by decide +kernel
theorem dM4_68 : decode prog_41_method_13_code 68 = .ok (.iload_n 1, 1) := by decide +kernel
theorem dM4_69 : decode prog_41_method_13_code 69 = .ok (.dconst 0, 1) := by decide +kernel
theorem dM4_70 : decode prog_41_method_13_code 70 = .ok (.aload_n 0, 1) := by decide +kernel
theorem dM4_71 : decode prog_41_method_13_code 71 = .ok (.getfield 32, 3) := by decide +kernel
theorem dM4_74 : decode prog_41_method_13_code 74 = .ok (.iload_n 1, 1) := by decide +kernel
theorem dM4_75 : decode prog_41_method_13_code 75 = .ok (.daload, 1) := by decide +kernel
theorem dM4_76 : decode prog_41_method_13_code 76 = .ok (.iload_n 2, 1) := by decide +kernel
theorem dM4_77 : decode prog_41_method_13_code 77 = .ok (.i2d, 1) := by decide +kernel
theorem dM4_78 : decode prog_41_method_13_code 78 = .ok (.aload_n 0, 1) := by decide +kernel
theorem dM4_79 : decode prog_41_method_13_code 79 = .ok (.getfield 36, 3) := by decide +kernel
theorem dM4_82 : decode prog_41_method_13_code 82 = .ok (.iload_n 1, 1) := by decide +kernel
theorem dM4_83 : decode prog_41_method_13_code 83 = .ok (.daload, 1) := by decide +kernel
theorem dM4_84 : decode prog_41_method_13_code 84 = .ok (.dmul, 1) := by decide +kernel
theorem dM4_85 : decode prog_41_method_13_code 85 = .ok (.dadd, 1) := by decide +kernel
theorem dM4_86 : decode prog_41_method_13_code 86 = .ok (.invokestatic 64, 3) := by decide +kernel
theorem dM4_89 : decode prog_41_method_13_code 89 = .ok (.dastore, 1) := by decide +kernel
theorem dM4_90 : decode prog_41_method_13_code 90 = .ok (.return_, 1) := by decide +kernel
theorem ef_rmM4 (m : MethodId) (a : Addr) (sd : Int32) : entryFrame m #[(.ref a), (.int (4 : Int32)), (.int sd)] 3 = mkF m 0 #[rv a, iv (4 : Int32), iv sd] [] := by first | (simp [entryFrame, mkF, argsToLocals, Value.category]; done) | rfl
def Q_rmM4 (Z : State) (a : Addr) (sd : Int32) (pri : Addr) (stp : Addr) (lst : Addr) (t : Int64) (x0 : UInt64) (x1 : UInt64) (x2 : UInt64) (x3 : UInt64) (z0 : Int32) (z1 : Int32) (z2 : Int32) (z3 : Int32) (h0 : Heap) (n0 : Nat) (v : Option Value) (h : Heap) (L : List Loc) : Prop := ∃ zz : Int32, v = none ∧ Fr n0 L ∧ Keep h0 h [pri, lst] ∧ Arl Z h pri .double [(.double x0), (.double x1), (.double x2), (.double x3), (.double (if (0 : Int32) < sd then (FP.l2d t) else (0 : UInt64)))] ∧ Arl Z h lst .int [(.int z0), (.int z1), (.int z2), (.int z3), (.int zz)]
set_option maxRecDepth 65536 in
set_option maxHeartbeats 40000000 in
theorem rmM4 (l : Launch) (Z : State) (a0 : Array Value) (hw : ∀ d ∈ tables_1, d.before a0 Z = true) (a : Addr) (sd : Int32) (pri : Addr) (stp : Addr) (lst : Addr) (t : Int64) (x0 : UInt64) (x1 : UInt64) (x2 : UInt64) (x3 : UInt64) (z0 : Int32) (z1 : Int32) (z2 : Int32) (z3 : Int32) (h0 : Heap) (n0 : Nat) (Z0 : n0 ≤ h0.size) (F_a_price : Fld Z h0 a "com/example/wardwise/wardwise/solver/LimitPrices" "price" "[D" (.ref pri)) (F_a_stepSize : Fld Z h0 a "com/example/wardwise/wardwise/solver/LimitPrices" "stepSize" "[D" (.ref stp)) (F_a_lastSide : Fld Z h0 a "com/example/wardwise/wardwise/solver/LimitPrices" "lastSide" "[I" (.ref lst)) (A_pri : Arl Z h0 pri .double [(.double x0), (.double x1), (.double x2), (.double x3), (.double (0 : UInt64))]) (A_stp : Arl Z h0 stp .double [(.double (FP.l2d t)), (.double (FP.l2d t)), (.double (FP.l2d t)), (.double (FP.l2d t)), (.double (FP.l2d t))]) (A_lst : Arl Z h0 lst .int [(.int z0), (.int z1), (.int z2), (.int z3), (.int (0 : Int32))]) (ne_a_pri : a ≠ pri) (ne_a_stp : a ≠ stp) (ne_a_lst : a ≠ lst) (ne_pri_stp : pri ≠ stp) (ne_pri_lst : pri ≠ lst) (ne_stp_lst : stp ≠ lst) (g_pri : n0 ≤ pri) (g_lst : n0 ≤ lst) (hs : sd = -1 ∨ sd = 0 ∨ sd = 1) (ht : 0 ≤ t.toInt ∧ t.toInt ≤ 255) :
    Ctr l Z h0 (⟨"com/example/wardwise/wardwise/solver/LimitPrices", "move", "(II)V"⟩ : MethodName) prog_41_method_13_code 3 none [] ({ frames := 1, cells := 0, slots := 0, locals := 17 } : Room) #[(.ref a), (.int (4 : Int32)), (.int sd)] (Q_rmM4 Z a sd pri stp lst t x0 x1 x2 x3 z0 z1 z2 z3 h0 n0) := by
  refine Ctr.make (plainFor_of_name pn_40) fun p e s m below meth c s₁ K hret hml hx hby hown hnm hZ X0 e0 hK => ?_
  have hown : s.vm.findClass "com/example/wardwise/wardwise/solver/LimitPrices" = some m.cls := hown
  have N0 := Fr.nil n0
  have K0 : Keep h0 h0 [pri, lst] := Keep.refl _ _
  refine Wlk.of (fun _ k => castTop (ef_rmM4 m a sd) k) ?_
  show Wlk p.tables e below (s₁.setTop (mkF m 0 #[rv a, iv (4 : Int32), iv sd] [])) K
  refine Wlk.of (fun _ k => XS.iloadN X0.here hx rfl (hb hby dM4_0) rfl k) ?_
  show Wlk p.tables e below (s₁.setTop (mkF m 1 #[rv a, iv (4 : Int32), iv sd] [(.int sd)])) K
  by_cases hc1 : sd = (0 : Int32)
  · refine Wlk.of (fun _ k => XS.ifYes X0.here hx rfl (pc0 := 1) (pc' := 19) rfl (hb hby dM4_1) rfl ((if0 _ _).trans (teq hc1).1) (by decide) (by decide) k) ?_
    show Wlk p.tables e below (s₁.setTop (mkF m 19 #[rv a, iv (4 : Int32), iv sd] [])) K
    refine hK none X0 (fun q => rfl) (fun fs hr => X0.returnOut hx hret (hb hby dM4_19) hr) ?_ (by decide) (by decide)
    rw [show s₁.heap = h0 from e0]
    exact ⟨(0 : Int32), rfl, N0, K0, (by rw [if_neg (show ¬ (0 : Int32) < sd by rw [hc1]; decide)]; exact A_pri), A_lst⟩
  · refine Wlk.of (fun _ k => XS.ifNo X0.here hx rfl (hb hby dM4_1) rfl ((if0 _ _).trans (feq hc1).1) k) ?_
    show Wlk p.tables e below (s₁.setTop (mkF m 4 #[rv a, iv (4 : Int32), iv sd] [])) K
    refine Wlk.of (fun _ k => XS.iloadN X0.here hx rfl (hb hby dM4_4) rfl k) ?_
    show Wlk p.tables e below (s₁.setTop (mkF m 5 #[rv a, iv (4 : Int32), iv sd] [(.int sd)])) K
    by_cases hc2 : sd < (0 : Int32)
    · refine Wlk.of (fun _ k => XS.ifNo X0.here hx rfl (hb hby dM4_5) rfl ((if0 _ _).trans (tlt hc2).2.1) k) ?_
      show Wlk p.tables e below (s₁.setTop (mkF m 8 #[rv a, iv (4 : Int32), iv sd] [])) K
      refine Wlk.of (fun _ k => XS.aloadN X0.here hx rfl (hb hby dM4_8) rfl rfl k) ?_
      show Wlk p.tables e below (s₁.setTop (mkF m 9 #[rv a, iv (4 : Int32), iv sd] [(.ref a)])) K
      obtain ⟨T3, X3, e3, st3⟩ := getF X0 hx hZ hown (host := "") (Or.inl (wd hw 23 rfl)) Via.refl e0 F_a_price (g := (mkF m 9 #[rv a, iv (4 : Int32), iv sd] [(.ref a)])) rfl rfl (hb hby dM4_9)
      refine Wlk.of (fun _ k => st3 _ k) ?_
      show Wlk p.tables e below (T3.setTop (mkF m 12 #[rv a, iv (4 : Int32), iv sd] [(.ref pri)])) K
      refine Wlk.of (fun _ k => XS.iloadN X3.here hx rfl (hb hby dM4_12) rfl k) ?_
      show Wlk p.tables e below (T3.setTop (mkF m 13 #[rv a, iv (4 : Int32), iv sd] [(.int (4 : Int32)), (.ref pri)])) K
      refine Wlk.of (fun _ k => ldD X3 hx hZ e3 A_pri (j := (4 : Int32)) (i := 4) (by decide) (by decide) rfl (g := (mkF m 13 #[rv a, iv (4 : Int32), iv sd] [(.int (4 : Int32)), (.ref pri)])) rfl rfl (hb hby dM4_13) _ k) ?_
      show Wlk p.tables e below (T3.setTop (mkF m 14 #[rv a, iv (4 : Int32), iv sd] [(.double (0 : UInt64))])) K
      refine Wlk.of (fun _ k => XS.dconst0 X3.here hx rfl (hb hby dM4_14) rfl k) ?_
      show Wlk p.tables e below (T3.setTop (mkF m 15 #[rv a, iv (4 : Int32), iv sd] [(.double FP.dconst0), (.double (0 : UInt64))])) K
      refine Wlk.of (fun _ k => XS.dcmpS X3.here hx rfl (hb hby dM4_15) rfl rfl k) ?_
      show Wlk p.tables e below (T3.setTop (mkF m 16 #[rv a, iv (4 : Int32), iv sd] [(.int (cmpValue (FP.dcmp (0 : UInt64) FP.dconst0) .l))])) K
      refine Wlk.of (fun _ k => XS.ifNo X3.here hx rfl (hb hby dM4_16) rfl ((if0 _ _).trans (teq (show (cmpValue (FP.dcmp (0 : UInt64) FP.dconst0) .l) = (0 : Int32) by decide +kernel)).2) k) ?_
      show Wlk p.tables e below (T3.setTop (mkF m 19 #[rv a, iv (4 : Int32), iv sd] [])) K
      refine hK none X3 (fun q => rfl) (fun fs hr => X3.returnOut hx hret (hb hby dM4_19) hr) ?_ (by decide) (by decide)
      rw [show T3.heap = h0 from e3]
      exact ⟨(0 : Int32), rfl, N0, K0, (by rw [if_neg (own_neg hc2)]; exact A_pri), A_lst⟩
    · refine Wlk.of (fun _ k => XS.ifYes X0.here hx rfl (pc0 := 5) (pc' := 20) rfl (hb hby dM4_5) rfl ((if0 _ _).trans (flt hc2).2.1) (by decide) (by decide) k) ?_
      show Wlk p.tables e below (s₁.setTop (mkF m 20 #[rv a, iv (4 : Int32), iv sd] [])) K
      have hsd := own_pos hs hc1 hc2
      have hm1 := own_mul1 (t := t) hsd
      refine Wlk.of (fun _ k => XS.aloadN X0.here hx rfl (hb hby dM4_20) rfl rfl k) ?_
      show Wlk p.tables e below (s₁.setTop (mkF m 21 #[rv a, iv (4 : Int32), iv sd] [(.ref a)])) K
      obtain ⟨T4, X4, e4, st4⟩ := getF X0 hx hZ hown (host := "") (Or.inl (wd hw 27 rfl)) Via.refl e0 F_a_lastSide (g := (mkF m 21 #[rv a, iv (4 : Int32), iv sd] [(.ref a)])) rfl rfl (hb hby dM4_21)
      refine Wlk.of (fun _ k => st4 _ k) ?_
      show Wlk p.tables e below (T4.setTop (mkF m 24 #[rv a, iv (4 : Int32), iv sd] [(.ref lst)])) K
      refine Wlk.of (fun _ k => XS.iloadN X4.here hx rfl (hb hby dM4_24) rfl k) ?_
      show Wlk p.tables e below (T4.setTop (mkF m 25 #[rv a, iv (4 : Int32), iv sd] [(.int (4 : Int32)), (.ref lst)])) K
      refine Wlk.of (fun _ k => ldI X4 hx hZ e4 A_lst (j := (4 : Int32)) (i := 4) (by decide) (by decide) rfl (g := (mkF m 25 #[rv a, iv (4 : Int32), iv sd] [(.int (4 : Int32)), (.ref lst)])) rfl rfl (hb hby dM4_25) _ k) ?_
      show Wlk p.tables e below (T4.setTop (mkF m 26 #[rv a, iv (4 : Int32), iv sd] [(.int (0 : Int32))])) K
      refine Wlk.of (fun _ k => XS.ifYes X4.here hx rfl (pc0 := 26) (pc' := 57) rfl (hb hby dM4_26) rfl ((if0 _ _).trans (teq (by decide : (0 : Int32) = (0 : Int32))).1) (by decide) (by decide) k) ?_
      show Wlk p.tables e below (T4.setTop (mkF m 57 #[rv a, iv (4 : Int32), iv sd] [])) K
      refine Wlk.of (fun _ k => XS.aloadN X4.here hx rfl (hb hby dM4_57) rfl rfl k) ?_
      show Wlk p.tables e below (T4.setTop (mkF m 58 #[rv a, iv (4 : Int32), iv sd] [(.ref a)])) K
      obtain ⟨T5, X5, e5, st5⟩ := getF X4 hx hZ hown (host := "") (Or.inl (wd hw 27 rfl)) Via.refl e4 F_a_lastSide (g := (mkF m 58 #[rv a, iv (4 : Int32), iv sd] [(.ref a)])) rfl rfl (hb hby dM4_58)
      refine Wlk.of (fun _ k => st5 _ k) ?_
      show Wlk p.tables e below (T5.setTop (mkF m 61 #[rv a, iv (4 : Int32), iv sd] [(.ref lst)])) K
      refine Wlk.of (fun _ k => XS.iloadN X5.here hx rfl (hb hby dM4_61) rfl k) ?_
      show Wlk p.tables e below (T5.setTop (mkF m 62 #[rv a, iv (4 : Int32), iv sd] [(.int (4 : Int32)), (.ref lst)])) K
      refine Wlk.of (fun _ k => XS.iloadN X5.here hx rfl (hb hby dM4_62) rfl k) ?_
      show Wlk p.tables e below (T5.setTop (mkF m 63 #[rv a, iv (4 : Int32), iv sd] [(.int sd), (.int (4 : Int32)), (.ref lst)])) K
      obtain ⟨T6, h6, X6, e6, W6, V6, st6⟩ := stIl X5 hx hZ e5 A_lst (j := (4 : Int32)) (i := 4) (by decide) (by decide) (show 4 < 5 by decide) (g := (mkF m 63 #[rv a, iv (4 : Int32), iv sd] [(.int sd), (.int (4 : Int32)), (.ref lst)])) rfl rfl (hb hby dM4_63)
      refine Wlk.of (fun _ k => st6 _ k) ?_
      have K7 : Keep h0 h6 [pri, lst] := K0.wr W6 (Or.inl (List.mem_of_getElem? (i := 1) rfl))
      have N8 := Fr.snoc X6 N0 g_lst
      have Vw6 : Arl Z h6 lst .int [(.int z0), (.int z1), (.int z2), (.int z3), (.int sd)] := V6
      show Wlk p.tables e below (T6.setTop (mkF m 64 #[rv a, iv (4 : Int32), iv sd] [])) K
      refine Wlk.of (fun _ k => XS.aloadN X6.here hx rfl (hb hby dM4_64) rfl rfl k) ?_
      show Wlk p.tables e below (T6.setTop (mkF m 65 #[rv a, iv (4 : Int32), iv sd] [(.ref a)])) K
      have f9 : Fld Z h6 a "com/example/wardwise/wardwise/solver/LimitPrices" "price" "[D" (.ref pri) := (F_a_price.other W6 (Or.inl ne_a_lst))
      obtain ⟨T10, X10, e10, st10⟩ := getF X6 hx hZ hown (host := "") (Or.inl (wd hw 23 rfl)) Via.refl e6 f9 (g := (mkF m 65 #[rv a, iv (4 : Int32), iv sd] [(.ref a)])) rfl rfl (hb hby dM4_65)
      refine Wlk.of (fun _ k => st10 _ k) ?_
      show Wlk p.tables e below (T10.setTop (mkF m 68 #[rv a, iv (4 : Int32), iv sd] [(.ref pri)])) K
      refine Wlk.of (fun _ k => XS.iloadN X10.here hx rfl (hb hby dM4_68) rfl k) ?_
      show Wlk p.tables e below (T10.setTop (mkF m 69 #[rv a, iv (4 : Int32), iv sd] [(.int (4 : Int32)), (.ref pri)])) K
      refine Wlk.of (fun _ k => XS.dconst0 X10.here hx rfl (hb hby dM4_69) rfl k) ?_
      show Wlk p.tables e below (T10.setTop (mkF m 70 #[rv a, iv (4 : Int32), iv sd] [(.double FP.dconst0), (.int (4 : Int32)), (.ref pri)])) K
      refine Wlk.of (fun _ k => XS.aloadN X10.here hx rfl (hb hby dM4_70) rfl rfl k) ?_
      show Wlk p.tables e below (T10.setTop (mkF m 71 #[rv a, iv (4 : Int32), iv sd] [(.ref a), (.double FP.dconst0), (.int (4 : Int32)), (.ref pri)])) K
      obtain ⟨T11, X11, e11, st11⟩ := getF X10 hx hZ hown (host := "") (Or.inl (wd hw 23 rfl)) Via.refl e10 f9 (g := (mkF m 71 #[rv a, iv (4 : Int32), iv sd] [(.ref a), (.double FP.dconst0), (.int (4 : Int32)), (.ref pri)])) rfl rfl (hb hby dM4_71)
      refine Wlk.of (fun _ k => st11 _ k) ?_
      show Wlk p.tables e below (T11.setTop (mkF m 74 #[rv a, iv (4 : Int32), iv sd] [(.ref pri), (.double FP.dconst0), (.int (4 : Int32)), (.ref pri)])) K
      refine Wlk.of (fun _ k => XS.iloadN X11.here hx rfl (hb hby dM4_74) rfl k) ?_
      show Wlk p.tables e below (T11.setTop (mkF m 75 #[rv a, iv (4 : Int32), iv sd] [(.int (4 : Int32)), (.ref pri), (.double FP.dconst0), (.int (4 : Int32)), (.ref pri)])) K
      have f12 : Arl Z h6 pri .double [(.double x0), (.double x1), (.double x2), (.double x3), (.double (0 : UInt64))] := (A_pri.other W6 ne_pri_lst)
      refine Wlk.of (fun _ k => ldD X11 hx hZ e11 f12 (j := (4 : Int32)) (i := 4) (by decide) (by decide) rfl (g := (mkF m 75 #[rv a, iv (4 : Int32), iv sd] [(.int (4 : Int32)), (.ref pri), (.double FP.dconst0), (.int (4 : Int32)), (.ref pri)])) rfl rfl (hb hby dM4_75) _ k) ?_
      show Wlk p.tables e below (T11.setTop (mkF m 76 #[rv a, iv (4 : Int32), iv sd] [(.double (0 : UInt64)), (.double FP.dconst0), (.int (4 : Int32)), (.ref pri)])) K
      refine Wlk.of (fun _ k => XS.iloadN X11.here hx rfl (hb hby dM4_76) rfl k) ?_
      show Wlk p.tables e below (T11.setTop (mkF m 77 #[rv a, iv (4 : Int32), iv sd] [(.int sd), (.double (0 : UInt64)), (.double FP.dconst0), (.int (4 : Int32)), (.ref pri)])) K
      refine Wlk.of (fun _ k => XS.i2dS X11.here hx rfl (hb hby dM4_77) rfl rfl k) ?_
      show Wlk p.tables e below (T11.setTop (mkF m 78 #[rv a, iv (4 : Int32), iv sd] [(.double (FP.i2d sd)), (.double (0 : UInt64)), (.double FP.dconst0), (.int (4 : Int32)), (.ref pri)])) K
      refine Wlk.of (fun _ k => XS.aloadN X11.here hx rfl (hb hby dM4_78) rfl rfl k) ?_
      show Wlk p.tables e below (T11.setTop (mkF m 79 #[rv a, iv (4 : Int32), iv sd] [(.ref a), (.double (FP.i2d sd)), (.double (0 : UInt64)), (.double FP.dconst0), (.int (4 : Int32)), (.ref pri)])) K
      have f13 : Fld Z h6 a "com/example/wardwise/wardwise/solver/LimitPrices" "stepSize" "[D" (.ref stp) := (F_a_stepSize.other W6 (Or.inl ne_a_lst))
      obtain ⟨T14, X14, e14, st14⟩ := getF X11 hx hZ hown (host := "") (Or.inl (wd hw 25 rfl)) Via.refl e11 f13 (g := (mkF m 79 #[rv a, iv (4 : Int32), iv sd] [(.ref a), (.double (FP.i2d sd)), (.double (0 : UInt64)), (.double FP.dconst0), (.int (4 : Int32)), (.ref pri)])) rfl rfl (hb hby dM4_79)
      refine Wlk.of (fun _ k => st14 _ k) ?_
      show Wlk p.tables e below (T14.setTop (mkF m 82 #[rv a, iv (4 : Int32), iv sd] [(.ref stp), (.double (FP.i2d sd)), (.double (0 : UInt64)), (.double FP.dconst0), (.int (4 : Int32)), (.ref pri)])) K
      refine Wlk.of (fun _ k => XS.iloadN X14.here hx rfl (hb hby dM4_82) rfl k) ?_
      show Wlk p.tables e below (T14.setTop (mkF m 83 #[rv a, iv (4 : Int32), iv sd] [(.int (4 : Int32)), (.ref stp), (.double (FP.i2d sd)), (.double (0 : UInt64)), (.double FP.dconst0), (.int (4 : Int32)), (.ref pri)])) K
      have f15 : Arl Z h6 stp .double [(.double (FP.l2d t)), (.double (FP.l2d t)), (.double (FP.l2d t)), (.double (FP.l2d t)), (.double (FP.l2d t))] := (A_stp.other W6 ne_stp_lst)
      refine Wlk.of (fun _ k => ldD X14 hx hZ e14 f15 (j := (4 : Int32)) (i := 4) (by decide) (by decide) rfl (g := (mkF m 83 #[rv a, iv (4 : Int32), iv sd] [(.int (4 : Int32)), (.ref stp), (.double (FP.i2d sd)), (.double (0 : UInt64)), (.double FP.dconst0), (.int (4 : Int32)), (.ref pri)])) rfl rfl (hb hby dM4_83) _ k) ?_
      show Wlk p.tables e below (T14.setTop (mkF m 84 #[rv a, iv (4 : Int32), iv sd] [(.double (FP.l2d t)), (.double (FP.i2d sd)), (.double (0 : UInt64)), (.double FP.dconst0), (.int (4 : Int32)), (.ref pri)])) K
      refine Wlk.of (fun _ k => XS.dmulS X14.here hx rfl (hb hby dM4_84) rfl (Fl.dmul_out (Fl.i2d_fin _) (Fl.l2d_fin _)) rfl k) ?_
      show Wlk p.tables e below (T14.setTop (mkF m 85 #[rv a, iv (4 : Int32), iv sd] [(.double (FP.dmul (FP.i2d sd) (FP.l2d t))), (.double (0 : UInt64)), (.double FP.dconst0), (.int (4 : Int32)), (.ref pri)])) K
      refine Wlk.of (fun _ k => XS.daddS X14.here hx rfl (hb hby dM4_85) rfl (by rw [hm1, own_add0 ht]; exact (Fl.l2d_fin t).noNaN) rfl k) ?_
      show Wlk p.tables e below (T14.setTop (mkF m 86 #[rv a, iv (4 : Int32), iv sd] [(.double (FP.dadd (0 : UInt64) (FP.dmul (FP.i2d sd) (FP.l2d t)))), (.double FP.dconst0), (.int (4 : Int32)), (.ref pri)])) K
      obtain ⟨T16, X16, e16, st16⟩ := paidS (y := (⟨"java/lang/Math", "max", "(DD)D"⟩ : MethodName)) (val := (.double (FP.l2d t))) X14 hx hZ e14 hown (wd hw 54 rfl) (wd hw 55 rfl) (wd hw 56 rfl) (wd hw 57 rfl) (by decide) (W := 2) (Fl.Abs.maxD_pays FP.dconst0 (FP.dadd (0 : UInt64) (FP.dmul (FP.i2d sd) (FP.l2d t))) (mvT hZ (wd hw 57 rfl)) (by decide) (by decide)) pd_89 (g := (mkF m 86 #[rv a, iv (4 : Int32), iv sd] [(.double (FP.dadd (0 : UInt64) (FP.dmul (FP.i2d sd) (FP.l2d t)))), (.double FP.dconst0), (.int (4 : Int32)), (.ref pri)])) rfl (by rw [hml]; rfl) (argsL := [(.double FP.dconst0), (.double (FP.dadd (0 : UInt64) (FP.dmul (FP.i2d sd) (FP.l2d t))))]) (rest := [(.int (4 : Int32)), (.ref pri)]) rfl rfl (by show 2 * 0 + _ ≤ _; exact Nat.le_of_eq rfl) (hb hby dM4_86) (fun _ _ => ⟨by show (0 : Nat) ≤ _; decide, by show (0 : Nat) ≤ _; decide, rfl, (by unfold Fl.NoNaN64; decide), (by rw [hm1, own_add0 ht]; exact (Fl.l2d_fin t).noNaN)⟩) (fun A v B h => ⟨by rw [h.1, hm1, own_add0 ht, own_max0 ht], by rw [h.2]; exact ⟨rfl, rfl, rfl, rfl⟩⟩)
      refine Wlk.of (fun _ k => st16 _ k) ?_
      show Wlk p.tables e below (T16.setTop (mkF m 89 #[rv a, iv (4 : Int32), iv sd] [(.double (FP.l2d t)), (.int (4 : Int32)), (.ref pri)])) K
      obtain ⟨T17, h17, X17, e17, W17, V17, st17⟩ := stDl X16 hx hZ e16 f12 (j := (4 : Int32)) (i := 4) (by decide) (by decide) (show 4 < 5 by decide) (g := (mkF m 89 #[rv a, iv (4 : Int32), iv sd] [(.double (FP.l2d t)), (.int (4 : Int32)), (.ref pri)])) rfl rfl (hb hby dM4_89)
      refine Wlk.of (fun _ k => st17 _ k) ?_
      have K18 : Keep h0 h17 [pri, lst] := K7.wr W17 (Or.inl (List.mem_of_getElem? (i := 0) rfl))
      have N19 := Fr.snoc X17 N8 g_pri
      have Vw17 : Arl Z h17 pri .double [(.double x0), (.double x1), (.double x2), (.double x3), (.double (FP.l2d t))] := V17
      show Wlk p.tables e below (T17.setTop (mkF m 90 #[rv a, iv (4 : Int32), iv sd] [])) K
      have f20 : Arl Z h17 lst .int [(.int z0), (.int z1), (.int z2), (.int z3), (.int sd)] := (Vw6.other W17 (Ne.symm ne_pri_lst))
      refine hK none X17 (fun q => rfl) (fun fs hr => X17.returnOut hx hret (hb hby dM4_90) hr) ?_ (by decide) (by decide)
      rw [show T17.heap = h17 from e17]
      exact ⟨sd, rfl, N19, K18, (by rw [if_pos (show (0 : Int32) < sd by rw [hsd]; decide)]; exact Vw17), f20⟩
theorem pd_295 : parseMethodDescriptor "(II)V" = some ⟨[.int, .int], none⟩ := by decide +kernel
theorem pd_296 : parseMethodDescriptor "(I)I" = some ⟨[.int], some .int⟩ := by decide +kernel
theorem d4_0 : decode prog_41_method_12_code 0 = .ok (.aload_n 0, 1) := by decide +kernel
theorem d4_1 : decode prog_41_method_12_code 1 = .ok (.getfield 7, 3) := by decide +kernel
theorem d4_4 : decode prog_41_method_12_code 4 = .ok (.ifCond .eq 67, 3) := by decide +kernel
theorem d4_7 : decode prog_41_method_12_code 7 = .ok (.aload_n 0, 1) := by decide +kernel
theorem d4_8 : decode prog_41_method_12_code 8 = .ok (.iconst 0, 1) := by decide +kernel
theorem d4_9 : decode prog_41_method_12_code 9 = .ok (.lload_n 1, 1) := by decide +kernel
theorem d4_10 : decode prog_41_method_12_code 10 = .ok (.aload_n 0, 1) := by decide +kernel
theorem d4_11 : decode prog_41_method_12_code 11 = .ok (.getfield 17, 3) := by decide +kernel
theorem d4_14 : decode prog_41_method_12_code 14 = .ok (.lcmp, 1) := by decide +kernel
theorem d4_15 : decode prog_41_method_12_code 15 = .ok (.ifCond .le 7, 3) := by decide +kernel
theorem d4_18 : decode prog_41_method_12_code 18 = .ok (.iconst 1, 1) := by decide +kernel
theorem d4_19 : decode prog_41_method_12_code 19 = .ok (.goto 17, 3) := by decide +kernel
theorem d4_22 : decode prog_41_method_12_code 22 = .ok (.lload_n 1, 1) := by decide +kernel
theorem d4_23 : decode prog_41_method_12_code 23 = .ok (.aload_n 0, 1) := by decide +kernel
theorem d4_24 : decode prog_41_method_12_code 24 = .ok (.getfield 17, 3) := by decide +kernel
theorem d4_27 : decode prog_41_method_12_code 27 = .ok (.lcmp, 1) := by decide +kernel
theorem d4_28 : decode prog_41_method_12_code 28 = .ok (.ifCond .ge 7, 3) := by decide +kernel
theorem d4_31 : decode prog_41_method_12_code 31 = .ok (.iconst (-1), 1) := by decide +kernel
theorem d4_32 : decode prog_41_method_12_code 32 = .ok (.goto 4, 3) := by decide +kernel
theorem d4_35 : decode prog_41_method_12_code 35 = .ok (.iconst 0, 1) := by decide +kernel
theorem d4_36 : decode prog_41_method_12_code 36 = .ok (.invokevirtual 50, 3) := by decide +kernel
theorem d4_39 : decode prog_41_method_12_code 39 = .ok (.aload_n 0, 1) := by decide +kernel
theorem d4_40 : decode prog_41_method_12_code 40 = .ok (.iconst 1, 1) := by decide +kernel
theorem d4_41 : decode prog_41_method_12_code 41 = .ok (.lload_n 1, 1) := by decide +kernel
theorem d4_42 : decode prog_41_method_12_code 42 = .ok (.aload_n 0, 1) := by decide +kernel
theorem d4_43 : decode prog_41_method_12_code 43 = .ok (.getfield 21, 3) := by decide +kernel
theorem d4_46 : decode prog_41_method_12_code 46 = .ok (.lcmp, 1) := by decide +kernel
theorem d4_47 : decode prog_41_method_12_code 47 = .ok (.ifCond .ge 7, 3) := by decide +kernel
theorem d4_50 : decode prog_41_method_12_code 50 = .ok (.iconst 1, 1) := by decide +kernel
theorem d4_51 : decode prog_41_method_12_code 51 = .ok (.goto 17, 3) := by decide +kernel
theorem d4_54 : decode prog_41_method_12_code 54 = .ok (.lload_n 1, 1) := by decide +kernel
theorem d4_55 : decode prog_41_method_12_code 55 = .ok (.aload_n 0, 1) := by decide +kernel
theorem d4_56 : decode prog_41_method_12_code 56 = .ok (.getfield 21, 3) := by decide +kernel
theorem d4_59 : decode prog_41_method_12_code 59 = .ok (.lcmp, 1) := by decide +kernel
theorem d4_60 : decode prog_41_method_12_code 60 = .ok (.ifCond .le 7, 3) := by decide +kernel
theorem d4_63 : decode prog_41_method_12_code 63 = .ok (.iconst (-1), 1) := by decide +kernel
theorem d4_64 : decode prog_41_method_12_code 64 = .ok (.goto 4, 3) := by decide +kernel
theorem d4_67 : decode prog_41_method_12_code 67 = .ok (.iconst 0, 1) := by decide +kernel
theorem d4_68 : decode prog_41_method_12_code 68 = .ok (.invokevirtual 50, 3) := by decide +kernel
theorem d4_71 : decode prog_41_method_12_code 71 = .ok (.aload_n 0, 1) := by decide +kernel
theorem d4_72 : decode prog_41_method_12_code 72 = .ok (.iconst 2, 1) := by decide +kernel
theorem d4_73 : decode prog_41_method_12_code 73 = .ok (.iload_n 3, 1) := by decide +kernel
theorem d4_74 : decode prog_41_method_12_code 74 = .ok (.aload_n 0, 1) := by decide +kernel
theorem d4_75 : decode prog_41_method_12_code 75 = .ok (.getfield 24, 3) := by decide +kernel
theorem d4_78 : decode prog_41_method_12_code 78 = .ok (.isub, 1) := by decide +kernel
theorem d4_79 : decode prog_41_method_12_code 79 = .ok (.invokestatic 54, 3) := by decide +kernel
theorem d4_82 : decode prog_41_method_12_code 82 = .ok (.invokevirtual 50, 3) := by decide +kernel
theorem d4_85 : decode prog_41_method_12_code 85 = .ok (.iconst 0, 1) := by decide +kernel
theorem d4_86 : decode prog_41_method_12_code 86 = .ok (.istore 5, 2) := by decide +kernel
theorem d4_88 : decode prog_41_method_12_code 88 = .ok (.iload 5, 2) := by decide +kernel
theorem d4_90 : decode prog_41_method_12_code 90 = .ok (.aload_n 0, 1) := by decide +kernel
theorem d4_91 : decode prog_41_method_12_code 91 = .ok (.getfield 28, 3) := by decide +kernel
theorem d4_94 : decode prog_41_method_12_code 94 = .ok (.arraylength, 1) := by decide +kernel
theorem d4_95 : decode prog_41_method_12_code 95 = .ok (.if_icmp .ge 33, 3) := by decide +kernel
theorem d4_98 : decode prog_41_method_12_code 98 = .ok (.aload_n 0, 1) := by decide +kernel
theorem d4_99 : decode prog_41_method_12_code 99 = .ok (.iconst 3, 1) := by decide +kernel
theorem d4_100 : decode prog_41_method_12_code 100 = .ok (.iload 5, 2) := by decide +kernel
theorem d4_102 : decode prog_41_method_12_code 102 = .ok (.iadd, 1) := by decide +kernel
theorem d4_103 : decode prog_41_method_12_code 103 = .ok (.aload 4, 2) := by decide +kernel
theorem d4_105 : decode prog_41_method_12_code 105 = .ok (.iload 5, 2) := by decide +kernel
theorem d4_107 : decode prog_41_method_12_code 107 = .ok (.iaload, 1) := by decide +kernel
theorem d4_108 : decode prog_41_method_12_code 108 = .ok (.aload_n 0, 1) := by decide +kernel
theorem d4_109 : decode prog_41_method_12_code 109 = .ok (.getfield 28, 3) := by decide +kernel
theorem d4_112 : decode prog_41_method_12_code 112 = .ok (.iload 5, 2) := by decide +kernel
theorem d4_114 : decode prog_41_method_12_code 114 = .ok (.iaload, 1) := by decide +kernel
theorem d4_115 : decode prog_41_method_12_code 115 = .ok (.isub, 1) := by decide +kernel
theorem d4_116 : decode prog_41_method_12_code 116 = .ok (.invokestatic 54, 3) := by decide +kernel
theorem d4_119 : decode prog_41_method_12_code 119 = .ok (.invokevirtual 50, 3) := by decide +kernel
theorem d4_122 : decode prog_41_method_12_code 122 = .ok (.iinc 5 1, 3) := by decide +kernel
theorem d4_125 : decode prog_41_method_12_code 125 = .ok (.goto (-37), 3) := by decide +kernel
theorem d4_128 : decode prog_41_method_12_code 128 = .ok (.return_, 1) := by decide +kernel
theorem ef_rmT (m : MethodId) (a : Addr) (q : Int64) (w3 : Int32) (r : Addr) : entryFrame m #[(.ref a), (.long q), (.int w3), (.ref r)] 6 = mkF m 0 #[rv a, jv q, sd, iv w3, rv r, un] [] := by first | (simp [entryFrame, mkF, argsToLocals, Value.category]; done) | rfl
def Q_rmT (Z : State) (a : Addr) (q : Int64) (w3 : Int32) (r : Addr) (sc : UInt64) (mx : Int64) (mi : Int64) (mw : Int32) (lim : Addr) (pri : Addr) (stp : Addr) (lst : Addr) (pm : Int32) (t : Int64) (l0 : Int32) (l1 : Int32) (c0 : Int32) (c1 : Int32) (h0 : Heap) (n0 : Nat) (v : Option Value) (h : Heap) (L : List Loc) : Prop := ∃ y0 : UInt64, ∃ y1 : UInt64, ∃ y2 : UInt64, ∃ y3 : UInt64, ∃ y4 : UInt64, v = none ∧ Fr n0 L ∧ Keep h0 h [pri, lst] ∧ Arl Z h pri .double [(.double y0), (.double y1), (.double y2), (.double y3), (.double y4)] ∧ y0 = (if pm = (0 : Int32) then (0 : UInt64) else (if mx < q then (FP.l2d t) else (0 : UInt64))) ∧ y1 = (if pm = (0 : Int32) then (0 : UInt64) else (if q < mi then (FP.l2d t) else (0 : UInt64))) ∧ y2 = (if (0 : Int32) < (own_sg (w3 - mw)) then (FP.l2d t) else (0 : UInt64)) ∧ y3 = (if (0 : Int32) < (own_sg (c0 - l0)) then (FP.l2d t) else (0 : UInt64)) ∧ y4 = (if (0 : Int32) < (own_sg (c1 - l1)) then (FP.l2d t) else (0 : UInt64))
set_option maxRecDepth 65536 in
set_option maxHeartbeats 40000000 in
theorem rmT (l : Launch) (Z : State) (a0 : Array Value) (hw : ∀ d ∈ tables_1, d.before a0 Z = true) (a : Addr) (q : Int64) (w3 : Int32) (r : Addr) (sc : UInt64) (mx : Int64) (mi : Int64) (mw : Int32) (lim : Addr) (pri : Addr) (stp : Addr) (lst : Addr) (pm : Int32) (t : Int64) (l0 : Int32) (l1 : Int32) (c0 : Int32) (c1 : Int32) (h0 : Heap) (n0 : Nat) (Z0 : n0 ≤ h0.size) (E_a : Exa Z h0 a "com/example/wardwise/wardwise/solver/LimitPrices") (F_a_pricesMinutes : Fld Z h0 a "com/example/wardwise/wardwise/solver/LimitPrices" "pricesMinutes" "Z" (.int pm)) (F_a_minuteScale : Fld Z h0 a "com/example/wardwise/wardwise/solver/LimitPrices" "minuteScale" "D" (.double sc)) (F_a_maxMinutes : Fld Z h0 a "com/example/wardwise/wardwise/solver/LimitPrices" "maxMinutes" "J" (.long mx)) (F_a_minMinutes : Fld Z h0 a "com/example/wardwise/wardwise/solver/LimitPrices" "minMinutes" "J" (.long mi)) (F_a_maxWeekends : Fld Z h0 a "com/example/wardwise/wardwise/solver/LimitPrices" "maxWeekends" "I" (.int mw)) (F_a_limits : Fld Z h0 a "com/example/wardwise/wardwise/solver/LimitPrices" "limits" "[I" (.ref lim)) (F_a_price : Fld Z h0 a "com/example/wardwise/wardwise/solver/LimitPrices" "price" "[D" (.ref pri)) (F_a_stepSize : Fld Z h0 a "com/example/wardwise/wardwise/solver/LimitPrices" "stepSize" "[D" (.ref stp)) (F_a_lastSide : Fld Z h0 a "com/example/wardwise/wardwise/solver/LimitPrices" "lastSide" "[I" (.ref lst)) (A_lim : Arl Z h0 lim .int [(.int l0), (.int l1)]) (A_r : Arl Z h0 r .int [(.int c0), (.int c1)]) (A_pri : Arl Z h0 pri .double [(.double (0 : UInt64)), (.double (0 : UInt64)), (.double (0 : UInt64)), (.double (0 : UInt64)), (.double (0 : UInt64))]) (A_stp : Arl Z h0 stp .double [(.double (FP.l2d t)), (.double (FP.l2d t)), (.double (FP.l2d t)), (.double (FP.l2d t)), (.double (FP.l2d t))]) (A_lst : Arl Z h0 lst .int [(.int (0 : Int32)), (.int (0 : Int32)), (.int (0 : Int32)), (.int (0 : Int32)), (.int (0 : Int32))]) (ne_a_lim : a ≠ lim) (ne_a_r : a ≠ r) (ne_a_pri : a ≠ pri) (ne_a_stp : a ≠ stp) (ne_a_lst : a ≠ lst) (ne_lim_r : lim ≠ r) (ne_lim_pri : lim ≠ pri) (ne_lim_stp : lim ≠ stp) (ne_lim_lst : lim ≠ lst) (ne_r_pri : r ≠ pri) (ne_r_stp : r ≠ stp) (ne_r_lst : r ≠ lst) (ne_pri_stp : pri ≠ stp) (ne_pri_lst : pri ≠ lst) (ne_stp_lst : stp ≠ lst) (g_pri : n0 ≤ pri) (g_lst : n0 ≤ lst) (ht : 0 ≤ t.toInt ∧ t.toInt ≤ 255) (hs2 : (own_sg (w3 - mw)) = -1 ∨ (own_sg (w3 - mw)) = 0 ∨ (own_sg (w3 - mw)) = 1) (hs3 : (own_sg (c0 - l0)) = -1 ∨ (own_sg (c0 - l0)) = 0 ∨ (own_sg (c0 - l0)) = 1) (hs4 : (own_sg (c1 - l1)) = -1 ∨ (own_sg (c1 - l1)) = 0 ∨ (own_sg (c1 - l1)) = 1) :
    Ctr l Z h0 (⟨"com/example/wardwise/wardwise/solver/LimitPrices", "step", "(JI[I)V"⟩ : MethodName) prog_41_method_12_code 6 none [] ({ frames := 2, cells := 0, slots := 0, locals := 31 } : Room) #[(.ref a), (.long q), (.int w3), (.ref r)] (Q_rmT Z a q w3 r sc mx mi mw lim pri stp lst pm t l0 l1 c0 c1 h0 n0) := by
  refine Ctr.make (plainFor_of_name pn_40) fun p e s m below meth c s₁ K hret hml hx hby hown hnm hZ X0 e0 hK => ?_
  have hown : s.vm.findClass "com/example/wardwise/wardwise/solver/LimitPrices" = some m.cls := hown
  have N0 := Fr.nil n0
  have K0 : Keep h0 h0 [pri, lst] := Keep.refl _ _
  refine Wlk.of (fun _ k => castTop (ef_rmT m a q w3 r) k) ?_
  show Wlk p.tables e below (s₁.setTop (mkF m 0 #[rv a, jv q, sd, iv w3, rv r, un] [])) K
  refine Wlk.of (fun _ k => XS.aloadN X0.here hx rfl (hb hby d4_0) rfl rfl k) ?_
  show Wlk p.tables e below (s₁.setTop (mkF m 1 #[rv a, jv q, sd, iv w3, rv r, un] [(.ref a)])) K
  obtain ⟨T1, X1, e1, st1⟩ := getF X0 hx hZ hown (host := "") (Or.inl (wd hw 10 rfl)) Via.refl e0 F_a_pricesMinutes (g := (mkF m 1 #[rv a, jv q, sd, iv w3, rv r, un] [(.ref a)])) rfl rfl (hb hby d4_1)
  refine Wlk.of (fun _ k => st1 _ k) ?_
  show Wlk p.tables e below (T1.setTop (mkF m 4 #[rv a, jv q, sd, iv w3, rv r, un] [(.int pm)])) K
  have J2 : ∀ (T2 : State) (h2 : Heap) (ls2 : List Loc) (j2_0 : UInt64) (j2_1 : UInt64) (j2_2 : Int32) (j2_3 : Int32), j2_0 = (if pm = (0 : Int32) then (0 : UInt64) else (if mx < q then (if (0 : Int32) < (1 : Int32) then (FP.l2d t) else (0 : UInt64)) else (if q < mx then (if (0 : Int32) < (-1 : Int32) then (FP.l2d t) else (0 : UInt64)) else (if (0 : Int32) < (0 : Int32) then (FP.l2d t) else (0 : UInt64))))) → j2_1 = (if pm = (0 : Int32) then (0 : UInt64) else (if q < mi then (if (0 : Int32) < (1 : Int32) then (FP.l2d t) else (0 : UInt64)) else (if mi < q then (if (0 : Int32) < (-1 : Int32) then (FP.l2d t) else (0 : UInt64)) else (if (0 : Int32) < (0 : Int32) then (FP.l2d t) else (0 : UInt64))))) → Stand p l e ({ frames := 2, cells := 0, slots := 0, locals := 31 } : Room) s m #[(.ref a), (.long q), (.int w3), (.ref r)] below meth c T2 ls2 0 0 → T2.heap = h2 → Fr n0 ls2 → Keep h0 h2 [pri, lst] → Exa Z h2 a "com/example/wardwise/wardwise/solver/LimitPrices" → Fld Z h2 a "com/example/wardwise/wardwise/solver/LimitPrices" "pricesMinutes" "Z" (.int pm) → Fld Z h2 a "com/example/wardwise/wardwise/solver/LimitPrices" "minuteScale" "D" (.double sc) → Fld Z h2 a "com/example/wardwise/wardwise/solver/LimitPrices" "maxMinutes" "J" (.long mx) → Fld Z h2 a "com/example/wardwise/wardwise/solver/LimitPrices" "minMinutes" "J" (.long mi) → Fld Z h2 a "com/example/wardwise/wardwise/solver/LimitPrices" "maxWeekends" "I" (.int mw) → Fld Z h2 a "com/example/wardwise/wardwise/solver/LimitPrices" "limits" "[I" (.ref lim) → Fld Z h2 a "com/example/wardwise/wardwise/solver/LimitPrices" "price" "[D" (.ref pri) → Fld Z h2 a "com/example/wardwise/wardwise/solver/LimitPrices" "stepSize" "[D" (.ref stp) → Fld Z h2 a "com/example/wardwise/wardwise/solver/LimitPrices" "lastSide" "[I" (.ref lst) → Arl Z h2 lim .int [(.int l0), (.int l1)] → Arl Z h2 r .int [(.int c0), (.int c1)] → Arl Z h2 pri .double [(.double j2_0), (.double j2_1), (.double (0 : UInt64)), (.double (0 : UInt64)), (.double (0 : UInt64))] → Arl Z h2 stp .double [(.double (FP.l2d t)), (.double (FP.l2d t)), (.double (FP.l2d t)), (.double (FP.l2d t)), (.double (FP.l2d t))] → Arl Z h2 lst .int [(.int j2_2), (.int j2_3), (.int (0 : Int32)), (.int (0 : Int32)), (.int (0 : Int32))] → Wlk p.tables e below (T2.setTop (mkF m 71 #[rv a, jv q, sd, iv w3, rv r, un] [])) K := by
    intro T2 h2 ls2 j2_0 j2_1 j2_2 j2_3 hj2_0 hj2_1 X2 e2 N2 K2 z2_0 z2_1 z2_2 z2_3 z2_4 z2_5 z2_6 z2_7 z2_8 z2_9 z2_10 z2_11 z2_12 z2_13 z2_14
    refine Wlk.of (fun _ k => XS.aloadN X2.here hx rfl (hb hby d4_71) rfl rfl k) ?_
    show Wlk p.tables e below (T2.setTop (mkF m 72 #[rv a, jv q, sd, iv w3, rv r, un] [(.ref a)])) K
    refine Wlk.of (fun _ k => XS.iconst X2.here hx rfl (hb hby d4_72) k) ?_
    show Wlk p.tables e below (T2.setTop (mkF m 73 #[rv a, jv q, sd, iv w3, rv r, un] [(.int (2 : Int32)), (.ref a)])) K
    refine Wlk.of (fun _ k => XS.iloadN X2.here hx rfl (hb hby d4_73) rfl k) ?_
    show Wlk p.tables e below (T2.setTop (mkF m 74 #[rv a, jv q, sd, iv w3, rv r, un] [(.int w3), (.int (2 : Int32)), (.ref a)])) K
    refine Wlk.of (fun _ k => XS.aloadN X2.here hx rfl (hb hby d4_74) rfl rfl k) ?_
    show Wlk p.tables e below (T2.setTop (mkF m 75 #[rv a, jv q, sd, iv w3, rv r, un] [(.ref a), (.int w3), (.int (2 : Int32)), (.ref a)])) K
    obtain ⟨T3, X3, e3, st3⟩ := getF X2 hx hZ hown (host := "") (Or.inl (wd hw 18 rfl)) Via.refl e2 z2_5 (g := (mkF m 75 #[rv a, jv q, sd, iv w3, rv r, un] [(.ref a), (.int w3), (.int (2 : Int32)), (.ref a)])) rfl rfl (hb hby d4_75)
    refine Wlk.of (fun _ k => st3 _ k) ?_
    show Wlk p.tables e below (T3.setTop (mkF m 78 #[rv a, jv q, sd, iv w3, rv r, un] [(.int mw), (.int w3), (.int (2 : Int32)), (.ref a)])) K
    refine Wlk.of (fun _ k => XS.isub X3.here hx rfl (hb hby d4_78) rfl k) ?_
    show Wlk p.tables e below (T3.setTop (mkF m 79 #[rv a, jv q, sd, iv w3, rv r, un] [(.int (w3 - mw)), (.int (2 : Int32)), (.ref a)])) K
    obtain ⟨v4, T4, L4, X4, q4, st4⟩ := Ctr.static (rmG l Z a0 hw ((w3 - mw)) h2 n0 (Nat.le_trans Z0 K2.1) ) X3 hx hZ e3 hown (wd hw 45 rfl) (wd hw 46 rfl) (wd hw 47 rfl) (wd hw 48 rfl) (by decide) pd_296 (g := (mkF m 79 #[rv a, jv q, sd, iv w3, rv r, un] [(.int (w3 - mw)), (.int (2 : Int32)), (.ref a)])) rfl (by rw [hml]; rfl) (argsL := [(.int (w3 - mw))]) (rest := [(.int (2 : Int32)), (.ref a)]) rfl rfl rfl (W := 2) (by show 2 * 0 + _ ≤ _; exact Nat.le_of_eq rfl) (by decide) (by decide) (hb hby d4_79) (by decide) (by decide)
    obtain ⟨rfl, N4q, hh4⟩ := q4
    have N5 := Fr.app N2 N4q
    refine Wlk.of (fun _ k => st4 _ k) ?_
    show Wlk p.tables e below (T4.setTop (mkF m 82 #[rv a, jv q, sd, iv w3, rv r, un] [(.int (own_sg (w3 - mw))), (.int (2 : Int32)), (.ref a)])) K
    obtain ⟨v6, T6, L6, X6, q6, st6⟩ := Ctr.priv (rmM2 l Z a0 hw a ((own_sg (w3 - mw))) pri stp lst t j2_0 j2_1 (0 : UInt64) (0 : UInt64) j2_2 j2_3 (0 : Int32) (0 : Int32) h2 n0 (Nat.le_trans Z0 K2.1) z2_7 z2_8 z2_9 z2_12 z2_13 z2_14 ne_a_pri ne_a_stp ne_a_lst ne_pri_stp ne_pri_lst ne_stp_lst g_pri g_lst hs2 ht) X4 hx hZ hh4 hown (wd hw 41 rfl) (wd hw 42 rfl) (wd hw 43 rfl) (wd hw 2 rfl) (wd hw 3 rfl) (wd hw 44 rfl) (by decide) z2_0 pd_295 (g := (mkF m 82 #[rv a, jv q, sd, iv w3, rv r, un] [(.int (own_sg (w3 - mw))), (.int (2 : Int32)), (.ref a)])) rfl (by rw [hml]; rfl) (argsL := [(.int (2 : Int32)), (.int (own_sg (w3 - mw)))]) (rest := []) rfl rfl rfl (W := 0) (by show 2 * 0 + _ ≤ _; exact Nat.le_of_eq rfl) (by decide) (by decide) (hb hby d4_82) (by decide) (by decide)
    obtain ⟨zz_6, rfl, N6q, K6q, p6_0, p6_1⟩ := q6
    have N7 := Fr.app N5 N6q
    refine Wlk.of (fun _ k => st6 _ k) ?_
    have K8 : Keep h0 T6.heap [pri, lst] := K2.trans K6q (allS (Or.inl (List.mem_of_getElem? (i := 0) rfl)) (allS (Or.inl (List.mem_of_getElem? (i := 1) rfl)) all0))
    show Wlk p.tables e below (T6.setTop (mkF m 85 #[rv a, jv q, sd, iv w3, rv r, un] [])) K
    refine Wlk.of (fun _ k => XS.iconst X6.here hx rfl (hb hby d4_85) k) ?_
    show Wlk p.tables e below (T6.setTop (mkF m 86 #[rv a, jv q, sd, iv w3, rv r, un] [(.int (0 : Int32))])) K
    refine Wlk.of (fun _ k => XS.istore X6.here hx rfl (hb hby d4_86) rfl (l' := #[rv a, jv q, sd, iv w3, rv r, iv (0 : Int32)]) rfl k) ?_
    show Wlk p.tables e below (T6.setTop (mkF m 88 #[rv a, jv q, sd, iv w3, rv r, iv (0 : Int32)] [])) K
    refine Wlk.of (fun _ k => XS.iload X6.here hx rfl (hb hby d4_88) rfl k) ?_
    show Wlk p.tables e below (T6.setTop (mkF m 90 #[rv a, jv q, sd, iv w3, rv r, iv (0 : Int32)] [(.int (0 : Int32))])) K
    refine Wlk.of (fun _ k => XS.aloadN X6.here hx rfl (hb hby d4_90) rfl rfl k) ?_
    show Wlk p.tables e below (T6.setTop (mkF m 91 #[rv a, jv q, sd, iv w3, rv r, iv (0 : Int32)] [(.ref a), (.int (0 : Int32))])) K
    have f9 : Fld Z T6.heap a "com/example/wardwise/wardwise/solver/LimitPrices" "limits" "[I" (.ref lim) := (z2_6.keep K6q (ninS ne_a_pri (ninS ne_a_lst nin0)))
    obtain ⟨T10, X10, e10, st10⟩ := getF X6 hx hZ hown (host := "") (Or.inl (wd hw 20 rfl)) Via.refl rfl f9 (g := (mkF m 91 #[rv a, jv q, sd, iv w3, rv r, iv (0 : Int32)] [(.ref a), (.int (0 : Int32))])) rfl rfl (hb hby d4_91)
    refine Wlk.of (fun _ k => st10 _ k) ?_
    show Wlk p.tables e below (T10.setTop (mkF m 94 #[rv a, jv q, sd, iv w3, rv r, iv (0 : Int32)] [(.ref lim), (.int (0 : Int32))])) K
    have f11 : Arl Z T6.heap lim .int [(.int l0), (.int l1)] := (z2_10.keep K6q (ninS ne_lim_pri (ninS ne_lim_lst nin0)))
    refine Wlk.of (fun _ k => lenL X10 hx hZ e10 f11 (n := (2 : Int32)) rfl (g := (mkF m 94 #[rv a, jv q, sd, iv w3, rv r, iv (0 : Int32)] [(.ref lim), (.int (0 : Int32))])) rfl rfl (hb hby d4_94) _ k) ?_
    show Wlk p.tables e below (T10.setTop (mkF m 95 #[rv a, jv q, sd, iv w3, rv r, iv (0 : Int32)] [(.int (2 : Int32)), (.int (0 : Int32))])) K
    refine Wlk.of (fun _ k => XS.icmpNo X10.here hx rfl (hb hby d4_95) rfl (tlt (by decide : (0 : Int32) < (2 : Int32))).2.1 k) ?_
    show Wlk p.tables e below (T10.setTop (mkF m 98 #[rv a, jv q, sd, iv w3, rv r, iv (0 : Int32)] [])) K
    refine Wlk.of (fun _ k => XS.aloadN X10.here hx rfl (hb hby d4_98) rfl rfl k) ?_
    show Wlk p.tables e below (T10.setTop (mkF m 99 #[rv a, jv q, sd, iv w3, rv r, iv (0 : Int32)] [(.ref a)])) K
    refine Wlk.of (fun _ k => XS.iconst X10.here hx rfl (hb hby d4_99) k) ?_
    show Wlk p.tables e below (T10.setTop (mkF m 100 #[rv a, jv q, sd, iv w3, rv r, iv (0 : Int32)] [(.int (3 : Int32)), (.ref a)])) K
    refine Wlk.of (fun _ k => XS.iload X10.here hx rfl (hb hby d4_100) rfl k) ?_
    show Wlk p.tables e below (T10.setTop (mkF m 102 #[rv a, jv q, sd, iv w3, rv r, iv (0 : Int32)] [(.int (0 : Int32)), (.int (3 : Int32)), (.ref a)])) K
    refine Wlk.of (fun _ k => XS.iadd X10.here hx rfl (hb hby d4_102) rfl k) ?_
    show Wlk p.tables e below (T10.setTop (mkF m 103 #[rv a, jv q, sd, iv w3, rv r, iv (0 : Int32)] [(.int (3 : Int32)), (.ref a)])) K
    refine Wlk.of (fun _ k => XS.aload X10.here hx rfl (hb hby d4_103) rfl rfl k) ?_
    show Wlk p.tables e below (T10.setTop (mkF m 105 #[rv a, jv q, sd, iv w3, rv r, iv (0 : Int32)] [(.ref r), (.int (3 : Int32)), (.ref a)])) K
    refine Wlk.of (fun _ k => XS.iload X10.here hx rfl (hb hby d4_105) rfl k) ?_
    show Wlk p.tables e below (T10.setTop (mkF m 107 #[rv a, jv q, sd, iv w3, rv r, iv (0 : Int32)] [(.int (0 : Int32)), (.ref r), (.int (3 : Int32)), (.ref a)])) K
    have f12 : Arl Z T6.heap r .int [(.int c0), (.int c1)] := (z2_11.keep K6q (ninS ne_r_pri (ninS ne_r_lst nin0)))
    refine Wlk.of (fun _ k => ldI X10 hx hZ e10 f12 (j := (0 : Int32)) (i := 0) (by decide) (by decide) rfl (g := (mkF m 107 #[rv a, jv q, sd, iv w3, rv r, iv (0 : Int32)] [(.int (0 : Int32)), (.ref r), (.int (3 : Int32)), (.ref a)])) rfl rfl (hb hby d4_107) _ k) ?_
    show Wlk p.tables e below (T10.setTop (mkF m 108 #[rv a, jv q, sd, iv w3, rv r, iv (0 : Int32)] [(.int c0), (.int (3 : Int32)), (.ref a)])) K
    refine Wlk.of (fun _ k => XS.aloadN X10.here hx rfl (hb hby d4_108) rfl rfl k) ?_
    show Wlk p.tables e below (T10.setTop (mkF m 109 #[rv a, jv q, sd, iv w3, rv r, iv (0 : Int32)] [(.ref a), (.int c0), (.int (3 : Int32)), (.ref a)])) K
    obtain ⟨T13, X13, e13, st13⟩ := getF X10 hx hZ hown (host := "") (Or.inl (wd hw 20 rfl)) Via.refl e10 f9 (g := (mkF m 109 #[rv a, jv q, sd, iv w3, rv r, iv (0 : Int32)] [(.ref a), (.int c0), (.int (3 : Int32)), (.ref a)])) rfl rfl (hb hby d4_109)
    refine Wlk.of (fun _ k => st13 _ k) ?_
    show Wlk p.tables e below (T13.setTop (mkF m 112 #[rv a, jv q, sd, iv w3, rv r, iv (0 : Int32)] [(.ref lim), (.int c0), (.int (3 : Int32)), (.ref a)])) K
    refine Wlk.of (fun _ k => XS.iload X13.here hx rfl (hb hby d4_112) rfl k) ?_
    show Wlk p.tables e below (T13.setTop (mkF m 114 #[rv a, jv q, sd, iv w3, rv r, iv (0 : Int32)] [(.int (0 : Int32)), (.ref lim), (.int c0), (.int (3 : Int32)), (.ref a)])) K
    refine Wlk.of (fun _ k => ldI X13 hx hZ e13 f11 (j := (0 : Int32)) (i := 0) (by decide) (by decide) rfl (g := (mkF m 114 #[rv a, jv q, sd, iv w3, rv r, iv (0 : Int32)] [(.int (0 : Int32)), (.ref lim), (.int c0), (.int (3 : Int32)), (.ref a)])) rfl rfl (hb hby d4_114) _ k) ?_
    show Wlk p.tables e below (T13.setTop (mkF m 115 #[rv a, jv q, sd, iv w3, rv r, iv (0 : Int32)] [(.int l0), (.int c0), (.int (3 : Int32)), (.ref a)])) K
    refine Wlk.of (fun _ k => XS.isub X13.here hx rfl (hb hby d4_115) rfl k) ?_
    show Wlk p.tables e below (T13.setTop (mkF m 116 #[rv a, jv q, sd, iv w3, rv r, iv (0 : Int32)] [(.int (c0 - l0)), (.int (3 : Int32)), (.ref a)])) K
    obtain ⟨v14, T14, L14, X14, q14, st14⟩ := Ctr.static (rmG l Z a0 hw ((c0 - l0)) T6.heap n0 (Nat.le_trans Z0 K8.1) ) X13 hx hZ e13 hown (wd hw 45 rfl) (wd hw 46 rfl) (wd hw 47 rfl) (wd hw 48 rfl) (by decide) pd_296 (g := (mkF m 116 #[rv a, jv q, sd, iv w3, rv r, iv (0 : Int32)] [(.int (c0 - l0)), (.int (3 : Int32)), (.ref a)])) rfl (by rw [hml]; rfl) (argsL := [(.int (c0 - l0))]) (rest := [(.int (3 : Int32)), (.ref a)]) rfl rfl rfl (W := 2) (by show 2 * 0 + _ ≤ _; exact Nat.le_of_eq rfl) (by decide) (by decide) (hb hby d4_116) (by decide) (by decide)
    obtain ⟨rfl, N14q, hh14⟩ := q14
    have N15 := Fr.app N7 N14q
    refine Wlk.of (fun _ k => st14 _ k) ?_
    show Wlk p.tables e below (T14.setTop (mkF m 119 #[rv a, jv q, sd, iv w3, rv r, iv (0 : Int32)] [(.int (own_sg (c0 - l0))), (.int (3 : Int32)), (.ref a)])) K
    have f16 : Fld Z T6.heap a "com/example/wardwise/wardwise/solver/LimitPrices" "price" "[D" (.ref pri) := (z2_7.keep K6q (ninS ne_a_pri (ninS ne_a_lst nin0)))
    have f17 : Fld Z T6.heap a "com/example/wardwise/wardwise/solver/LimitPrices" "stepSize" "[D" (.ref stp) := (z2_8.keep K6q (ninS ne_a_pri (ninS ne_a_lst nin0)))
    have f18 : Fld Z T6.heap a "com/example/wardwise/wardwise/solver/LimitPrices" "lastSide" "[I" (.ref lst) := (z2_9.keep K6q (ninS ne_a_pri (ninS ne_a_lst nin0)))
    have f19 : Arl Z T6.heap stp .double [(.double (FP.l2d t)), (.double (FP.l2d t)), (.double (FP.l2d t)), (.double (FP.l2d t)), (.double (FP.l2d t))] := (z2_13.keep K6q (ninS (Ne.symm ne_pri_stp) (ninS ne_stp_lst nin0)))
    have f20 : Exa Z T6.heap a "com/example/wardwise/wardwise/solver/LimitPrices" := (z2_0.keep K6q)
    obtain ⟨v21, T21, L21, X21, q21, st21⟩ := Ctr.priv (rmM3 l Z a0 hw a ((own_sg (c0 - l0))) pri stp lst t j2_0 j2_1 ((if (0 : Int32) < (own_sg (w3 - mw)) then (FP.l2d t) else (0 : UInt64))) (0 : UInt64) j2_2 j2_3 zz_6 (0 : Int32) T6.heap n0 (Nat.le_trans Z0 K8.1) f16 f17 f18 p6_0 f19 p6_1 ne_a_pri ne_a_stp ne_a_lst ne_pri_stp ne_pri_lst ne_stp_lst g_pri g_lst hs3 ht) X14 hx hZ hh14 hown (wd hw 41 rfl) (wd hw 42 rfl) (wd hw 43 rfl) (wd hw 2 rfl) (wd hw 3 rfl) (wd hw 44 rfl) (by decide) f20 pd_295 (g := (mkF m 119 #[rv a, jv q, sd, iv w3, rv r, iv (0 : Int32)] [(.int (own_sg (c0 - l0))), (.int (3 : Int32)), (.ref a)])) rfl (by rw [hml]; rfl) (argsL := [(.int (3 : Int32)), (.int (own_sg (c0 - l0)))]) (rest := []) rfl rfl rfl (W := 0) (by show 2 * 0 + _ ≤ _; exact Nat.le_of_eq rfl) (by decide) (by decide) (hb hby d4_119) (by decide) (by decide)
    obtain ⟨zz_21, rfl, N21q, K21q, p21_0, p21_1⟩ := q21
    have N22 := Fr.app N15 N21q
    refine Wlk.of (fun _ k => st21 _ k) ?_
    have K23 : Keep h0 T21.heap [pri, lst] := K8.trans K21q (allS (Or.inl (List.mem_of_getElem? (i := 0) rfl)) (allS (Or.inl (List.mem_of_getElem? (i := 1) rfl)) all0))
    show Wlk p.tables e below (T21.setTop (mkF m 122 #[rv a, jv q, sd, iv w3, rv r, iv (0 : Int32)] [])) K
    refine Wlk.of (fun _ k => XS.iinc X21.here hx rfl (hb hby d4_122) rfl (l' := #[rv a, jv q, sd, iv w3, rv r, iv (1 : Int32)]) rfl k) ?_
    show Wlk p.tables e below (T21.setTop (mkF m 125 #[rv a, jv q, sd, iv w3, rv r, iv (1 : Int32)] [])) K
    refine Wlk.of (fun _ k => XS.goto X21.here hx rfl (pc0 := 125) (pc' := 88) rfl (hb hby d4_125) (by decide) (by decide) k) ?_
    show Wlk p.tables e below (T21.setTop (mkF m 88 #[rv a, jv q, sd, iv w3, rv r, iv (1 : Int32)] [])) K
    refine Wlk.of (fun _ k => XS.iload X21.here hx rfl (hb hby d4_88) rfl k) ?_
    show Wlk p.tables e below (T21.setTop (mkF m 90 #[rv a, jv q, sd, iv w3, rv r, iv (1 : Int32)] [(.int (1 : Int32))])) K
    refine Wlk.of (fun _ k => XS.aloadN X21.here hx rfl (hb hby d4_90) rfl rfl k) ?_
    show Wlk p.tables e below (T21.setTop (mkF m 91 #[rv a, jv q, sd, iv w3, rv r, iv (1 : Int32)] [(.ref a), (.int (1 : Int32))])) K
    have f24 : Fld Z T21.heap a "com/example/wardwise/wardwise/solver/LimitPrices" "limits" "[I" (.ref lim) := (f9.keep K21q (ninS ne_a_pri (ninS ne_a_lst nin0)))
    obtain ⟨T25, X25, e25, st25⟩ := getF X21 hx hZ hown (host := "") (Or.inl (wd hw 20 rfl)) Via.refl rfl f24 (g := (mkF m 91 #[rv a, jv q, sd, iv w3, rv r, iv (1 : Int32)] [(.ref a), (.int (1 : Int32))])) rfl rfl (hb hby d4_91)
    refine Wlk.of (fun _ k => st25 _ k) ?_
    show Wlk p.tables e below (T25.setTop (mkF m 94 #[rv a, jv q, sd, iv w3, rv r, iv (1 : Int32)] [(.ref lim), (.int (1 : Int32))])) K
    have f26 : Arl Z T21.heap lim .int [(.int l0), (.int l1)] := (f11.keep K21q (ninS ne_lim_pri (ninS ne_lim_lst nin0)))
    refine Wlk.of (fun _ k => lenL X25 hx hZ e25 f26 (n := (2 : Int32)) rfl (g := (mkF m 94 #[rv a, jv q, sd, iv w3, rv r, iv (1 : Int32)] [(.ref lim), (.int (1 : Int32))])) rfl rfl (hb hby d4_94) _ k) ?_
    show Wlk p.tables e below (T25.setTop (mkF m 95 #[rv a, jv q, sd, iv w3, rv r, iv (1 : Int32)] [(.int (2 : Int32)), (.int (1 : Int32))])) K
    refine Wlk.of (fun _ k => XS.icmpNo X25.here hx rfl (hb hby d4_95) rfl (tlt (by decide : (1 : Int32) < (2 : Int32))).2.1 k) ?_
    show Wlk p.tables e below (T25.setTop (mkF m 98 #[rv a, jv q, sd, iv w3, rv r, iv (1 : Int32)] [])) K
    refine Wlk.of (fun _ k => XS.aloadN X25.here hx rfl (hb hby d4_98) rfl rfl k) ?_
    show Wlk p.tables e below (T25.setTop (mkF m 99 #[rv a, jv q, sd, iv w3, rv r, iv (1 : Int32)] [(.ref a)])) K
    refine Wlk.of (fun _ k => XS.iconst X25.here hx rfl (hb hby d4_99) k) ?_
    show Wlk p.tables e below (T25.setTop (mkF m 100 #[rv a, jv q, sd, iv w3, rv r, iv (1 : Int32)] [(.int (3 : Int32)), (.ref a)])) K
    refine Wlk.of (fun _ k => XS.iload X25.here hx rfl (hb hby d4_100) rfl k) ?_
    show Wlk p.tables e below (T25.setTop (mkF m 102 #[rv a, jv q, sd, iv w3, rv r, iv (1 : Int32)] [(.int (1 : Int32)), (.int (3 : Int32)), (.ref a)])) K
    refine Wlk.of (fun _ k => XS.iadd X25.here hx rfl (hb hby d4_102) rfl k) ?_
    show Wlk p.tables e below (T25.setTop (mkF m 103 #[rv a, jv q, sd, iv w3, rv r, iv (1 : Int32)] [(.int (4 : Int32)), (.ref a)])) K
    refine Wlk.of (fun _ k => XS.aload X25.here hx rfl (hb hby d4_103) rfl rfl k) ?_
    show Wlk p.tables e below (T25.setTop (mkF m 105 #[rv a, jv q, sd, iv w3, rv r, iv (1 : Int32)] [(.ref r), (.int (4 : Int32)), (.ref a)])) K
    refine Wlk.of (fun _ k => XS.iload X25.here hx rfl (hb hby d4_105) rfl k) ?_
    show Wlk p.tables e below (T25.setTop (mkF m 107 #[rv a, jv q, sd, iv w3, rv r, iv (1 : Int32)] [(.int (1 : Int32)), (.ref r), (.int (4 : Int32)), (.ref a)])) K
    have f27 : Arl Z T21.heap r .int [(.int c0), (.int c1)] := (f12.keep K21q (ninS ne_r_pri (ninS ne_r_lst nin0)))
    refine Wlk.of (fun _ k => ldI X25 hx hZ e25 f27 (j := (1 : Int32)) (i := 1) (by decide) (by decide) rfl (g := (mkF m 107 #[rv a, jv q, sd, iv w3, rv r, iv (1 : Int32)] [(.int (1 : Int32)), (.ref r), (.int (4 : Int32)), (.ref a)])) rfl rfl (hb hby d4_107) _ k) ?_
    show Wlk p.tables e below (T25.setTop (mkF m 108 #[rv a, jv q, sd, iv w3, rv r, iv (1 : Int32)] [(.int c1), (.int (4 : Int32)), (.ref a)])) K
    refine Wlk.of (fun _ k => XS.aloadN X25.here hx rfl (hb hby d4_108) rfl rfl k) ?_
    show Wlk p.tables e below (T25.setTop (mkF m 109 #[rv a, jv q, sd, iv w3, rv r, iv (1 : Int32)] [(.ref a), (.int c1), (.int (4 : Int32)), (.ref a)])) K
    obtain ⟨T28, X28, e28, st28⟩ := getF X25 hx hZ hown (host := "") (Or.inl (wd hw 20 rfl)) Via.refl e25 f24 (g := (mkF m 109 #[rv a, jv q, sd, iv w3, rv r, iv (1 : Int32)] [(.ref a), (.int c1), (.int (4 : Int32)), (.ref a)])) rfl rfl (hb hby d4_109)
    refine Wlk.of (fun _ k => st28 _ k) ?_
    show Wlk p.tables e below (T28.setTop (mkF m 112 #[rv a, jv q, sd, iv w3, rv r, iv (1 : Int32)] [(.ref lim), (.int c1), (.int (4 : Int32)), (.ref a)])) K
    refine Wlk.of (fun _ k => XS.iload X28.here hx rfl (hb hby d4_112) rfl k) ?_
    show Wlk p.tables e below (T28.setTop (mkF m 114 #[rv a, jv q, sd, iv w3, rv r, iv (1 : Int32)] [(.int (1 : Int32)), (.ref lim), (.int c1), (.int (4 : Int32)), (.ref a)])) K
    refine Wlk.of (fun _ k => ldI X28 hx hZ e28 f26 (j := (1 : Int32)) (i := 1) (by decide) (by decide) rfl (g := (mkF m 114 #[rv a, jv q, sd, iv w3, rv r, iv (1 : Int32)] [(.int (1 : Int32)), (.ref lim), (.int c1), (.int (4 : Int32)), (.ref a)])) rfl rfl (hb hby d4_114) _ k) ?_
    show Wlk p.tables e below (T28.setTop (mkF m 115 #[rv a, jv q, sd, iv w3, rv r, iv (1 : Int32)] [(.int l1), (.int c1), (.int (4 : Int32)), (.ref a)])) K
    refine Wlk.of (fun _ k => XS.isub X28.here hx rfl (hb hby d4_115) rfl k) ?_
    show Wlk p.tables e below (T28.setTop (mkF m 116 #[rv a, jv q, sd, iv w3, rv r, iv (1 : Int32)] [(.int (c1 - l1)), (.int (4 : Int32)), (.ref a)])) K
    obtain ⟨v29, T29, L29, X29, q29, st29⟩ := Ctr.static (rmG l Z a0 hw ((c1 - l1)) T21.heap n0 (Nat.le_trans Z0 K23.1) ) X28 hx hZ e28 hown (wd hw 45 rfl) (wd hw 46 rfl) (wd hw 47 rfl) (wd hw 48 rfl) (by decide) pd_296 (g := (mkF m 116 #[rv a, jv q, sd, iv w3, rv r, iv (1 : Int32)] [(.int (c1 - l1)), (.int (4 : Int32)), (.ref a)])) rfl (by rw [hml]; rfl) (argsL := [(.int (c1 - l1))]) (rest := [(.int (4 : Int32)), (.ref a)]) rfl rfl rfl (W := 2) (by show 2 * 0 + _ ≤ _; exact Nat.le_of_eq rfl) (by decide) (by decide) (hb hby d4_116) (by decide) (by decide)
    obtain ⟨rfl, N29q, hh29⟩ := q29
    have N30 := Fr.app N22 N29q
    refine Wlk.of (fun _ k => st29 _ k) ?_
    show Wlk p.tables e below (T29.setTop (mkF m 119 #[rv a, jv q, sd, iv w3, rv r, iv (1 : Int32)] [(.int (own_sg (c1 - l1))), (.int (4 : Int32)), (.ref a)])) K
    have f31 : Fld Z T21.heap a "com/example/wardwise/wardwise/solver/LimitPrices" "price" "[D" (.ref pri) := (f16.keep K21q (ninS ne_a_pri (ninS ne_a_lst nin0)))
    have f32 : Fld Z T21.heap a "com/example/wardwise/wardwise/solver/LimitPrices" "stepSize" "[D" (.ref stp) := (f17.keep K21q (ninS ne_a_pri (ninS ne_a_lst nin0)))
    have f33 : Fld Z T21.heap a "com/example/wardwise/wardwise/solver/LimitPrices" "lastSide" "[I" (.ref lst) := (f18.keep K21q (ninS ne_a_pri (ninS ne_a_lst nin0)))
    have f34 : Arl Z T21.heap stp .double [(.double (FP.l2d t)), (.double (FP.l2d t)), (.double (FP.l2d t)), (.double (FP.l2d t)), (.double (FP.l2d t))] := (f19.keep K21q (ninS (Ne.symm ne_pri_stp) (ninS ne_stp_lst nin0)))
    have f35 : Exa Z T21.heap a "com/example/wardwise/wardwise/solver/LimitPrices" := (f20.keep K21q)
    obtain ⟨v36, T36, L36, X36, q36, st36⟩ := Ctr.priv (rmM4 l Z a0 hw a ((own_sg (c1 - l1))) pri stp lst t j2_0 j2_1 ((if (0 : Int32) < (own_sg (w3 - mw)) then (FP.l2d t) else (0 : UInt64))) ((if (0 : Int32) < (own_sg (c0 - l0)) then (FP.l2d t) else (0 : UInt64))) j2_2 j2_3 zz_6 zz_21 T21.heap n0 (Nat.le_trans Z0 K23.1) f31 f32 f33 p21_0 f34 p21_1 ne_a_pri ne_a_stp ne_a_lst ne_pri_stp ne_pri_lst ne_stp_lst g_pri g_lst hs4 ht) X29 hx hZ hh29 hown (wd hw 41 rfl) (wd hw 42 rfl) (wd hw 43 rfl) (wd hw 2 rfl) (wd hw 3 rfl) (wd hw 44 rfl) (by decide) f35 pd_295 (g := (mkF m 119 #[rv a, jv q, sd, iv w3, rv r, iv (1 : Int32)] [(.int (own_sg (c1 - l1))), (.int (4 : Int32)), (.ref a)])) rfl (by rw [hml]; rfl) (argsL := [(.int (4 : Int32)), (.int (own_sg (c1 - l1)))]) (rest := []) rfl rfl rfl (W := 0) (by show 2 * 0 + _ ≤ _; exact Nat.le_of_eq rfl) (by decide) (by decide) (hb hby d4_119) (by decide) (by decide)
    obtain ⟨zz_36, rfl, N36q, K36q, p36_0, p36_1⟩ := q36
    have N37 := Fr.app N30 N36q
    refine Wlk.of (fun _ k => st36 _ k) ?_
    have K38 : Keep h0 T36.heap [pri, lst] := K23.trans K36q (allS (Or.inl (List.mem_of_getElem? (i := 0) rfl)) (allS (Or.inl (List.mem_of_getElem? (i := 1) rfl)) all0))
    show Wlk p.tables e below (T36.setTop (mkF m 122 #[rv a, jv q, sd, iv w3, rv r, iv (1 : Int32)] [])) K
    refine Wlk.of (fun _ k => XS.iinc X36.here hx rfl (hb hby d4_122) rfl (l' := #[rv a, jv q, sd, iv w3, rv r, iv (2 : Int32)]) rfl k) ?_
    show Wlk p.tables e below (T36.setTop (mkF m 125 #[rv a, jv q, sd, iv w3, rv r, iv (2 : Int32)] [])) K
    refine Wlk.of (fun _ k => XS.goto X36.here hx rfl (pc0 := 125) (pc' := 88) rfl (hb hby d4_125) (by decide) (by decide) k) ?_
    show Wlk p.tables e below (T36.setTop (mkF m 88 #[rv a, jv q, sd, iv w3, rv r, iv (2 : Int32)] [])) K
    refine Wlk.of (fun _ k => XS.iload X36.here hx rfl (hb hby d4_88) rfl k) ?_
    show Wlk p.tables e below (T36.setTop (mkF m 90 #[rv a, jv q, sd, iv w3, rv r, iv (2 : Int32)] [(.int (2 : Int32))])) K
    refine Wlk.of (fun _ k => XS.aloadN X36.here hx rfl (hb hby d4_90) rfl rfl k) ?_
    show Wlk p.tables e below (T36.setTop (mkF m 91 #[rv a, jv q, sd, iv w3, rv r, iv (2 : Int32)] [(.ref a), (.int (2 : Int32))])) K
    have f39 : Fld Z T36.heap a "com/example/wardwise/wardwise/solver/LimitPrices" "limits" "[I" (.ref lim) := (f24.keep K36q (ninS ne_a_pri (ninS ne_a_lst nin0)))
    obtain ⟨T40, X40, e40, st40⟩ := getF X36 hx hZ hown (host := "") (Or.inl (wd hw 20 rfl)) Via.refl rfl f39 (g := (mkF m 91 #[rv a, jv q, sd, iv w3, rv r, iv (2 : Int32)] [(.ref a), (.int (2 : Int32))])) rfl rfl (hb hby d4_91)
    refine Wlk.of (fun _ k => st40 _ k) ?_
    show Wlk p.tables e below (T40.setTop (mkF m 94 #[rv a, jv q, sd, iv w3, rv r, iv (2 : Int32)] [(.ref lim), (.int (2 : Int32))])) K
    have f41 : Arl Z T36.heap lim .int [(.int l0), (.int l1)] := (f26.keep K36q (ninS ne_lim_pri (ninS ne_lim_lst nin0)))
    refine Wlk.of (fun _ k => lenL X40 hx hZ e40 f41 (n := (2 : Int32)) rfl (g := (mkF m 94 #[rv a, jv q, sd, iv w3, rv r, iv (2 : Int32)] [(.ref lim), (.int (2 : Int32))])) rfl rfl (hb hby d4_94) _ k) ?_
    show Wlk p.tables e below (T40.setTop (mkF m 95 #[rv a, jv q, sd, iv w3, rv r, iv (2 : Int32)] [(.int (2 : Int32)), (.int (2 : Int32))])) K
    refine Wlk.of (fun _ k => XS.icmpYes X40.here hx rfl (pc0 := 95) (pc' := 128) rfl (hb hby d4_95) rfl (flt (by decide : ¬ ((2 : Int32) < (2 : Int32)))).2.1 (by decide) (by decide) k) ?_
    show Wlk p.tables e below (T40.setTop (mkF m 128 #[rv a, jv q, sd, iv w3, rv r, iv (2 : Int32)] [])) K
    refine hK none X40 (fun q => rfl) (fun fs hr => X40.returnOut hx hret (hb hby d4_128) hr) ?_ (by decide) (by decide)
    rw [show T40.heap = T36.heap from e40]
    exact ⟨j2_0, j2_1, (if (0 : Int32) < (own_sg (w3 - mw)) then (FP.l2d t) else (0 : UInt64)), (if (0 : Int32) < (own_sg (c0 - l0)) then (FP.l2d t) else (0 : UInt64)), (if (0 : Int32) < (own_sg (c1 - l1)) then (FP.l2d t) else (0 : UInt64)), rfl, N37, K38, p36_0, (own_y0 hj2_0), (own_y1 hj2_1), rfl, rfl, rfl⟩
  by_cases hc42 : pm = (0 : Int32)
  · refine Wlk.of (fun _ k => XS.ifYes X1.here hx rfl (pc0 := 4) (pc' := 71) rfl (hb hby d4_4) rfl ((if0 _ _).trans (teq hc42).1) (by decide) (by decide) k) ?_
    show Wlk p.tables e below (T1.setTop (mkF m 71 #[rv a, jv q, sd, iv w3, rv r, un] [])) K
    exact J2 _ _ _ (0 : UInt64) (0 : UInt64) (0 : Int32) (0 : Int32) (by rw [if_pos hc42]) (by rw [if_pos hc42]) (X1.more (by decide) (by decide)) e1 N0 K0 E_a F_a_pricesMinutes F_a_minuteScale F_a_maxMinutes F_a_minMinutes F_a_maxWeekends F_a_limits F_a_price F_a_stepSize F_a_lastSide A_lim A_r A_pri A_stp A_lst
  · refine Wlk.of (fun _ k => XS.ifNo X1.here hx rfl (hb hby d4_4) rfl ((if0 _ _).trans (feq hc42).1) k) ?_
    show Wlk p.tables e below (T1.setTop (mkF m 7 #[rv a, jv q, sd, iv w3, rv r, un] [])) K
    refine Wlk.of (fun _ k => XS.aloadN X1.here hx rfl (hb hby d4_7) rfl rfl k) ?_
    show Wlk p.tables e below (T1.setTop (mkF m 8 #[rv a, jv q, sd, iv w3, rv r, un] [(.ref a)])) K
    refine Wlk.of (fun _ k => XS.iconst X1.here hx rfl (hb hby d4_8) k) ?_
    show Wlk p.tables e below (T1.setTop (mkF m 9 #[rv a, jv q, sd, iv w3, rv r, un] [(.int (0 : Int32)), (.ref a)])) K
    refine Wlk.of (fun _ k => XS.lloadN X1.here hx rfl (hb hby d4_9) rfl k) ?_
    show Wlk p.tables e below (T1.setTop (mkF m 10 #[rv a, jv q, sd, iv w3, rv r, un] [(.long q), (.int (0 : Int32)), (.ref a)])) K
    refine Wlk.of (fun _ k => XS.aloadN X1.here hx rfl (hb hby d4_10) rfl rfl k) ?_
    show Wlk p.tables e below (T1.setTop (mkF m 11 #[rv a, jv q, sd, iv w3, rv r, un] [(.ref a), (.long q), (.int (0 : Int32)), (.ref a)])) K
    obtain ⟨T43, X43, e43, st43⟩ := getF X1 hx hZ hown (host := "") (Or.inl (wd hw 14 rfl)) Via.refl e1 F_a_maxMinutes (g := (mkF m 11 #[rv a, jv q, sd, iv w3, rv r, un] [(.ref a), (.long q), (.int (0 : Int32)), (.ref a)])) rfl rfl (hb hby d4_11)
    refine Wlk.of (fun _ k => st43 _ k) ?_
    show Wlk p.tables e below (T43.setTop (mkF m 14 #[rv a, jv q, sd, iv w3, rv r, un] [(.long mx), (.long q), (.int (0 : Int32)), (.ref a)])) K
    refine Wlk.of (fun _ k => XS.lcmp X43.here hx rfl (hb hby d4_14) rfl k) ?_
    show Wlk p.tables e below (T43.setTop (mkF m 15 #[rv a, jv q, sd, iv w3, rv r, un] [(.int (lcmpW q mx)), (.int (0 : Int32)), (.ref a)])) K
    by_cases hc44 : mx < q
    · refine Wlk.of (fun _ k => XS.ifNo X43.here hx rfl (hb hby d4_15) rfl ((if0 _ _).trans (tlt ((lw_gt _ _).mpr hc44)).2.2.2) k) ?_
      show Wlk p.tables e below (T43.setTop (mkF m 18 #[rv a, jv q, sd, iv w3, rv r, un] [(.int (0 : Int32)), (.ref a)])) K
      refine Wlk.of (fun _ k => XS.iconst X43.here hx rfl (hb hby d4_18) k) ?_
      show Wlk p.tables e below (T43.setTop (mkF m 19 #[rv a, jv q, sd, iv w3, rv r, un] [(.int (1 : Int32)), (.int (0 : Int32)), (.ref a)])) K
      refine Wlk.of (fun _ k => XS.goto X43.here hx rfl (pc0 := 19) (pc' := 36) rfl (hb hby d4_19) (by decide) (by decide) k) ?_
      show Wlk p.tables e below (T43.setTop (mkF m 36 #[rv a, jv q, sd, iv w3, rv r, un] [(.int (1 : Int32)), (.int (0 : Int32)), (.ref a)])) K
      obtain ⟨v45, T45, L45, X45, q45, st45⟩ := Ctr.priv (rmM0 l Z a0 hw a (1 : Int32) pri stp lst t (0 : UInt64) (0 : UInt64) (0 : UInt64) (0 : UInt64) (0 : Int32) (0 : Int32) (0 : Int32) (0 : Int32) h0 n0 (Nat.le_trans Z0 K0.1) F_a_price F_a_stepSize F_a_lastSide A_pri A_stp A_lst ne_a_pri ne_a_stp ne_a_lst ne_pri_stp ne_pri_lst ne_stp_lst g_pri g_lst (by decide) ht) X43 hx hZ e43 hown (wd hw 41 rfl) (wd hw 42 rfl) (wd hw 43 rfl) (wd hw 2 rfl) (wd hw 3 rfl) (wd hw 44 rfl) (by decide) E_a pd_295 (g := (mkF m 36 #[rv a, jv q, sd, iv w3, rv r, un] [(.int (1 : Int32)), (.int (0 : Int32)), (.ref a)])) rfl (by rw [hml]; rfl) (argsL := [(.int (0 : Int32)), (.int (1 : Int32))]) (rest := []) rfl rfl rfl (W := 0) (by show 2 * 0 + _ ≤ _; exact Nat.le_of_eq rfl) (by decide) (by decide) (hb hby d4_36) (by decide) (by decide)
      obtain ⟨zz_45, rfl, N45q, K45q, p45_0, p45_1⟩ := q45
      have N46 := Fr.app N0 N45q
      refine Wlk.of (fun _ k => st45 _ k) ?_
      have K47 : Keep h0 T45.heap [pri, lst] := K0.trans K45q (allS (Or.inl (List.mem_of_getElem? (i := 0) rfl)) (allS (Or.inl (List.mem_of_getElem? (i := 1) rfl)) all0))
      show Wlk p.tables e below (T45.setTop (mkF m 39 #[rv a, jv q, sd, iv w3, rv r, un] [])) K
      refine Wlk.of (fun _ k => XS.aloadN X45.here hx rfl (hb hby d4_39) rfl rfl k) ?_
      show Wlk p.tables e below (T45.setTop (mkF m 40 #[rv a, jv q, sd, iv w3, rv r, un] [(.ref a)])) K
      refine Wlk.of (fun _ k => XS.iconst X45.here hx rfl (hb hby d4_40) k) ?_
      show Wlk p.tables e below (T45.setTop (mkF m 41 #[rv a, jv q, sd, iv w3, rv r, un] [(.int (1 : Int32)), (.ref a)])) K
      refine Wlk.of (fun _ k => XS.lloadN X45.here hx rfl (hb hby d4_41) rfl k) ?_
      show Wlk p.tables e below (T45.setTop (mkF m 42 #[rv a, jv q, sd, iv w3, rv r, un] [(.long q), (.int (1 : Int32)), (.ref a)])) K
      refine Wlk.of (fun _ k => XS.aloadN X45.here hx rfl (hb hby d4_42) rfl rfl k) ?_
      show Wlk p.tables e below (T45.setTop (mkF m 43 #[rv a, jv q, sd, iv w3, rv r, un] [(.ref a), (.long q), (.int (1 : Int32)), (.ref a)])) K
      have f48 : Fld Z T45.heap a "com/example/wardwise/wardwise/solver/LimitPrices" "minMinutes" "J" (.long mi) := (F_a_minMinutes.keep K45q (ninS ne_a_pri (ninS ne_a_lst nin0)))
      obtain ⟨T49, X49, e49, st49⟩ := getF X45 hx hZ hown (host := "") (Or.inl (wd hw 16 rfl)) Via.refl rfl f48 (g := (mkF m 43 #[rv a, jv q, sd, iv w3, rv r, un] [(.ref a), (.long q), (.int (1 : Int32)), (.ref a)])) rfl rfl (hb hby d4_43)
      refine Wlk.of (fun _ k => st49 _ k) ?_
      show Wlk p.tables e below (T49.setTop (mkF m 46 #[rv a, jv q, sd, iv w3, rv r, un] [(.long mi), (.long q), (.int (1 : Int32)), (.ref a)])) K
      refine Wlk.of (fun _ k => XS.lcmp X49.here hx rfl (hb hby d4_46) rfl k) ?_
      show Wlk p.tables e below (T49.setTop (mkF m 47 #[rv a, jv q, sd, iv w3, rv r, un] [(.int (lcmpW q mi)), (.int (1 : Int32)), (.ref a)])) K
      by_cases hc50 : q < mi
      · refine Wlk.of (fun _ k => XS.ifNo X49.here hx rfl (hb hby d4_47) rfl ((if0 _ _).trans (tlt ((lw_lt _ _).mpr hc50)).2.1) k) ?_
        show Wlk p.tables e below (T49.setTop (mkF m 50 #[rv a, jv q, sd, iv w3, rv r, un] [(.int (1 : Int32)), (.ref a)])) K
        refine Wlk.of (fun _ k => XS.iconst X49.here hx rfl (hb hby d4_50) k) ?_
        show Wlk p.tables e below (T49.setTop (mkF m 51 #[rv a, jv q, sd, iv w3, rv r, un] [(.int (1 : Int32)), (.int (1 : Int32)), (.ref a)])) K
        refine Wlk.of (fun _ k => XS.goto X49.here hx rfl (pc0 := 51) (pc' := 68) rfl (hb hby d4_51) (by decide) (by decide) k) ?_
        show Wlk p.tables e below (T49.setTop (mkF m 68 #[rv a, jv q, sd, iv w3, rv r, un] [(.int (1 : Int32)), (.int (1 : Int32)), (.ref a)])) K
        have f51 : Fld Z T45.heap a "com/example/wardwise/wardwise/solver/LimitPrices" "price" "[D" (.ref pri) := (F_a_price.keep K45q (ninS ne_a_pri (ninS ne_a_lst nin0)))
        have f52 : Fld Z T45.heap a "com/example/wardwise/wardwise/solver/LimitPrices" "stepSize" "[D" (.ref stp) := (F_a_stepSize.keep K45q (ninS ne_a_pri (ninS ne_a_lst nin0)))
        have f53 : Fld Z T45.heap a "com/example/wardwise/wardwise/solver/LimitPrices" "lastSide" "[I" (.ref lst) := (F_a_lastSide.keep K45q (ninS ne_a_pri (ninS ne_a_lst nin0)))
        have f54 : Arl Z T45.heap stp .double [(.double (FP.l2d t)), (.double (FP.l2d t)), (.double (FP.l2d t)), (.double (FP.l2d t)), (.double (FP.l2d t))] := (A_stp.keep K45q (ninS (Ne.symm ne_pri_stp) (ninS ne_stp_lst nin0)))
        have f55 : Exa Z T45.heap a "com/example/wardwise/wardwise/solver/LimitPrices" := (E_a.keep K45q)
        obtain ⟨v56, T56, L56, X56, q56, st56⟩ := Ctr.priv (rmM1 l Z a0 hw a (1 : Int32) pri stp lst t ((if (0 : Int32) < (1 : Int32) then (FP.l2d t) else (0 : UInt64))) (0 : UInt64) (0 : UInt64) (0 : UInt64) zz_45 (0 : Int32) (0 : Int32) (0 : Int32) T45.heap n0 (Nat.le_trans Z0 K47.1) f51 f52 f53 p45_0 f54 p45_1 ne_a_pri ne_a_stp ne_a_lst ne_pri_stp ne_pri_lst ne_stp_lst g_pri g_lst (by decide) ht) X49 hx hZ e49 hown (wd hw 41 rfl) (wd hw 42 rfl) (wd hw 43 rfl) (wd hw 2 rfl) (wd hw 3 rfl) (wd hw 44 rfl) (by decide) f55 pd_295 (g := (mkF m 68 #[rv a, jv q, sd, iv w3, rv r, un] [(.int (1 : Int32)), (.int (1 : Int32)), (.ref a)])) rfl (by rw [hml]; rfl) (argsL := [(.int (1 : Int32)), (.int (1 : Int32))]) (rest := []) rfl rfl rfl (W := 0) (by show 2 * 0 + _ ≤ _; exact Nat.le_of_eq rfl) (by decide) (by decide) (hb hby d4_68) (by decide) (by decide)
        obtain ⟨zz_56, rfl, N56q, K56q, p56_0, p56_1⟩ := q56
        have N57 := Fr.app N46 N56q
        refine Wlk.of (fun _ k => st56 _ k) ?_
        have K58 : Keep h0 T56.heap [pri, lst] := K47.trans K56q (allS (Or.inl (List.mem_of_getElem? (i := 0) rfl)) (allS (Or.inl (List.mem_of_getElem? (i := 1) rfl)) all0))
        show Wlk p.tables e below (T56.setTop (mkF m 71 #[rv a, jv q, sd, iv w3, rv r, un] [])) K
        have f59 : Exa Z T56.heap a "com/example/wardwise/wardwise/solver/LimitPrices" := (f55.keep K56q)
        have f60 : Fld Z T56.heap a "com/example/wardwise/wardwise/solver/LimitPrices" "pricesMinutes" "Z" (.int pm) := ((F_a_pricesMinutes.keep K45q (ninS ne_a_pri (ninS ne_a_lst nin0))).keep K56q (ninS ne_a_pri (ninS ne_a_lst nin0)))
        have f61 : Fld Z T56.heap a "com/example/wardwise/wardwise/solver/LimitPrices" "minuteScale" "D" (.double sc) := ((F_a_minuteScale.keep K45q (ninS ne_a_pri (ninS ne_a_lst nin0))).keep K56q (ninS ne_a_pri (ninS ne_a_lst nin0)))
        have f62 : Fld Z T56.heap a "com/example/wardwise/wardwise/solver/LimitPrices" "maxMinutes" "J" (.long mx) := ((F_a_maxMinutes.keep K45q (ninS ne_a_pri (ninS ne_a_lst nin0))).keep K56q (ninS ne_a_pri (ninS ne_a_lst nin0)))
        have f63 : Fld Z T56.heap a "com/example/wardwise/wardwise/solver/LimitPrices" "minMinutes" "J" (.long mi) := (f48.keep K56q (ninS ne_a_pri (ninS ne_a_lst nin0)))
        have f64 : Fld Z T56.heap a "com/example/wardwise/wardwise/solver/LimitPrices" "maxWeekends" "I" (.int mw) := ((F_a_maxWeekends.keep K45q (ninS ne_a_pri (ninS ne_a_lst nin0))).keep K56q (ninS ne_a_pri (ninS ne_a_lst nin0)))
        have f65 : Fld Z T56.heap a "com/example/wardwise/wardwise/solver/LimitPrices" "limits" "[I" (.ref lim) := ((F_a_limits.keep K45q (ninS ne_a_pri (ninS ne_a_lst nin0))).keep K56q (ninS ne_a_pri (ninS ne_a_lst nin0)))
        have f66 : Fld Z T56.heap a "com/example/wardwise/wardwise/solver/LimitPrices" "price" "[D" (.ref pri) := (f51.keep K56q (ninS ne_a_pri (ninS ne_a_lst nin0)))
        have f67 : Fld Z T56.heap a "com/example/wardwise/wardwise/solver/LimitPrices" "stepSize" "[D" (.ref stp) := (f52.keep K56q (ninS ne_a_pri (ninS ne_a_lst nin0)))
        have f68 : Fld Z T56.heap a "com/example/wardwise/wardwise/solver/LimitPrices" "lastSide" "[I" (.ref lst) := (f53.keep K56q (ninS ne_a_pri (ninS ne_a_lst nin0)))
        have f69 : Arl Z T56.heap lim .int [(.int l0), (.int l1)] := ((A_lim.keep K45q (ninS ne_lim_pri (ninS ne_lim_lst nin0))).keep K56q (ninS ne_lim_pri (ninS ne_lim_lst nin0)))
        have f70 : Arl Z T56.heap r .int [(.int c0), (.int c1)] := ((A_r.keep K45q (ninS ne_r_pri (ninS ne_r_lst nin0))).keep K56q (ninS ne_r_pri (ninS ne_r_lst nin0)))
        have f71 : Arl Z T56.heap stp .double [(.double (FP.l2d t)), (.double (FP.l2d t)), (.double (FP.l2d t)), (.double (FP.l2d t)), (.double (FP.l2d t))] := (f54.keep K56q (ninS (Ne.symm ne_pri_stp) (ninS ne_stp_lst nin0)))
        exact J2 _ _ _ (if (0 : Int32) < (1 : Int32) then (FP.l2d t) else (0 : UInt64)) (if (0 : Int32) < (1 : Int32) then (FP.l2d t) else (0 : UInt64)) zz_45 zz_56 (by rw [if_neg hc42, if_pos hc44]) (by rw [if_neg hc42, if_pos hc50]) (X56.more (by decide) (by decide)) rfl N57 K58 f59 f60 f61 f62 f63 f64 f65 f66 f67 f68 f69 f70 p56_0 f71 p56_1
      · refine Wlk.of (fun _ k => XS.ifYes X49.here hx rfl (pc0 := 47) (pc' := 54) rfl (hb hby d4_47) rfl ((if0 _ _).trans (flt (fun q => hc50 ((lw_lt _ _).mp q))).2.1) (by decide) (by decide) k) ?_
        show Wlk p.tables e below (T49.setTop (mkF m 54 #[rv a, jv q, sd, iv w3, rv r, un] [(.int (1 : Int32)), (.ref a)])) K
        refine Wlk.of (fun _ k => XS.lloadN X49.here hx rfl (hb hby d4_54) rfl k) ?_
        show Wlk p.tables e below (T49.setTop (mkF m 55 #[rv a, jv q, sd, iv w3, rv r, un] [(.long q), (.int (1 : Int32)), (.ref a)])) K
        refine Wlk.of (fun _ k => XS.aloadN X49.here hx rfl (hb hby d4_55) rfl rfl k) ?_
        show Wlk p.tables e below (T49.setTop (mkF m 56 #[rv a, jv q, sd, iv w3, rv r, un] [(.ref a), (.long q), (.int (1 : Int32)), (.ref a)])) K
        obtain ⟨T72, X72, e72, st72⟩ := getF X49 hx hZ hown (host := "") (Or.inl (wd hw 16 rfl)) Via.refl e49 f48 (g := (mkF m 56 #[rv a, jv q, sd, iv w3, rv r, un] [(.ref a), (.long q), (.int (1 : Int32)), (.ref a)])) rfl rfl (hb hby d4_56)
        refine Wlk.of (fun _ k => st72 _ k) ?_
        show Wlk p.tables e below (T72.setTop (mkF m 59 #[rv a, jv q, sd, iv w3, rv r, un] [(.long mi), (.long q), (.int (1 : Int32)), (.ref a)])) K
        refine Wlk.of (fun _ k => XS.lcmp X72.here hx rfl (hb hby d4_59) rfl k) ?_
        show Wlk p.tables e below (T72.setTop (mkF m 60 #[rv a, jv q, sd, iv w3, rv r, un] [(.int (lcmpW q mi)), (.int (1 : Int32)), (.ref a)])) K
        by_cases hc73 : mi < q
        · refine Wlk.of (fun _ k => XS.ifNo X72.here hx rfl (hb hby d4_60) rfl ((if0 _ _).trans (tlt ((lw_gt _ _).mpr hc73)).2.2.2) k) ?_
          show Wlk p.tables e below (T72.setTop (mkF m 63 #[rv a, jv q, sd, iv w3, rv r, un] [(.int (1 : Int32)), (.ref a)])) K
          refine Wlk.of (fun _ k => XS.iconst X72.here hx rfl (hb hby d4_63) k) ?_
          show Wlk p.tables e below (T72.setTop (mkF m 64 #[rv a, jv q, sd, iv w3, rv r, un] [(.int (-1 : Int32)), (.int (1 : Int32)), (.ref a)])) K
          refine Wlk.of (fun _ k => XS.goto X72.here hx rfl (pc0 := 64) (pc' := 68) rfl (hb hby d4_64) (by decide) (by decide) k) ?_
          show Wlk p.tables e below (T72.setTop (mkF m 68 #[rv a, jv q, sd, iv w3, rv r, un] [(.int (-1 : Int32)), (.int (1 : Int32)), (.ref a)])) K
          have f74 : Fld Z T45.heap a "com/example/wardwise/wardwise/solver/LimitPrices" "price" "[D" (.ref pri) := (F_a_price.keep K45q (ninS ne_a_pri (ninS ne_a_lst nin0)))
          have f75 : Fld Z T45.heap a "com/example/wardwise/wardwise/solver/LimitPrices" "stepSize" "[D" (.ref stp) := (F_a_stepSize.keep K45q (ninS ne_a_pri (ninS ne_a_lst nin0)))
          have f76 : Fld Z T45.heap a "com/example/wardwise/wardwise/solver/LimitPrices" "lastSide" "[I" (.ref lst) := (F_a_lastSide.keep K45q (ninS ne_a_pri (ninS ne_a_lst nin0)))
          have f77 : Arl Z T45.heap stp .double [(.double (FP.l2d t)), (.double (FP.l2d t)), (.double (FP.l2d t)), (.double (FP.l2d t)), (.double (FP.l2d t))] := (A_stp.keep K45q (ninS (Ne.symm ne_pri_stp) (ninS ne_stp_lst nin0)))
          have f78 : Exa Z T45.heap a "com/example/wardwise/wardwise/solver/LimitPrices" := (E_a.keep K45q)
          obtain ⟨v79, T79, L79, X79, q79, st79⟩ := Ctr.priv (rmM1 l Z a0 hw a (-1 : Int32) pri stp lst t ((if (0 : Int32) < (1 : Int32) then (FP.l2d t) else (0 : UInt64))) (0 : UInt64) (0 : UInt64) (0 : UInt64) zz_45 (0 : Int32) (0 : Int32) (0 : Int32) T45.heap n0 (Nat.le_trans Z0 K47.1) f74 f75 f76 p45_0 f77 p45_1 ne_a_pri ne_a_stp ne_a_lst ne_pri_stp ne_pri_lst ne_stp_lst g_pri g_lst (by decide) ht) X72 hx hZ e72 hown (wd hw 41 rfl) (wd hw 42 rfl) (wd hw 43 rfl) (wd hw 2 rfl) (wd hw 3 rfl) (wd hw 44 rfl) (by decide) f78 pd_295 (g := (mkF m 68 #[rv a, jv q, sd, iv w3, rv r, un] [(.int (-1 : Int32)), (.int (1 : Int32)), (.ref a)])) rfl (by rw [hml]; rfl) (argsL := [(.int (1 : Int32)), (.int (-1 : Int32))]) (rest := []) rfl rfl rfl (W := 0) (by show 2 * 0 + _ ≤ _; exact Nat.le_of_eq rfl) (by decide) (by decide) (hb hby d4_68) (by decide) (by decide)
          obtain ⟨zz_79, rfl, N79q, K79q, p79_0, p79_1⟩ := q79
          have N80 := Fr.app N46 N79q
          refine Wlk.of (fun _ k => st79 _ k) ?_
          have K81 : Keep h0 T79.heap [pri, lst] := K47.trans K79q (allS (Or.inl (List.mem_of_getElem? (i := 0) rfl)) (allS (Or.inl (List.mem_of_getElem? (i := 1) rfl)) all0))
          show Wlk p.tables e below (T79.setTop (mkF m 71 #[rv a, jv q, sd, iv w3, rv r, un] [])) K
          have f82 : Exa Z T79.heap a "com/example/wardwise/wardwise/solver/LimitPrices" := (f78.keep K79q)
          have f83 : Fld Z T79.heap a "com/example/wardwise/wardwise/solver/LimitPrices" "pricesMinutes" "Z" (.int pm) := ((F_a_pricesMinutes.keep K45q (ninS ne_a_pri (ninS ne_a_lst nin0))).keep K79q (ninS ne_a_pri (ninS ne_a_lst nin0)))
          have f84 : Fld Z T79.heap a "com/example/wardwise/wardwise/solver/LimitPrices" "minuteScale" "D" (.double sc) := ((F_a_minuteScale.keep K45q (ninS ne_a_pri (ninS ne_a_lst nin0))).keep K79q (ninS ne_a_pri (ninS ne_a_lst nin0)))
          have f85 : Fld Z T79.heap a "com/example/wardwise/wardwise/solver/LimitPrices" "maxMinutes" "J" (.long mx) := ((F_a_maxMinutes.keep K45q (ninS ne_a_pri (ninS ne_a_lst nin0))).keep K79q (ninS ne_a_pri (ninS ne_a_lst nin0)))
          have f86 : Fld Z T79.heap a "com/example/wardwise/wardwise/solver/LimitPrices" "minMinutes" "J" (.long mi) := (f48.keep K79q (ninS ne_a_pri (ninS ne_a_lst nin0)))
          have f87 : Fld Z T79.heap a "com/example/wardwise/wardwise/solver/LimitPrices" "maxWeekends" "I" (.int mw) := ((F_a_maxWeekends.keep K45q (ninS ne_a_pri (ninS ne_a_lst nin0))).keep K79q (ninS ne_a_pri (ninS ne_a_lst nin0)))
          have f88 : Fld Z T79.heap a "com/example/wardwise/wardwise/solver/LimitPrices" "limits" "[I" (.ref lim) := ((F_a_limits.keep K45q (ninS ne_a_pri (ninS ne_a_lst nin0))).keep K79q (ninS ne_a_pri (ninS ne_a_lst nin0)))
          have f89 : Fld Z T79.heap a "com/example/wardwise/wardwise/solver/LimitPrices" "price" "[D" (.ref pri) := (f74.keep K79q (ninS ne_a_pri (ninS ne_a_lst nin0)))
          have f90 : Fld Z T79.heap a "com/example/wardwise/wardwise/solver/LimitPrices" "stepSize" "[D" (.ref stp) := (f75.keep K79q (ninS ne_a_pri (ninS ne_a_lst nin0)))
          have f91 : Fld Z T79.heap a "com/example/wardwise/wardwise/solver/LimitPrices" "lastSide" "[I" (.ref lst) := (f76.keep K79q (ninS ne_a_pri (ninS ne_a_lst nin0)))
          have f92 : Arl Z T79.heap lim .int [(.int l0), (.int l1)] := ((A_lim.keep K45q (ninS ne_lim_pri (ninS ne_lim_lst nin0))).keep K79q (ninS ne_lim_pri (ninS ne_lim_lst nin0)))
          have f93 : Arl Z T79.heap r .int [(.int c0), (.int c1)] := ((A_r.keep K45q (ninS ne_r_pri (ninS ne_r_lst nin0))).keep K79q (ninS ne_r_pri (ninS ne_r_lst nin0)))
          have f94 : Arl Z T79.heap stp .double [(.double (FP.l2d t)), (.double (FP.l2d t)), (.double (FP.l2d t)), (.double (FP.l2d t)), (.double (FP.l2d t))] := (f77.keep K79q (ninS (Ne.symm ne_pri_stp) (ninS ne_stp_lst nin0)))
          exact J2 _ _ _ (if (0 : Int32) < (1 : Int32) then (FP.l2d t) else (0 : UInt64)) (if (0 : Int32) < (-1 : Int32) then (FP.l2d t) else (0 : UInt64)) zz_45 zz_79 (by rw [if_neg hc42, if_pos hc44]) (by rw [if_neg hc42, if_neg hc50, if_pos hc73]) (X79.more (by decide) (by decide)) rfl N80 K81 f82 f83 f84 f85 f86 f87 f88 f89 f90 f91 f92 f93 p79_0 f94 p79_1
        · refine Wlk.of (fun _ k => XS.ifYes X72.here hx rfl (pc0 := 60) (pc' := 67) rfl (hb hby d4_60) rfl ((if0 _ _).trans (flt (fun q => hc73 ((lw_gt _ _).mp q))).2.2.2) (by decide) (by decide) k) ?_
          show Wlk p.tables e below (T72.setTop (mkF m 67 #[rv a, jv q, sd, iv w3, rv r, un] [(.int (1 : Int32)), (.ref a)])) K
          refine Wlk.of (fun _ k => XS.iconst X72.here hx rfl (hb hby d4_67) k) ?_
          show Wlk p.tables e below (T72.setTop (mkF m 68 #[rv a, jv q, sd, iv w3, rv r, un] [(.int (0 : Int32)), (.int (1 : Int32)), (.ref a)])) K
          have f95 : Fld Z T45.heap a "com/example/wardwise/wardwise/solver/LimitPrices" "price" "[D" (.ref pri) := (F_a_price.keep K45q (ninS ne_a_pri (ninS ne_a_lst nin0)))
          have f96 : Fld Z T45.heap a "com/example/wardwise/wardwise/solver/LimitPrices" "stepSize" "[D" (.ref stp) := (F_a_stepSize.keep K45q (ninS ne_a_pri (ninS ne_a_lst nin0)))
          have f97 : Fld Z T45.heap a "com/example/wardwise/wardwise/solver/LimitPrices" "lastSide" "[I" (.ref lst) := (F_a_lastSide.keep K45q (ninS ne_a_pri (ninS ne_a_lst nin0)))
          have f98 : Arl Z T45.heap stp .double [(.double (FP.l2d t)), (.double (FP.l2d t)), (.double (FP.l2d t)), (.double (FP.l2d t)), (.double (FP.l2d t))] := (A_stp.keep K45q (ninS (Ne.symm ne_pri_stp) (ninS ne_stp_lst nin0)))
          have f99 : Exa Z T45.heap a "com/example/wardwise/wardwise/solver/LimitPrices" := (E_a.keep K45q)
          obtain ⟨v100, T100, L100, X100, q100, st100⟩ := Ctr.priv (rmM1 l Z a0 hw a (0 : Int32) pri stp lst t ((if (0 : Int32) < (1 : Int32) then (FP.l2d t) else (0 : UInt64))) (0 : UInt64) (0 : UInt64) (0 : UInt64) zz_45 (0 : Int32) (0 : Int32) (0 : Int32) T45.heap n0 (Nat.le_trans Z0 K47.1) f95 f96 f97 p45_0 f98 p45_1 ne_a_pri ne_a_stp ne_a_lst ne_pri_stp ne_pri_lst ne_stp_lst g_pri g_lst (by decide) ht) X72 hx hZ e72 hown (wd hw 41 rfl) (wd hw 42 rfl) (wd hw 43 rfl) (wd hw 2 rfl) (wd hw 3 rfl) (wd hw 44 rfl) (by decide) f99 pd_295 (g := (mkF m 68 #[rv a, jv q, sd, iv w3, rv r, un] [(.int (0 : Int32)), (.int (1 : Int32)), (.ref a)])) rfl (by rw [hml]; rfl) (argsL := [(.int (1 : Int32)), (.int (0 : Int32))]) (rest := []) rfl rfl rfl (W := 0) (by show 2 * 0 + _ ≤ _; exact Nat.le_of_eq rfl) (by decide) (by decide) (hb hby d4_68) (by decide) (by decide)
          obtain ⟨zz_100, rfl, N100q, K100q, p100_0, p100_1⟩ := q100
          have N101 := Fr.app N46 N100q
          refine Wlk.of (fun _ k => st100 _ k) ?_
          have K102 : Keep h0 T100.heap [pri, lst] := K47.trans K100q (allS (Or.inl (List.mem_of_getElem? (i := 0) rfl)) (allS (Or.inl (List.mem_of_getElem? (i := 1) rfl)) all0))
          show Wlk p.tables e below (T100.setTop (mkF m 71 #[rv a, jv q, sd, iv w3, rv r, un] [])) K
          have f103 : Exa Z T100.heap a "com/example/wardwise/wardwise/solver/LimitPrices" := (f99.keep K100q)
          have f104 : Fld Z T100.heap a "com/example/wardwise/wardwise/solver/LimitPrices" "pricesMinutes" "Z" (.int pm) := ((F_a_pricesMinutes.keep K45q (ninS ne_a_pri (ninS ne_a_lst nin0))).keep K100q (ninS ne_a_pri (ninS ne_a_lst nin0)))
          have f105 : Fld Z T100.heap a "com/example/wardwise/wardwise/solver/LimitPrices" "minuteScale" "D" (.double sc) := ((F_a_minuteScale.keep K45q (ninS ne_a_pri (ninS ne_a_lst nin0))).keep K100q (ninS ne_a_pri (ninS ne_a_lst nin0)))
          have f106 : Fld Z T100.heap a "com/example/wardwise/wardwise/solver/LimitPrices" "maxMinutes" "J" (.long mx) := ((F_a_maxMinutes.keep K45q (ninS ne_a_pri (ninS ne_a_lst nin0))).keep K100q (ninS ne_a_pri (ninS ne_a_lst nin0)))
          have f107 : Fld Z T100.heap a "com/example/wardwise/wardwise/solver/LimitPrices" "minMinutes" "J" (.long mi) := (f48.keep K100q (ninS ne_a_pri (ninS ne_a_lst nin0)))
          have f108 : Fld Z T100.heap a "com/example/wardwise/wardwise/solver/LimitPrices" "maxWeekends" "I" (.int mw) := ((F_a_maxWeekends.keep K45q (ninS ne_a_pri (ninS ne_a_lst nin0))).keep K100q (ninS ne_a_pri (ninS ne_a_lst nin0)))
          have f109 : Fld Z T100.heap a "com/example/wardwise/wardwise/solver/LimitPrices" "limits" "[I" (.ref lim) := ((F_a_limits.keep K45q (ninS ne_a_pri (ninS ne_a_lst nin0))).keep K100q (ninS ne_a_pri (ninS ne_a_lst nin0)))
          have f110 : Fld Z T100.heap a "com/example/wardwise/wardwise/solver/LimitPrices" "price" "[D" (.ref pri) := (f95.keep K100q (ninS ne_a_pri (ninS ne_a_lst nin0)))
          have f111 : Fld Z T100.heap a "com/example/wardwise/wardwise/solver/LimitPrices" "stepSize" "[D" (.ref stp) := (f96.keep K100q (ninS ne_a_pri (ninS ne_a_lst nin0)))
          have f112 : Fld Z T100.heap a "com/example/wardwise/wardwise/solver/LimitPrices" "lastSide" "[I" (.ref lst) := (f97.keep K100q (ninS ne_a_pri (ninS ne_a_lst nin0)))
          have f113 : Arl Z T100.heap lim .int [(.int l0), (.int l1)] := ((A_lim.keep K45q (ninS ne_lim_pri (ninS ne_lim_lst nin0))).keep K100q (ninS ne_lim_pri (ninS ne_lim_lst nin0)))
          have f114 : Arl Z T100.heap r .int [(.int c0), (.int c1)] := ((A_r.keep K45q (ninS ne_r_pri (ninS ne_r_lst nin0))).keep K100q (ninS ne_r_pri (ninS ne_r_lst nin0)))
          have f115 : Arl Z T100.heap stp .double [(.double (FP.l2d t)), (.double (FP.l2d t)), (.double (FP.l2d t)), (.double (FP.l2d t)), (.double (FP.l2d t))] := (f98.keep K100q (ninS (Ne.symm ne_pri_stp) (ninS ne_stp_lst nin0)))
          exact J2 _ _ _ (if (0 : Int32) < (1 : Int32) then (FP.l2d t) else (0 : UInt64)) (if (0 : Int32) < (0 : Int32) then (FP.l2d t) else (0 : UInt64)) zz_45 zz_100 (by rw [if_neg hc42, if_pos hc44]) (by rw [if_neg hc42, if_neg hc50, if_neg hc73]) (X100.more (by decide) (by decide)) rfl N101 K102 f103 f104 f105 f106 f107 f108 f109 f110 f111 f112 f113 f114 p100_0 f115 p100_1
    · refine Wlk.of (fun _ k => XS.ifYes X43.here hx rfl (pc0 := 15) (pc' := 22) rfl (hb hby d4_15) rfl ((if0 _ _).trans (flt (fun q => hc44 ((lw_gt _ _).mp q))).2.2.2) (by decide) (by decide) k) ?_
      show Wlk p.tables e below (T43.setTop (mkF m 22 #[rv a, jv q, sd, iv w3, rv r, un] [(.int (0 : Int32)), (.ref a)])) K
      refine Wlk.of (fun _ k => XS.lloadN X43.here hx rfl (hb hby d4_22) rfl k) ?_
      show Wlk p.tables e below (T43.setTop (mkF m 23 #[rv a, jv q, sd, iv w3, rv r, un] [(.long q), (.int (0 : Int32)), (.ref a)])) K
      refine Wlk.of (fun _ k => XS.aloadN X43.here hx rfl (hb hby d4_23) rfl rfl k) ?_
      show Wlk p.tables e below (T43.setTop (mkF m 24 #[rv a, jv q, sd, iv w3, rv r, un] [(.ref a), (.long q), (.int (0 : Int32)), (.ref a)])) K
      obtain ⟨T116, X116, e116, st116⟩ := getF X43 hx hZ hown (host := "") (Or.inl (wd hw 14 rfl)) Via.refl e43 F_a_maxMinutes (g := (mkF m 24 #[rv a, jv q, sd, iv w3, rv r, un] [(.ref a), (.long q), (.int (0 : Int32)), (.ref a)])) rfl rfl (hb hby d4_24)
      refine Wlk.of (fun _ k => st116 _ k) ?_
      show Wlk p.tables e below (T116.setTop (mkF m 27 #[rv a, jv q, sd, iv w3, rv r, un] [(.long mx), (.long q), (.int (0 : Int32)), (.ref a)])) K
      refine Wlk.of (fun _ k => XS.lcmp X116.here hx rfl (hb hby d4_27) rfl k) ?_
      show Wlk p.tables e below (T116.setTop (mkF m 28 #[rv a, jv q, sd, iv w3, rv r, un] [(.int (lcmpW q mx)), (.int (0 : Int32)), (.ref a)])) K
      by_cases hc117 : q < mx
      · refine Wlk.of (fun _ k => XS.ifNo X116.here hx rfl (hb hby d4_28) rfl ((if0 _ _).trans (tlt ((lw_lt _ _).mpr hc117)).2.1) k) ?_
        show Wlk p.tables e below (T116.setTop (mkF m 31 #[rv a, jv q, sd, iv w3, rv r, un] [(.int (0 : Int32)), (.ref a)])) K
        refine Wlk.of (fun _ k => XS.iconst X116.here hx rfl (hb hby d4_31) k) ?_
        show Wlk p.tables e below (T116.setTop (mkF m 32 #[rv a, jv q, sd, iv w3, rv r, un] [(.int (-1 : Int32)), (.int (0 : Int32)), (.ref a)])) K
        refine Wlk.of (fun _ k => XS.goto X116.here hx rfl (pc0 := 32) (pc' := 36) rfl (hb hby d4_32) (by decide) (by decide) k) ?_
        show Wlk p.tables e below (T116.setTop (mkF m 36 #[rv a, jv q, sd, iv w3, rv r, un] [(.int (-1 : Int32)), (.int (0 : Int32)), (.ref a)])) K
        obtain ⟨v118, T118, L118, X118, q118, st118⟩ := Ctr.priv (rmM0 l Z a0 hw a (-1 : Int32) pri stp lst t (0 : UInt64) (0 : UInt64) (0 : UInt64) (0 : UInt64) (0 : Int32) (0 : Int32) (0 : Int32) (0 : Int32) h0 n0 (Nat.le_trans Z0 K0.1) F_a_price F_a_stepSize F_a_lastSide A_pri A_stp A_lst ne_a_pri ne_a_stp ne_a_lst ne_pri_stp ne_pri_lst ne_stp_lst g_pri g_lst (by decide) ht) X116 hx hZ e116 hown (wd hw 41 rfl) (wd hw 42 rfl) (wd hw 43 rfl) (wd hw 2 rfl) (wd hw 3 rfl) (wd hw 44 rfl) (by decide) E_a pd_295 (g := (mkF m 36 #[rv a, jv q, sd, iv w3, rv r, un] [(.int (-1 : Int32)), (.int (0 : Int32)), (.ref a)])) rfl (by rw [hml]; rfl) (argsL := [(.int (0 : Int32)), (.int (-1 : Int32))]) (rest := []) rfl rfl rfl (W := 0) (by show 2 * 0 + _ ≤ _; exact Nat.le_of_eq rfl) (by decide) (by decide) (hb hby d4_36) (by decide) (by decide)
        obtain ⟨zz_118, rfl, N118q, K118q, p118_0, p118_1⟩ := q118
        have N119 := Fr.app N0 N118q
        refine Wlk.of (fun _ k => st118 _ k) ?_
        have K120 : Keep h0 T118.heap [pri, lst] := K0.trans K118q (allS (Or.inl (List.mem_of_getElem? (i := 0) rfl)) (allS (Or.inl (List.mem_of_getElem? (i := 1) rfl)) all0))
        show Wlk p.tables e below (T118.setTop (mkF m 39 #[rv a, jv q, sd, iv w3, rv r, un] [])) K
        refine Wlk.of (fun _ k => XS.aloadN X118.here hx rfl (hb hby d4_39) rfl rfl k) ?_
        show Wlk p.tables e below (T118.setTop (mkF m 40 #[rv a, jv q, sd, iv w3, rv r, un] [(.ref a)])) K
        refine Wlk.of (fun _ k => XS.iconst X118.here hx rfl (hb hby d4_40) k) ?_
        show Wlk p.tables e below (T118.setTop (mkF m 41 #[rv a, jv q, sd, iv w3, rv r, un] [(.int (1 : Int32)), (.ref a)])) K
        refine Wlk.of (fun _ k => XS.lloadN X118.here hx rfl (hb hby d4_41) rfl k) ?_
        show Wlk p.tables e below (T118.setTop (mkF m 42 #[rv a, jv q, sd, iv w3, rv r, un] [(.long q), (.int (1 : Int32)), (.ref a)])) K
        refine Wlk.of (fun _ k => XS.aloadN X118.here hx rfl (hb hby d4_42) rfl rfl k) ?_
        show Wlk p.tables e below (T118.setTop (mkF m 43 #[rv a, jv q, sd, iv w3, rv r, un] [(.ref a), (.long q), (.int (1 : Int32)), (.ref a)])) K
        have f121 : Fld Z T118.heap a "com/example/wardwise/wardwise/solver/LimitPrices" "minMinutes" "J" (.long mi) := (F_a_minMinutes.keep K118q (ninS ne_a_pri (ninS ne_a_lst nin0)))
        obtain ⟨T122, X122, e122, st122⟩ := getF X118 hx hZ hown (host := "") (Or.inl (wd hw 16 rfl)) Via.refl rfl f121 (g := (mkF m 43 #[rv a, jv q, sd, iv w3, rv r, un] [(.ref a), (.long q), (.int (1 : Int32)), (.ref a)])) rfl rfl (hb hby d4_43)
        refine Wlk.of (fun _ k => st122 _ k) ?_
        show Wlk p.tables e below (T122.setTop (mkF m 46 #[rv a, jv q, sd, iv w3, rv r, un] [(.long mi), (.long q), (.int (1 : Int32)), (.ref a)])) K
        refine Wlk.of (fun _ k => XS.lcmp X122.here hx rfl (hb hby d4_46) rfl k) ?_
        show Wlk p.tables e below (T122.setTop (mkF m 47 #[rv a, jv q, sd, iv w3, rv r, un] [(.int (lcmpW q mi)), (.int (1 : Int32)), (.ref a)])) K
        by_cases hc123 : q < mi
        · refine Wlk.of (fun _ k => XS.ifNo X122.here hx rfl (hb hby d4_47) rfl ((if0 _ _).trans (tlt ((lw_lt _ _).mpr hc123)).2.1) k) ?_
          show Wlk p.tables e below (T122.setTop (mkF m 50 #[rv a, jv q, sd, iv w3, rv r, un] [(.int (1 : Int32)), (.ref a)])) K
          refine Wlk.of (fun _ k => XS.iconst X122.here hx rfl (hb hby d4_50) k) ?_
          show Wlk p.tables e below (T122.setTop (mkF m 51 #[rv a, jv q, sd, iv w3, rv r, un] [(.int (1 : Int32)), (.int (1 : Int32)), (.ref a)])) K
          refine Wlk.of (fun _ k => XS.goto X122.here hx rfl (pc0 := 51) (pc' := 68) rfl (hb hby d4_51) (by decide) (by decide) k) ?_
          show Wlk p.tables e below (T122.setTop (mkF m 68 #[rv a, jv q, sd, iv w3, rv r, un] [(.int (1 : Int32)), (.int (1 : Int32)), (.ref a)])) K
          have f124 : Fld Z T118.heap a "com/example/wardwise/wardwise/solver/LimitPrices" "price" "[D" (.ref pri) := (F_a_price.keep K118q (ninS ne_a_pri (ninS ne_a_lst nin0)))
          have f125 : Fld Z T118.heap a "com/example/wardwise/wardwise/solver/LimitPrices" "stepSize" "[D" (.ref stp) := (F_a_stepSize.keep K118q (ninS ne_a_pri (ninS ne_a_lst nin0)))
          have f126 : Fld Z T118.heap a "com/example/wardwise/wardwise/solver/LimitPrices" "lastSide" "[I" (.ref lst) := (F_a_lastSide.keep K118q (ninS ne_a_pri (ninS ne_a_lst nin0)))
          have f127 : Arl Z T118.heap stp .double [(.double (FP.l2d t)), (.double (FP.l2d t)), (.double (FP.l2d t)), (.double (FP.l2d t)), (.double (FP.l2d t))] := (A_stp.keep K118q (ninS (Ne.symm ne_pri_stp) (ninS ne_stp_lst nin0)))
          have f128 : Exa Z T118.heap a "com/example/wardwise/wardwise/solver/LimitPrices" := (E_a.keep K118q)
          obtain ⟨v129, T129, L129, X129, q129, st129⟩ := Ctr.priv (rmM1 l Z a0 hw a (1 : Int32) pri stp lst t ((if (0 : Int32) < (-1 : Int32) then (FP.l2d t) else (0 : UInt64))) (0 : UInt64) (0 : UInt64) (0 : UInt64) zz_118 (0 : Int32) (0 : Int32) (0 : Int32) T118.heap n0 (Nat.le_trans Z0 K120.1) f124 f125 f126 p118_0 f127 p118_1 ne_a_pri ne_a_stp ne_a_lst ne_pri_stp ne_pri_lst ne_stp_lst g_pri g_lst (by decide) ht) X122 hx hZ e122 hown (wd hw 41 rfl) (wd hw 42 rfl) (wd hw 43 rfl) (wd hw 2 rfl) (wd hw 3 rfl) (wd hw 44 rfl) (by decide) f128 pd_295 (g := (mkF m 68 #[rv a, jv q, sd, iv w3, rv r, un] [(.int (1 : Int32)), (.int (1 : Int32)), (.ref a)])) rfl (by rw [hml]; rfl) (argsL := [(.int (1 : Int32)), (.int (1 : Int32))]) (rest := []) rfl rfl rfl (W := 0) (by show 2 * 0 + _ ≤ _; exact Nat.le_of_eq rfl) (by decide) (by decide) (hb hby d4_68) (by decide) (by decide)
          obtain ⟨zz_129, rfl, N129q, K129q, p129_0, p129_1⟩ := q129
          have N130 := Fr.app N119 N129q
          refine Wlk.of (fun _ k => st129 _ k) ?_
          have K131 : Keep h0 T129.heap [pri, lst] := K120.trans K129q (allS (Or.inl (List.mem_of_getElem? (i := 0) rfl)) (allS (Or.inl (List.mem_of_getElem? (i := 1) rfl)) all0))
          show Wlk p.tables e below (T129.setTop (mkF m 71 #[rv a, jv q, sd, iv w3, rv r, un] [])) K
          have f132 : Exa Z T129.heap a "com/example/wardwise/wardwise/solver/LimitPrices" := (f128.keep K129q)
          have f133 : Fld Z T129.heap a "com/example/wardwise/wardwise/solver/LimitPrices" "pricesMinutes" "Z" (.int pm) := ((F_a_pricesMinutes.keep K118q (ninS ne_a_pri (ninS ne_a_lst nin0))).keep K129q (ninS ne_a_pri (ninS ne_a_lst nin0)))
          have f134 : Fld Z T129.heap a "com/example/wardwise/wardwise/solver/LimitPrices" "minuteScale" "D" (.double sc) := ((F_a_minuteScale.keep K118q (ninS ne_a_pri (ninS ne_a_lst nin0))).keep K129q (ninS ne_a_pri (ninS ne_a_lst nin0)))
          have f135 : Fld Z T129.heap a "com/example/wardwise/wardwise/solver/LimitPrices" "maxMinutes" "J" (.long mx) := ((F_a_maxMinutes.keep K118q (ninS ne_a_pri (ninS ne_a_lst nin0))).keep K129q (ninS ne_a_pri (ninS ne_a_lst nin0)))
          have f136 : Fld Z T129.heap a "com/example/wardwise/wardwise/solver/LimitPrices" "minMinutes" "J" (.long mi) := (f121.keep K129q (ninS ne_a_pri (ninS ne_a_lst nin0)))
          have f137 : Fld Z T129.heap a "com/example/wardwise/wardwise/solver/LimitPrices" "maxWeekends" "I" (.int mw) := ((F_a_maxWeekends.keep K118q (ninS ne_a_pri (ninS ne_a_lst nin0))).keep K129q (ninS ne_a_pri (ninS ne_a_lst nin0)))
          have f138 : Fld Z T129.heap a "com/example/wardwise/wardwise/solver/LimitPrices" "limits" "[I" (.ref lim) := ((F_a_limits.keep K118q (ninS ne_a_pri (ninS ne_a_lst nin0))).keep K129q (ninS ne_a_pri (ninS ne_a_lst nin0)))
          have f139 : Fld Z T129.heap a "com/example/wardwise/wardwise/solver/LimitPrices" "price" "[D" (.ref pri) := (f124.keep K129q (ninS ne_a_pri (ninS ne_a_lst nin0)))
          have f140 : Fld Z T129.heap a "com/example/wardwise/wardwise/solver/LimitPrices" "stepSize" "[D" (.ref stp) := (f125.keep K129q (ninS ne_a_pri (ninS ne_a_lst nin0)))
          have f141 : Fld Z T129.heap a "com/example/wardwise/wardwise/solver/LimitPrices" "lastSide" "[I" (.ref lst) := (f126.keep K129q (ninS ne_a_pri (ninS ne_a_lst nin0)))
          have f142 : Arl Z T129.heap lim .int [(.int l0), (.int l1)] := ((A_lim.keep K118q (ninS ne_lim_pri (ninS ne_lim_lst nin0))).keep K129q (ninS ne_lim_pri (ninS ne_lim_lst nin0)))
          have f143 : Arl Z T129.heap r .int [(.int c0), (.int c1)] := ((A_r.keep K118q (ninS ne_r_pri (ninS ne_r_lst nin0))).keep K129q (ninS ne_r_pri (ninS ne_r_lst nin0)))
          have f144 : Arl Z T129.heap stp .double [(.double (FP.l2d t)), (.double (FP.l2d t)), (.double (FP.l2d t)), (.double (FP.l2d t)), (.double (FP.l2d t))] := (f127.keep K129q (ninS (Ne.symm ne_pri_stp) (ninS ne_stp_lst nin0)))
          exact J2 _ _ _ (if (0 : Int32) < (-1 : Int32) then (FP.l2d t) else (0 : UInt64)) (if (0 : Int32) < (1 : Int32) then (FP.l2d t) else (0 : UInt64)) zz_118 zz_129 (by rw [if_neg hc42, if_neg hc44, if_pos hc117]) (by rw [if_neg hc42, if_pos hc123]) (X129.more (by decide) (by decide)) rfl N130 K131 f132 f133 f134 f135 f136 f137 f138 f139 f140 f141 f142 f143 p129_0 f144 p129_1
        · refine Wlk.of (fun _ k => XS.ifYes X122.here hx rfl (pc0 := 47) (pc' := 54) rfl (hb hby d4_47) rfl ((if0 _ _).trans (flt (fun q => hc123 ((lw_lt _ _).mp q))).2.1) (by decide) (by decide) k) ?_
          show Wlk p.tables e below (T122.setTop (mkF m 54 #[rv a, jv q, sd, iv w3, rv r, un] [(.int (1 : Int32)), (.ref a)])) K
          refine Wlk.of (fun _ k => XS.lloadN X122.here hx rfl (hb hby d4_54) rfl k) ?_
          show Wlk p.tables e below (T122.setTop (mkF m 55 #[rv a, jv q, sd, iv w3, rv r, un] [(.long q), (.int (1 : Int32)), (.ref a)])) K
          refine Wlk.of (fun _ k => XS.aloadN X122.here hx rfl (hb hby d4_55) rfl rfl k) ?_
          show Wlk p.tables e below (T122.setTop (mkF m 56 #[rv a, jv q, sd, iv w3, rv r, un] [(.ref a), (.long q), (.int (1 : Int32)), (.ref a)])) K
          obtain ⟨T145, X145, e145, st145⟩ := getF X122 hx hZ hown (host := "") (Or.inl (wd hw 16 rfl)) Via.refl e122 f121 (g := (mkF m 56 #[rv a, jv q, sd, iv w3, rv r, un] [(.ref a), (.long q), (.int (1 : Int32)), (.ref a)])) rfl rfl (hb hby d4_56)
          refine Wlk.of (fun _ k => st145 _ k) ?_
          show Wlk p.tables e below (T145.setTop (mkF m 59 #[rv a, jv q, sd, iv w3, rv r, un] [(.long mi), (.long q), (.int (1 : Int32)), (.ref a)])) K
          refine Wlk.of (fun _ k => XS.lcmp X145.here hx rfl (hb hby d4_59) rfl k) ?_
          show Wlk p.tables e below (T145.setTop (mkF m 60 #[rv a, jv q, sd, iv w3, rv r, un] [(.int (lcmpW q mi)), (.int (1 : Int32)), (.ref a)])) K
          by_cases hc146 : mi < q
          · refine Wlk.of (fun _ k => XS.ifNo X145.here hx rfl (hb hby d4_60) rfl ((if0 _ _).trans (tlt ((lw_gt _ _).mpr hc146)).2.2.2) k) ?_
            show Wlk p.tables e below (T145.setTop (mkF m 63 #[rv a, jv q, sd, iv w3, rv r, un] [(.int (1 : Int32)), (.ref a)])) K
            refine Wlk.of (fun _ k => XS.iconst X145.here hx rfl (hb hby d4_63) k) ?_
            show Wlk p.tables e below (T145.setTop (mkF m 64 #[rv a, jv q, sd, iv w3, rv r, un] [(.int (-1 : Int32)), (.int (1 : Int32)), (.ref a)])) K
            refine Wlk.of (fun _ k => XS.goto X145.here hx rfl (pc0 := 64) (pc' := 68) rfl (hb hby d4_64) (by decide) (by decide) k) ?_
            show Wlk p.tables e below (T145.setTop (mkF m 68 #[rv a, jv q, sd, iv w3, rv r, un] [(.int (-1 : Int32)), (.int (1 : Int32)), (.ref a)])) K
            have f147 : Fld Z T118.heap a "com/example/wardwise/wardwise/solver/LimitPrices" "price" "[D" (.ref pri) := (F_a_price.keep K118q (ninS ne_a_pri (ninS ne_a_lst nin0)))
            have f148 : Fld Z T118.heap a "com/example/wardwise/wardwise/solver/LimitPrices" "stepSize" "[D" (.ref stp) := (F_a_stepSize.keep K118q (ninS ne_a_pri (ninS ne_a_lst nin0)))
            have f149 : Fld Z T118.heap a "com/example/wardwise/wardwise/solver/LimitPrices" "lastSide" "[I" (.ref lst) := (F_a_lastSide.keep K118q (ninS ne_a_pri (ninS ne_a_lst nin0)))
            have f150 : Arl Z T118.heap stp .double [(.double (FP.l2d t)), (.double (FP.l2d t)), (.double (FP.l2d t)), (.double (FP.l2d t)), (.double (FP.l2d t))] := (A_stp.keep K118q (ninS (Ne.symm ne_pri_stp) (ninS ne_stp_lst nin0)))
            have f151 : Exa Z T118.heap a "com/example/wardwise/wardwise/solver/LimitPrices" := (E_a.keep K118q)
            obtain ⟨v152, T152, L152, X152, q152, st152⟩ := Ctr.priv (rmM1 l Z a0 hw a (-1 : Int32) pri stp lst t ((if (0 : Int32) < (-1 : Int32) then (FP.l2d t) else (0 : UInt64))) (0 : UInt64) (0 : UInt64) (0 : UInt64) zz_118 (0 : Int32) (0 : Int32) (0 : Int32) T118.heap n0 (Nat.le_trans Z0 K120.1) f147 f148 f149 p118_0 f150 p118_1 ne_a_pri ne_a_stp ne_a_lst ne_pri_stp ne_pri_lst ne_stp_lst g_pri g_lst (by decide) ht) X145 hx hZ e145 hown (wd hw 41 rfl) (wd hw 42 rfl) (wd hw 43 rfl) (wd hw 2 rfl) (wd hw 3 rfl) (wd hw 44 rfl) (by decide) f151 pd_295 (g := (mkF m 68 #[rv a, jv q, sd, iv w3, rv r, un] [(.int (-1 : Int32)), (.int (1 : Int32)), (.ref a)])) rfl (by rw [hml]; rfl) (argsL := [(.int (1 : Int32)), (.int (-1 : Int32))]) (rest := []) rfl rfl rfl (W := 0) (by show 2 * 0 + _ ≤ _; exact Nat.le_of_eq rfl) (by decide) (by decide) (hb hby d4_68) (by decide) (by decide)
            obtain ⟨zz_152, rfl, N152q, K152q, p152_0, p152_1⟩ := q152
            have N153 := Fr.app N119 N152q
            refine Wlk.of (fun _ k => st152 _ k) ?_
            have K154 : Keep h0 T152.heap [pri, lst] := K120.trans K152q (allS (Or.inl (List.mem_of_getElem? (i := 0) rfl)) (allS (Or.inl (List.mem_of_getElem? (i := 1) rfl)) all0))
            show Wlk p.tables e below (T152.setTop (mkF m 71 #[rv a, jv q, sd, iv w3, rv r, un] [])) K
            have f155 : Exa Z T152.heap a "com/example/wardwise/wardwise/solver/LimitPrices" := (f151.keep K152q)
            have f156 : Fld Z T152.heap a "com/example/wardwise/wardwise/solver/LimitPrices" "pricesMinutes" "Z" (.int pm) := ((F_a_pricesMinutes.keep K118q (ninS ne_a_pri (ninS ne_a_lst nin0))).keep K152q (ninS ne_a_pri (ninS ne_a_lst nin0)))
            have f157 : Fld Z T152.heap a "com/example/wardwise/wardwise/solver/LimitPrices" "minuteScale" "D" (.double sc) := ((F_a_minuteScale.keep K118q (ninS ne_a_pri (ninS ne_a_lst nin0))).keep K152q (ninS ne_a_pri (ninS ne_a_lst nin0)))
            have f158 : Fld Z T152.heap a "com/example/wardwise/wardwise/solver/LimitPrices" "maxMinutes" "J" (.long mx) := ((F_a_maxMinutes.keep K118q (ninS ne_a_pri (ninS ne_a_lst nin0))).keep K152q (ninS ne_a_pri (ninS ne_a_lst nin0)))
            have f159 : Fld Z T152.heap a "com/example/wardwise/wardwise/solver/LimitPrices" "minMinutes" "J" (.long mi) := (f121.keep K152q (ninS ne_a_pri (ninS ne_a_lst nin0)))
            have f160 : Fld Z T152.heap a "com/example/wardwise/wardwise/solver/LimitPrices" "maxWeekends" "I" (.int mw) := ((F_a_maxWeekends.keep K118q (ninS ne_a_pri (ninS ne_a_lst nin0))).keep K152q (ninS ne_a_pri (ninS ne_a_lst nin0)))
            have f161 : Fld Z T152.heap a "com/example/wardwise/wardwise/solver/LimitPrices" "limits" "[I" (.ref lim) := ((F_a_limits.keep K118q (ninS ne_a_pri (ninS ne_a_lst nin0))).keep K152q (ninS ne_a_pri (ninS ne_a_lst nin0)))
            have f162 : Fld Z T152.heap a "com/example/wardwise/wardwise/solver/LimitPrices" "price" "[D" (.ref pri) := (f147.keep K152q (ninS ne_a_pri (ninS ne_a_lst nin0)))
            have f163 : Fld Z T152.heap a "com/example/wardwise/wardwise/solver/LimitPrices" "stepSize" "[D" (.ref stp) := (f148.keep K152q (ninS ne_a_pri (ninS ne_a_lst nin0)))
            have f164 : Fld Z T152.heap a "com/example/wardwise/wardwise/solver/LimitPrices" "lastSide" "[I" (.ref lst) := (f149.keep K152q (ninS ne_a_pri (ninS ne_a_lst nin0)))
            have f165 : Arl Z T152.heap lim .int [(.int l0), (.int l1)] := ((A_lim.keep K118q (ninS ne_lim_pri (ninS ne_lim_lst nin0))).keep K152q (ninS ne_lim_pri (ninS ne_lim_lst nin0)))
            have f166 : Arl Z T152.heap r .int [(.int c0), (.int c1)] := ((A_r.keep K118q (ninS ne_r_pri (ninS ne_r_lst nin0))).keep K152q (ninS ne_r_pri (ninS ne_r_lst nin0)))
            have f167 : Arl Z T152.heap stp .double [(.double (FP.l2d t)), (.double (FP.l2d t)), (.double (FP.l2d t)), (.double (FP.l2d t)), (.double (FP.l2d t))] := (f150.keep K152q (ninS (Ne.symm ne_pri_stp) (ninS ne_stp_lst nin0)))
            exact J2 _ _ _ (if (0 : Int32) < (-1 : Int32) then (FP.l2d t) else (0 : UInt64)) (if (0 : Int32) < (-1 : Int32) then (FP.l2d t) else (0 : UInt64)) zz_118 zz_152 (by rw [if_neg hc42, if_neg hc44, if_pos hc117]) (by rw [if_neg hc42, if_neg hc123, if_pos hc146]) (X152.more (by decide) (by decide)) rfl N153 K154 f155 f156 f157 f158 f159 f160 f161 f162 f163 f164 f165 f166 p152_0 f167 p152_1
          · refine Wlk.of (fun _ k => XS.ifYes X145.here hx rfl (pc0 := 60) (pc' := 67) rfl (hb hby d4_60) rfl ((if0 _ _).trans (flt (fun q => hc146 ((lw_gt _ _).mp q))).2.2.2) (by decide) (by decide) k) ?_
            show Wlk p.tables e below (T145.setTop (mkF m 67 #[rv a, jv q, sd, iv w3, rv r, un] [(.int (1 : Int32)), (.ref a)])) K
            refine Wlk.of (fun _ k => XS.iconst X145.here hx rfl (hb hby d4_67) k) ?_
            show Wlk p.tables e below (T145.setTop (mkF m 68 #[rv a, jv q, sd, iv w3, rv r, un] [(.int (0 : Int32)), (.int (1 : Int32)), (.ref a)])) K
            have f168 : Fld Z T118.heap a "com/example/wardwise/wardwise/solver/LimitPrices" "price" "[D" (.ref pri) := (F_a_price.keep K118q (ninS ne_a_pri (ninS ne_a_lst nin0)))
            have f169 : Fld Z T118.heap a "com/example/wardwise/wardwise/solver/LimitPrices" "stepSize" "[D" (.ref stp) := (F_a_stepSize.keep K118q (ninS ne_a_pri (ninS ne_a_lst nin0)))
            have f170 : Fld Z T118.heap a "com/example/wardwise/wardwise/solver/LimitPrices" "lastSide" "[I" (.ref lst) := (F_a_lastSide.keep K118q (ninS ne_a_pri (ninS ne_a_lst nin0)))
            have f171 : Arl Z T118.heap stp .double [(.double (FP.l2d t)), (.double (FP.l2d t)), (.double (FP.l2d t)), (.double (FP.l2d t)), (.double (FP.l2d t))] := (A_stp.keep K118q (ninS (Ne.symm ne_pri_stp) (ninS ne_stp_lst nin0)))
            have f172 : Exa Z T118.heap a "com/example/wardwise/wardwise/solver/LimitPrices" := (E_a.keep K118q)
            obtain ⟨v173, T173, L173, X173, q173, st173⟩ := Ctr.priv (rmM1 l Z a0 hw a (0 : Int32) pri stp lst t ((if (0 : Int32) < (-1 : Int32) then (FP.l2d t) else (0 : UInt64))) (0 : UInt64) (0 : UInt64) (0 : UInt64) zz_118 (0 : Int32) (0 : Int32) (0 : Int32) T118.heap n0 (Nat.le_trans Z0 K120.1) f168 f169 f170 p118_0 f171 p118_1 ne_a_pri ne_a_stp ne_a_lst ne_pri_stp ne_pri_lst ne_stp_lst g_pri g_lst (by decide) ht) X145 hx hZ e145 hown (wd hw 41 rfl) (wd hw 42 rfl) (wd hw 43 rfl) (wd hw 2 rfl) (wd hw 3 rfl) (wd hw 44 rfl) (by decide) f172 pd_295 (g := (mkF m 68 #[rv a, jv q, sd, iv w3, rv r, un] [(.int (0 : Int32)), (.int (1 : Int32)), (.ref a)])) rfl (by rw [hml]; rfl) (argsL := [(.int (1 : Int32)), (.int (0 : Int32))]) (rest := []) rfl rfl rfl (W := 0) (by show 2 * 0 + _ ≤ _; exact Nat.le_of_eq rfl) (by decide) (by decide) (hb hby d4_68) (by decide) (by decide)
            obtain ⟨zz_173, rfl, N173q, K173q, p173_0, p173_1⟩ := q173
            have N174 := Fr.app N119 N173q
            refine Wlk.of (fun _ k => st173 _ k) ?_
            have K175 : Keep h0 T173.heap [pri, lst] := K120.trans K173q (allS (Or.inl (List.mem_of_getElem? (i := 0) rfl)) (allS (Or.inl (List.mem_of_getElem? (i := 1) rfl)) all0))
            show Wlk p.tables e below (T173.setTop (mkF m 71 #[rv a, jv q, sd, iv w3, rv r, un] [])) K
            have f176 : Exa Z T173.heap a "com/example/wardwise/wardwise/solver/LimitPrices" := (f172.keep K173q)
            have f177 : Fld Z T173.heap a "com/example/wardwise/wardwise/solver/LimitPrices" "pricesMinutes" "Z" (.int pm) := ((F_a_pricesMinutes.keep K118q (ninS ne_a_pri (ninS ne_a_lst nin0))).keep K173q (ninS ne_a_pri (ninS ne_a_lst nin0)))
            have f178 : Fld Z T173.heap a "com/example/wardwise/wardwise/solver/LimitPrices" "minuteScale" "D" (.double sc) := ((F_a_minuteScale.keep K118q (ninS ne_a_pri (ninS ne_a_lst nin0))).keep K173q (ninS ne_a_pri (ninS ne_a_lst nin0)))
            have f179 : Fld Z T173.heap a "com/example/wardwise/wardwise/solver/LimitPrices" "maxMinutes" "J" (.long mx) := ((F_a_maxMinutes.keep K118q (ninS ne_a_pri (ninS ne_a_lst nin0))).keep K173q (ninS ne_a_pri (ninS ne_a_lst nin0)))
            have f180 : Fld Z T173.heap a "com/example/wardwise/wardwise/solver/LimitPrices" "minMinutes" "J" (.long mi) := (f121.keep K173q (ninS ne_a_pri (ninS ne_a_lst nin0)))
            have f181 : Fld Z T173.heap a "com/example/wardwise/wardwise/solver/LimitPrices" "maxWeekends" "I" (.int mw) := ((F_a_maxWeekends.keep K118q (ninS ne_a_pri (ninS ne_a_lst nin0))).keep K173q (ninS ne_a_pri (ninS ne_a_lst nin0)))
            have f182 : Fld Z T173.heap a "com/example/wardwise/wardwise/solver/LimitPrices" "limits" "[I" (.ref lim) := ((F_a_limits.keep K118q (ninS ne_a_pri (ninS ne_a_lst nin0))).keep K173q (ninS ne_a_pri (ninS ne_a_lst nin0)))
            have f183 : Fld Z T173.heap a "com/example/wardwise/wardwise/solver/LimitPrices" "price" "[D" (.ref pri) := (f168.keep K173q (ninS ne_a_pri (ninS ne_a_lst nin0)))
            have f184 : Fld Z T173.heap a "com/example/wardwise/wardwise/solver/LimitPrices" "stepSize" "[D" (.ref stp) := (f169.keep K173q (ninS ne_a_pri (ninS ne_a_lst nin0)))
            have f185 : Fld Z T173.heap a "com/example/wardwise/wardwise/solver/LimitPrices" "lastSide" "[I" (.ref lst) := (f170.keep K173q (ninS ne_a_pri (ninS ne_a_lst nin0)))
            have f186 : Arl Z T173.heap lim .int [(.int l0), (.int l1)] := ((A_lim.keep K118q (ninS ne_lim_pri (ninS ne_lim_lst nin0))).keep K173q (ninS ne_lim_pri (ninS ne_lim_lst nin0)))
            have f187 : Arl Z T173.heap r .int [(.int c0), (.int c1)] := ((A_r.keep K118q (ninS ne_r_pri (ninS ne_r_lst nin0))).keep K173q (ninS ne_r_pri (ninS ne_r_lst nin0)))
            have f188 : Arl Z T173.heap stp .double [(.double (FP.l2d t)), (.double (FP.l2d t)), (.double (FP.l2d t)), (.double (FP.l2d t)), (.double (FP.l2d t))] := (f171.keep K173q (ninS (Ne.symm ne_pri_stp) (ninS ne_stp_lst nin0)))
            exact J2 _ _ _ (if (0 : Int32) < (-1 : Int32) then (FP.l2d t) else (0 : UInt64)) (if (0 : Int32) < (0 : Int32) then (FP.l2d t) else (0 : UInt64)) zz_118 zz_173 (by rw [if_neg hc42, if_neg hc44, if_pos hc117]) (by rw [if_neg hc42, if_neg hc123, if_neg hc146]) (X173.more (by decide) (by decide)) rfl N174 K175 f176 f177 f178 f179 f180 f181 f182 f183 f184 f185 f186 f187 p173_0 f188 p173_1
      · refine Wlk.of (fun _ k => XS.ifYes X116.here hx rfl (pc0 := 28) (pc' := 35) rfl (hb hby d4_28) rfl ((if0 _ _).trans (flt (fun q => hc117 ((lw_lt _ _).mp q))).2.1) (by decide) (by decide) k) ?_
        show Wlk p.tables e below (T116.setTop (mkF m 35 #[rv a, jv q, sd, iv w3, rv r, un] [(.int (0 : Int32)), (.ref a)])) K
        refine Wlk.of (fun _ k => XS.iconst X116.here hx rfl (hb hby d4_35) k) ?_
        show Wlk p.tables e below (T116.setTop (mkF m 36 #[rv a, jv q, sd, iv w3, rv r, un] [(.int (0 : Int32)), (.int (0 : Int32)), (.ref a)])) K
        obtain ⟨v189, T189, L189, X189, q189, st189⟩ := Ctr.priv (rmM0 l Z a0 hw a (0 : Int32) pri stp lst t (0 : UInt64) (0 : UInt64) (0 : UInt64) (0 : UInt64) (0 : Int32) (0 : Int32) (0 : Int32) (0 : Int32) h0 n0 (Nat.le_trans Z0 K0.1) F_a_price F_a_stepSize F_a_lastSide A_pri A_stp A_lst ne_a_pri ne_a_stp ne_a_lst ne_pri_stp ne_pri_lst ne_stp_lst g_pri g_lst (by decide) ht) X116 hx hZ e116 hown (wd hw 41 rfl) (wd hw 42 rfl) (wd hw 43 rfl) (wd hw 2 rfl) (wd hw 3 rfl) (wd hw 44 rfl) (by decide) E_a pd_295 (g := (mkF m 36 #[rv a, jv q, sd, iv w3, rv r, un] [(.int (0 : Int32)), (.int (0 : Int32)), (.ref a)])) rfl (by rw [hml]; rfl) (argsL := [(.int (0 : Int32)), (.int (0 : Int32))]) (rest := []) rfl rfl rfl (W := 0) (by show 2 * 0 + _ ≤ _; exact Nat.le_of_eq rfl) (by decide) (by decide) (hb hby d4_36) (by decide) (by decide)
        obtain ⟨zz_189, rfl, N189q, K189q, p189_0, p189_1⟩ := q189
        have N190 := Fr.app N0 N189q
        refine Wlk.of (fun _ k => st189 _ k) ?_
        have K191 : Keep h0 T189.heap [pri, lst] := K0.trans K189q (allS (Or.inl (List.mem_of_getElem? (i := 0) rfl)) (allS (Or.inl (List.mem_of_getElem? (i := 1) rfl)) all0))
        show Wlk p.tables e below (T189.setTop (mkF m 39 #[rv a, jv q, sd, iv w3, rv r, un] [])) K
        refine Wlk.of (fun _ k => XS.aloadN X189.here hx rfl (hb hby d4_39) rfl rfl k) ?_
        show Wlk p.tables e below (T189.setTop (mkF m 40 #[rv a, jv q, sd, iv w3, rv r, un] [(.ref a)])) K
        refine Wlk.of (fun _ k => XS.iconst X189.here hx rfl (hb hby d4_40) k) ?_
        show Wlk p.tables e below (T189.setTop (mkF m 41 #[rv a, jv q, sd, iv w3, rv r, un] [(.int (1 : Int32)), (.ref a)])) K
        refine Wlk.of (fun _ k => XS.lloadN X189.here hx rfl (hb hby d4_41) rfl k) ?_
        show Wlk p.tables e below (T189.setTop (mkF m 42 #[rv a, jv q, sd, iv w3, rv r, un] [(.long q), (.int (1 : Int32)), (.ref a)])) K
        refine Wlk.of (fun _ k => XS.aloadN X189.here hx rfl (hb hby d4_42) rfl rfl k) ?_
        show Wlk p.tables e below (T189.setTop (mkF m 43 #[rv a, jv q, sd, iv w3, rv r, un] [(.ref a), (.long q), (.int (1 : Int32)), (.ref a)])) K
        have f192 : Fld Z T189.heap a "com/example/wardwise/wardwise/solver/LimitPrices" "minMinutes" "J" (.long mi) := (F_a_minMinutes.keep K189q (ninS ne_a_pri (ninS ne_a_lst nin0)))
        obtain ⟨T193, X193, e193, st193⟩ := getF X189 hx hZ hown (host := "") (Or.inl (wd hw 16 rfl)) Via.refl rfl f192 (g := (mkF m 43 #[rv a, jv q, sd, iv w3, rv r, un] [(.ref a), (.long q), (.int (1 : Int32)), (.ref a)])) rfl rfl (hb hby d4_43)
        refine Wlk.of (fun _ k => st193 _ k) ?_
        show Wlk p.tables e below (T193.setTop (mkF m 46 #[rv a, jv q, sd, iv w3, rv r, un] [(.long mi), (.long q), (.int (1 : Int32)), (.ref a)])) K
        refine Wlk.of (fun _ k => XS.lcmp X193.here hx rfl (hb hby d4_46) rfl k) ?_
        show Wlk p.tables e below (T193.setTop (mkF m 47 #[rv a, jv q, sd, iv w3, rv r, un] [(.int (lcmpW q mi)), (.int (1 : Int32)), (.ref a)])) K
        by_cases hc194 : q < mi
        · refine Wlk.of (fun _ k => XS.ifNo X193.here hx rfl (hb hby d4_47) rfl ((if0 _ _).trans (tlt ((lw_lt _ _).mpr hc194)).2.1) k) ?_
          show Wlk p.tables e below (T193.setTop (mkF m 50 #[rv a, jv q, sd, iv w3, rv r, un] [(.int (1 : Int32)), (.ref a)])) K
          refine Wlk.of (fun _ k => XS.iconst X193.here hx rfl (hb hby d4_50) k) ?_
          show Wlk p.tables e below (T193.setTop (mkF m 51 #[rv a, jv q, sd, iv w3, rv r, un] [(.int (1 : Int32)), (.int (1 : Int32)), (.ref a)])) K
          refine Wlk.of (fun _ k => XS.goto X193.here hx rfl (pc0 := 51) (pc' := 68) rfl (hb hby d4_51) (by decide) (by decide) k) ?_
          show Wlk p.tables e below (T193.setTop (mkF m 68 #[rv a, jv q, sd, iv w3, rv r, un] [(.int (1 : Int32)), (.int (1 : Int32)), (.ref a)])) K
          have f195 : Fld Z T189.heap a "com/example/wardwise/wardwise/solver/LimitPrices" "price" "[D" (.ref pri) := (F_a_price.keep K189q (ninS ne_a_pri (ninS ne_a_lst nin0)))
          have f196 : Fld Z T189.heap a "com/example/wardwise/wardwise/solver/LimitPrices" "stepSize" "[D" (.ref stp) := (F_a_stepSize.keep K189q (ninS ne_a_pri (ninS ne_a_lst nin0)))
          have f197 : Fld Z T189.heap a "com/example/wardwise/wardwise/solver/LimitPrices" "lastSide" "[I" (.ref lst) := (F_a_lastSide.keep K189q (ninS ne_a_pri (ninS ne_a_lst nin0)))
          have f198 : Arl Z T189.heap stp .double [(.double (FP.l2d t)), (.double (FP.l2d t)), (.double (FP.l2d t)), (.double (FP.l2d t)), (.double (FP.l2d t))] := (A_stp.keep K189q (ninS (Ne.symm ne_pri_stp) (ninS ne_stp_lst nin0)))
          have f199 : Exa Z T189.heap a "com/example/wardwise/wardwise/solver/LimitPrices" := (E_a.keep K189q)
          obtain ⟨v200, T200, L200, X200, q200, st200⟩ := Ctr.priv (rmM1 l Z a0 hw a (1 : Int32) pri stp lst t ((if (0 : Int32) < (0 : Int32) then (FP.l2d t) else (0 : UInt64))) (0 : UInt64) (0 : UInt64) (0 : UInt64) zz_189 (0 : Int32) (0 : Int32) (0 : Int32) T189.heap n0 (Nat.le_trans Z0 K191.1) f195 f196 f197 p189_0 f198 p189_1 ne_a_pri ne_a_stp ne_a_lst ne_pri_stp ne_pri_lst ne_stp_lst g_pri g_lst (by decide) ht) X193 hx hZ e193 hown (wd hw 41 rfl) (wd hw 42 rfl) (wd hw 43 rfl) (wd hw 2 rfl) (wd hw 3 rfl) (wd hw 44 rfl) (by decide) f199 pd_295 (g := (mkF m 68 #[rv a, jv q, sd, iv w3, rv r, un] [(.int (1 : Int32)), (.int (1 : Int32)), (.ref a)])) rfl (by rw [hml]; rfl) (argsL := [(.int (1 : Int32)), (.int (1 : Int32))]) (rest := []) rfl rfl rfl (W := 0) (by show 2 * 0 + _ ≤ _; exact Nat.le_of_eq rfl) (by decide) (by decide) (hb hby d4_68) (by decide) (by decide)
          obtain ⟨zz_200, rfl, N200q, K200q, p200_0, p200_1⟩ := q200
          have N201 := Fr.app N190 N200q
          refine Wlk.of (fun _ k => st200 _ k) ?_
          have K202 : Keep h0 T200.heap [pri, lst] := K191.trans K200q (allS (Or.inl (List.mem_of_getElem? (i := 0) rfl)) (allS (Or.inl (List.mem_of_getElem? (i := 1) rfl)) all0))
          show Wlk p.tables e below (T200.setTop (mkF m 71 #[rv a, jv q, sd, iv w3, rv r, un] [])) K
          have f203 : Exa Z T200.heap a "com/example/wardwise/wardwise/solver/LimitPrices" := (f199.keep K200q)
          have f204 : Fld Z T200.heap a "com/example/wardwise/wardwise/solver/LimitPrices" "pricesMinutes" "Z" (.int pm) := ((F_a_pricesMinutes.keep K189q (ninS ne_a_pri (ninS ne_a_lst nin0))).keep K200q (ninS ne_a_pri (ninS ne_a_lst nin0)))
          have f205 : Fld Z T200.heap a "com/example/wardwise/wardwise/solver/LimitPrices" "minuteScale" "D" (.double sc) := ((F_a_minuteScale.keep K189q (ninS ne_a_pri (ninS ne_a_lst nin0))).keep K200q (ninS ne_a_pri (ninS ne_a_lst nin0)))
          have f206 : Fld Z T200.heap a "com/example/wardwise/wardwise/solver/LimitPrices" "maxMinutes" "J" (.long mx) := ((F_a_maxMinutes.keep K189q (ninS ne_a_pri (ninS ne_a_lst nin0))).keep K200q (ninS ne_a_pri (ninS ne_a_lst nin0)))
          have f207 : Fld Z T200.heap a "com/example/wardwise/wardwise/solver/LimitPrices" "minMinutes" "J" (.long mi) := (f192.keep K200q (ninS ne_a_pri (ninS ne_a_lst nin0)))
          have f208 : Fld Z T200.heap a "com/example/wardwise/wardwise/solver/LimitPrices" "maxWeekends" "I" (.int mw) := ((F_a_maxWeekends.keep K189q (ninS ne_a_pri (ninS ne_a_lst nin0))).keep K200q (ninS ne_a_pri (ninS ne_a_lst nin0)))
          have f209 : Fld Z T200.heap a "com/example/wardwise/wardwise/solver/LimitPrices" "limits" "[I" (.ref lim) := ((F_a_limits.keep K189q (ninS ne_a_pri (ninS ne_a_lst nin0))).keep K200q (ninS ne_a_pri (ninS ne_a_lst nin0)))
          have f210 : Fld Z T200.heap a "com/example/wardwise/wardwise/solver/LimitPrices" "price" "[D" (.ref pri) := (f195.keep K200q (ninS ne_a_pri (ninS ne_a_lst nin0)))
          have f211 : Fld Z T200.heap a "com/example/wardwise/wardwise/solver/LimitPrices" "stepSize" "[D" (.ref stp) := (f196.keep K200q (ninS ne_a_pri (ninS ne_a_lst nin0)))
          have f212 : Fld Z T200.heap a "com/example/wardwise/wardwise/solver/LimitPrices" "lastSide" "[I" (.ref lst) := (f197.keep K200q (ninS ne_a_pri (ninS ne_a_lst nin0)))
          have f213 : Arl Z T200.heap lim .int [(.int l0), (.int l1)] := ((A_lim.keep K189q (ninS ne_lim_pri (ninS ne_lim_lst nin0))).keep K200q (ninS ne_lim_pri (ninS ne_lim_lst nin0)))
          have f214 : Arl Z T200.heap r .int [(.int c0), (.int c1)] := ((A_r.keep K189q (ninS ne_r_pri (ninS ne_r_lst nin0))).keep K200q (ninS ne_r_pri (ninS ne_r_lst nin0)))
          have f215 : Arl Z T200.heap stp .double [(.double (FP.l2d t)), (.double (FP.l2d t)), (.double (FP.l2d t)), (.double (FP.l2d t)), (.double (FP.l2d t))] := (f198.keep K200q (ninS (Ne.symm ne_pri_stp) (ninS ne_stp_lst nin0)))
          exact J2 _ _ _ (if (0 : Int32) < (0 : Int32) then (FP.l2d t) else (0 : UInt64)) (if (0 : Int32) < (1 : Int32) then (FP.l2d t) else (0 : UInt64)) zz_189 zz_200 (by rw [if_neg hc42, if_neg hc44, if_neg hc117]) (by rw [if_neg hc42, if_pos hc194]) (X200.more (by decide) (by decide)) rfl N201 K202 f203 f204 f205 f206 f207 f208 f209 f210 f211 f212 f213 f214 p200_0 f215 p200_1
        · refine Wlk.of (fun _ k => XS.ifYes X193.here hx rfl (pc0 := 47) (pc' := 54) rfl (hb hby d4_47) rfl ((if0 _ _).trans (flt (fun q => hc194 ((lw_lt _ _).mp q))).2.1) (by decide) (by decide) k) ?_
          show Wlk p.tables e below (T193.setTop (mkF m 54 #[rv a, jv q, sd, iv w3, rv r, un] [(.int (1 : Int32)), (.ref a)])) K
          refine Wlk.of (fun _ k => XS.lloadN X193.here hx rfl (hb hby d4_54) rfl k) ?_
          show Wlk p.tables e below (T193.setTop (mkF m 55 #[rv a, jv q, sd, iv w3, rv r, un] [(.long q), (.int (1 : Int32)), (.ref a)])) K
          refine Wlk.of (fun _ k => XS.aloadN X193.here hx rfl (hb hby d4_55) rfl rfl k) ?_
          show Wlk p.tables e below (T193.setTop (mkF m 56 #[rv a, jv q, sd, iv w3, rv r, un] [(.ref a), (.long q), (.int (1 : Int32)), (.ref a)])) K
          obtain ⟨T216, X216, e216, st216⟩ := getF X193 hx hZ hown (host := "") (Or.inl (wd hw 16 rfl)) Via.refl e193 f192 (g := (mkF m 56 #[rv a, jv q, sd, iv w3, rv r, un] [(.ref a), (.long q), (.int (1 : Int32)), (.ref a)])) rfl rfl (hb hby d4_56)
          refine Wlk.of (fun _ k => st216 _ k) ?_
          show Wlk p.tables e below (T216.setTop (mkF m 59 #[rv a, jv q, sd, iv w3, rv r, un] [(.long mi), (.long q), (.int (1 : Int32)), (.ref a)])) K
          refine Wlk.of (fun _ k => XS.lcmp X216.here hx rfl (hb hby d4_59) rfl k) ?_
          show Wlk p.tables e below (T216.setTop (mkF m 60 #[rv a, jv q, sd, iv w3, rv r, un] [(.int (lcmpW q mi)), (.int (1 : Int32)), (.ref a)])) K
          by_cases hc217 : mi < q
          · refine Wlk.of (fun _ k => XS.ifNo X216.here hx rfl (hb hby d4_60) rfl ((if0 _ _).trans (tlt ((lw_gt _ _).mpr hc217)).2.2.2) k) ?_
            show Wlk p.tables e below (T216.setTop (mkF m 63 #[rv a, jv q, sd, iv w3, rv r, un] [(.int (1 : Int32)), (.ref a)])) K
            refine Wlk.of (fun _ k => XS.iconst X216.here hx rfl (hb hby d4_63) k) ?_
            show Wlk p.tables e below (T216.setTop (mkF m 64 #[rv a, jv q, sd, iv w3, rv r, un] [(.int (-1 : Int32)), (.int (1 : Int32)), (.ref a)])) K
            refine Wlk.of (fun _ k => XS.goto X216.here hx rfl (pc0 := 64) (pc' := 68) rfl (hb hby d4_64) (by decide) (by decide) k) ?_
            show Wlk p.tables e below (T216.setTop (mkF m 68 #[rv a, jv q, sd, iv w3, rv r, un] [(.int (-1 : Int32)), (.int (1 : Int32)), (.ref a)])) K
            have f218 : Fld Z T189.heap a "com/example/wardwise/wardwise/solver/LimitPrices" "price" "[D" (.ref pri) := (F_a_price.keep K189q (ninS ne_a_pri (ninS ne_a_lst nin0)))
            have f219 : Fld Z T189.heap a "com/example/wardwise/wardwise/solver/LimitPrices" "stepSize" "[D" (.ref stp) := (F_a_stepSize.keep K189q (ninS ne_a_pri (ninS ne_a_lst nin0)))
            have f220 : Fld Z T189.heap a "com/example/wardwise/wardwise/solver/LimitPrices" "lastSide" "[I" (.ref lst) := (F_a_lastSide.keep K189q (ninS ne_a_pri (ninS ne_a_lst nin0)))
            have f221 : Arl Z T189.heap stp .double [(.double (FP.l2d t)), (.double (FP.l2d t)), (.double (FP.l2d t)), (.double (FP.l2d t)), (.double (FP.l2d t))] := (A_stp.keep K189q (ninS (Ne.symm ne_pri_stp) (ninS ne_stp_lst nin0)))
            have f222 : Exa Z T189.heap a "com/example/wardwise/wardwise/solver/LimitPrices" := (E_a.keep K189q)
            obtain ⟨v223, T223, L223, X223, q223, st223⟩ := Ctr.priv (rmM1 l Z a0 hw a (-1 : Int32) pri stp lst t ((if (0 : Int32) < (0 : Int32) then (FP.l2d t) else (0 : UInt64))) (0 : UInt64) (0 : UInt64) (0 : UInt64) zz_189 (0 : Int32) (0 : Int32) (0 : Int32) T189.heap n0 (Nat.le_trans Z0 K191.1) f218 f219 f220 p189_0 f221 p189_1 ne_a_pri ne_a_stp ne_a_lst ne_pri_stp ne_pri_lst ne_stp_lst g_pri g_lst (by decide) ht) X216 hx hZ e216 hown (wd hw 41 rfl) (wd hw 42 rfl) (wd hw 43 rfl) (wd hw 2 rfl) (wd hw 3 rfl) (wd hw 44 rfl) (by decide) f222 pd_295 (g := (mkF m 68 #[rv a, jv q, sd, iv w3, rv r, un] [(.int (-1 : Int32)), (.int (1 : Int32)), (.ref a)])) rfl (by rw [hml]; rfl) (argsL := [(.int (1 : Int32)), (.int (-1 : Int32))]) (rest := []) rfl rfl rfl (W := 0) (by show 2 * 0 + _ ≤ _; exact Nat.le_of_eq rfl) (by decide) (by decide) (hb hby d4_68) (by decide) (by decide)
            obtain ⟨zz_223, rfl, N223q, K223q, p223_0, p223_1⟩ := q223
            have N224 := Fr.app N190 N223q
            refine Wlk.of (fun _ k => st223 _ k) ?_
            have K225 : Keep h0 T223.heap [pri, lst] := K191.trans K223q (allS (Or.inl (List.mem_of_getElem? (i := 0) rfl)) (allS (Or.inl (List.mem_of_getElem? (i := 1) rfl)) all0))
            show Wlk p.tables e below (T223.setTop (mkF m 71 #[rv a, jv q, sd, iv w3, rv r, un] [])) K
            have f226 : Exa Z T223.heap a "com/example/wardwise/wardwise/solver/LimitPrices" := (f222.keep K223q)
            have f227 : Fld Z T223.heap a "com/example/wardwise/wardwise/solver/LimitPrices" "pricesMinutes" "Z" (.int pm) := ((F_a_pricesMinutes.keep K189q (ninS ne_a_pri (ninS ne_a_lst nin0))).keep K223q (ninS ne_a_pri (ninS ne_a_lst nin0)))
            have f228 : Fld Z T223.heap a "com/example/wardwise/wardwise/solver/LimitPrices" "minuteScale" "D" (.double sc) := ((F_a_minuteScale.keep K189q (ninS ne_a_pri (ninS ne_a_lst nin0))).keep K223q (ninS ne_a_pri (ninS ne_a_lst nin0)))
            have f229 : Fld Z T223.heap a "com/example/wardwise/wardwise/solver/LimitPrices" "maxMinutes" "J" (.long mx) := ((F_a_maxMinutes.keep K189q (ninS ne_a_pri (ninS ne_a_lst nin0))).keep K223q (ninS ne_a_pri (ninS ne_a_lst nin0)))
            have f230 : Fld Z T223.heap a "com/example/wardwise/wardwise/solver/LimitPrices" "minMinutes" "J" (.long mi) := (f192.keep K223q (ninS ne_a_pri (ninS ne_a_lst nin0)))
            have f231 : Fld Z T223.heap a "com/example/wardwise/wardwise/solver/LimitPrices" "maxWeekends" "I" (.int mw) := ((F_a_maxWeekends.keep K189q (ninS ne_a_pri (ninS ne_a_lst nin0))).keep K223q (ninS ne_a_pri (ninS ne_a_lst nin0)))
            have f232 : Fld Z T223.heap a "com/example/wardwise/wardwise/solver/LimitPrices" "limits" "[I" (.ref lim) := ((F_a_limits.keep K189q (ninS ne_a_pri (ninS ne_a_lst nin0))).keep K223q (ninS ne_a_pri (ninS ne_a_lst nin0)))
            have f233 : Fld Z T223.heap a "com/example/wardwise/wardwise/solver/LimitPrices" "price" "[D" (.ref pri) := (f218.keep K223q (ninS ne_a_pri (ninS ne_a_lst nin0)))
            have f234 : Fld Z T223.heap a "com/example/wardwise/wardwise/solver/LimitPrices" "stepSize" "[D" (.ref stp) := (f219.keep K223q (ninS ne_a_pri (ninS ne_a_lst nin0)))
            have f235 : Fld Z T223.heap a "com/example/wardwise/wardwise/solver/LimitPrices" "lastSide" "[I" (.ref lst) := (f220.keep K223q (ninS ne_a_pri (ninS ne_a_lst nin0)))
            have f236 : Arl Z T223.heap lim .int [(.int l0), (.int l1)] := ((A_lim.keep K189q (ninS ne_lim_pri (ninS ne_lim_lst nin0))).keep K223q (ninS ne_lim_pri (ninS ne_lim_lst nin0)))
            have f237 : Arl Z T223.heap r .int [(.int c0), (.int c1)] := ((A_r.keep K189q (ninS ne_r_pri (ninS ne_r_lst nin0))).keep K223q (ninS ne_r_pri (ninS ne_r_lst nin0)))
            have f238 : Arl Z T223.heap stp .double [(.double (FP.l2d t)), (.double (FP.l2d t)), (.double (FP.l2d t)), (.double (FP.l2d t)), (.double (FP.l2d t))] := (f221.keep K223q (ninS (Ne.symm ne_pri_stp) (ninS ne_stp_lst nin0)))
            exact J2 _ _ _ (if (0 : Int32) < (0 : Int32) then (FP.l2d t) else (0 : UInt64)) (if (0 : Int32) < (-1 : Int32) then (FP.l2d t) else (0 : UInt64)) zz_189 zz_223 (by rw [if_neg hc42, if_neg hc44, if_neg hc117]) (by rw [if_neg hc42, if_neg hc194, if_pos hc217]) (X223.more (by decide) (by decide)) rfl N224 K225 f226 f227 f228 f229 f230 f231 f232 f233 f234 f235 f236 f237 p223_0 f238 p223_1
          · refine Wlk.of (fun _ k => XS.ifYes X216.here hx rfl (pc0 := 60) (pc' := 67) rfl (hb hby d4_60) rfl ((if0 _ _).trans (flt (fun q => hc217 ((lw_gt _ _).mp q))).2.2.2) (by decide) (by decide) k) ?_
            show Wlk p.tables e below (T216.setTop (mkF m 67 #[rv a, jv q, sd, iv w3, rv r, un] [(.int (1 : Int32)), (.ref a)])) K
            refine Wlk.of (fun _ k => XS.iconst X216.here hx rfl (hb hby d4_67) k) ?_
            show Wlk p.tables e below (T216.setTop (mkF m 68 #[rv a, jv q, sd, iv w3, rv r, un] [(.int (0 : Int32)), (.int (1 : Int32)), (.ref a)])) K
            have f239 : Fld Z T189.heap a "com/example/wardwise/wardwise/solver/LimitPrices" "price" "[D" (.ref pri) := (F_a_price.keep K189q (ninS ne_a_pri (ninS ne_a_lst nin0)))
            have f240 : Fld Z T189.heap a "com/example/wardwise/wardwise/solver/LimitPrices" "stepSize" "[D" (.ref stp) := (F_a_stepSize.keep K189q (ninS ne_a_pri (ninS ne_a_lst nin0)))
            have f241 : Fld Z T189.heap a "com/example/wardwise/wardwise/solver/LimitPrices" "lastSide" "[I" (.ref lst) := (F_a_lastSide.keep K189q (ninS ne_a_pri (ninS ne_a_lst nin0)))
            have f242 : Arl Z T189.heap stp .double [(.double (FP.l2d t)), (.double (FP.l2d t)), (.double (FP.l2d t)), (.double (FP.l2d t)), (.double (FP.l2d t))] := (A_stp.keep K189q (ninS (Ne.symm ne_pri_stp) (ninS ne_stp_lst nin0)))
            have f243 : Exa Z T189.heap a "com/example/wardwise/wardwise/solver/LimitPrices" := (E_a.keep K189q)
            obtain ⟨v244, T244, L244, X244, q244, st244⟩ := Ctr.priv (rmM1 l Z a0 hw a (0 : Int32) pri stp lst t ((if (0 : Int32) < (0 : Int32) then (FP.l2d t) else (0 : UInt64))) (0 : UInt64) (0 : UInt64) (0 : UInt64) zz_189 (0 : Int32) (0 : Int32) (0 : Int32) T189.heap n0 (Nat.le_trans Z0 K191.1) f239 f240 f241 p189_0 f242 p189_1 ne_a_pri ne_a_stp ne_a_lst ne_pri_stp ne_pri_lst ne_stp_lst g_pri g_lst (by decide) ht) X216 hx hZ e216 hown (wd hw 41 rfl) (wd hw 42 rfl) (wd hw 43 rfl) (wd hw 2 rfl) (wd hw 3 rfl) (wd hw 44 rfl) (by decide) f243 pd_295 (g := (mkF m 68 #[rv a, jv q, sd, iv w3, rv r, un] [(.int (0 : Int32)), (.int (1 : Int32)), (.ref a)])) rfl (by rw [hml]; rfl) (argsL := [(.int (1 : Int32)), (.int (0 : Int32))]) (rest := []) rfl rfl rfl (W := 0) (by show 2 * 0 + _ ≤ _; exact Nat.le_of_eq rfl) (by decide) (by decide) (hb hby d4_68) (by decide) (by decide)
            obtain ⟨zz_244, rfl, N244q, K244q, p244_0, p244_1⟩ := q244
            have N245 := Fr.app N190 N244q
            refine Wlk.of (fun _ k => st244 _ k) ?_
            have K246 : Keep h0 T244.heap [pri, lst] := K191.trans K244q (allS (Or.inl (List.mem_of_getElem? (i := 0) rfl)) (allS (Or.inl (List.mem_of_getElem? (i := 1) rfl)) all0))
            show Wlk p.tables e below (T244.setTop (mkF m 71 #[rv a, jv q, sd, iv w3, rv r, un] [])) K
            have f247 : Exa Z T244.heap a "com/example/wardwise/wardwise/solver/LimitPrices" := (f243.keep K244q)
            have f248 : Fld Z T244.heap a "com/example/wardwise/wardwise/solver/LimitPrices" "pricesMinutes" "Z" (.int pm) := ((F_a_pricesMinutes.keep K189q (ninS ne_a_pri (ninS ne_a_lst nin0))).keep K244q (ninS ne_a_pri (ninS ne_a_lst nin0)))
            have f249 : Fld Z T244.heap a "com/example/wardwise/wardwise/solver/LimitPrices" "minuteScale" "D" (.double sc) := ((F_a_minuteScale.keep K189q (ninS ne_a_pri (ninS ne_a_lst nin0))).keep K244q (ninS ne_a_pri (ninS ne_a_lst nin0)))
            have f250 : Fld Z T244.heap a "com/example/wardwise/wardwise/solver/LimitPrices" "maxMinutes" "J" (.long mx) := ((F_a_maxMinutes.keep K189q (ninS ne_a_pri (ninS ne_a_lst nin0))).keep K244q (ninS ne_a_pri (ninS ne_a_lst nin0)))
            have f251 : Fld Z T244.heap a "com/example/wardwise/wardwise/solver/LimitPrices" "minMinutes" "J" (.long mi) := (f192.keep K244q (ninS ne_a_pri (ninS ne_a_lst nin0)))
            have f252 : Fld Z T244.heap a "com/example/wardwise/wardwise/solver/LimitPrices" "maxWeekends" "I" (.int mw) := ((F_a_maxWeekends.keep K189q (ninS ne_a_pri (ninS ne_a_lst nin0))).keep K244q (ninS ne_a_pri (ninS ne_a_lst nin0)))
            have f253 : Fld Z T244.heap a "com/example/wardwise/wardwise/solver/LimitPrices" "limits" "[I" (.ref lim) := ((F_a_limits.keep K189q (ninS ne_a_pri (ninS ne_a_lst nin0))).keep K244q (ninS ne_a_pri (ninS ne_a_lst nin0)))
            have f254 : Fld Z T244.heap a "com/example/wardwise/wardwise/solver/LimitPrices" "price" "[D" (.ref pri) := (f239.keep K244q (ninS ne_a_pri (ninS ne_a_lst nin0)))
            have f255 : Fld Z T244.heap a "com/example/wardwise/wardwise/solver/LimitPrices" "stepSize" "[D" (.ref stp) := (f240.keep K244q (ninS ne_a_pri (ninS ne_a_lst nin0)))
            have f256 : Fld Z T244.heap a "com/example/wardwise/wardwise/solver/LimitPrices" "lastSide" "[I" (.ref lst) := (f241.keep K244q (ninS ne_a_pri (ninS ne_a_lst nin0)))
            have f257 : Arl Z T244.heap lim .int [(.int l0), (.int l1)] := ((A_lim.keep K189q (ninS ne_lim_pri (ninS ne_lim_lst nin0))).keep K244q (ninS ne_lim_pri (ninS ne_lim_lst nin0)))
            have f258 : Arl Z T244.heap r .int [(.int c0), (.int c1)] := ((A_r.keep K189q (ninS ne_r_pri (ninS ne_r_lst nin0))).keep K244q (ninS ne_r_pri (ninS ne_r_lst nin0)))
            have f259 : Arl Z T244.heap stp .double [(.double (FP.l2d t)), (.double (FP.l2d t)), (.double (FP.l2d t)), (.double (FP.l2d t)), (.double (FP.l2d t))] := (f242.keep K244q (ninS (Ne.symm ne_pri_stp) (ninS ne_stp_lst nin0)))
            exact J2 _ _ _ (if (0 : Int32) < (0 : Int32) then (FP.l2d t) else (0 : UInt64)) (if (0 : Int32) < (0 : Int32) then (FP.l2d t) else (0 : UInt64)) zz_189 zz_244 (by rw [if_neg hc42, if_neg hc44, if_neg hc117]) (by rw [if_neg hc42, if_neg hc194, if_neg hc217]) (X244.more (by decide) (by decide)) rfl N245 K246 f247 f248 f249 f250 f251 f252 f253 f254 f255 f256 f257 f258 p244_0 f259 p244_1
theorem d7_0 : decode prog_41_method_6_code 0 = .ok (.aload_n 0, 1) := by decide +kernel
theorem d7_1 : decode prog_41_method_6_code 1 = .ok (.getfield 32, 3) := by decide +kernel
theorem d7_4 : decode prog_41_method_6_code 4 = .ok (.iconst 0, 1) := by decide +kernel
theorem d7_5 : decode prog_41_method_6_code 5 = .ok (.daload, 1) := by decide +kernel
theorem d7_6 : decode prog_41_method_6_code 6 = .ok (.aload_n 0, 1) := by decide +kernel
theorem d7_7 : decode prog_41_method_6_code 7 = .ok (.getfield 17, 3) := by decide +kernel
theorem d7_10 : decode prog_41_method_6_code 10 = .ok (.l2d, 1) := by decide +kernel
theorem d7_11 : decode prog_41_method_6_code 11 = .ok (.dmul, 1) := by decide +kernel
theorem d7_12 : decode prog_41_method_6_code 12 = .ok (.aload_n 0, 1) := by decide +kernel
theorem d7_13 : decode prog_41_method_6_code 13 = .ok (.getfield 13, 3) := by decide +kernel
theorem d7_16 : decode prog_41_method_6_code 16 = .ok (.ddiv, 1) := by decide +kernel
theorem d7_17 : decode prog_41_method_6_code 17 = .ok (.aload_n 0, 1) := by decide +kernel
theorem d7_18 : decode prog_41_method_6_code 18 = .ok (.getfield 32, 3) := by decide +kernel
theorem d7_21 : decode prog_41_method_6_code 21 = .ok (.iconst 1, 1) := by decide +kernel
theorem d7_22 : decode prog_41_method_6_code 22 = .ok (.daload, 1) := by decide +kernel
theorem d7_23 : decode prog_41_method_6_code 23 = .ok (.aload_n 0, 1) := by decide +kernel
theorem d7_24 : decode prog_41_method_6_code 24 = .ok (.getfield 21, 3) := by decide +kernel
theorem d7_27 : decode prog_41_method_6_code 27 = .ok (.l2d, 1) := by decide +kernel
theorem d7_28 : decode prog_41_method_6_code 28 = .ok (.dmul, 1) := by decide +kernel
theorem d7_29 : decode prog_41_method_6_code 29 = .ok (.aload_n 0, 1) := by decide +kernel
theorem d7_30 : decode prog_41_method_6_code 30 = .ok (.getfield 13, 3) := by decide +kernel
theorem d7_33 : decode prog_41_method_6_code 33 = .ok (.ddiv, 1) := by decide +kernel
theorem d7_34 : decode prog_41_method_6_code 34 = .ok (.dsub, 1) := by decide +kernel
theorem d7_35 : decode prog_41_method_6_code 35 = .ok (.dstore_n 1, 1) := by decide +kernel
theorem d7_36 : decode prog_41_method_6_code 36 = .ok (.dload_n 1, 1) := by decide +kernel
theorem d7_37 : decode prog_41_method_6_code 37 = .ok (.aload_n 0, 1) := by decide +kernel
theorem d7_38 : decode prog_41_method_6_code 38 = .ok (.getfield 32, 3) := by decide +kernel
theorem d7_41 : decode prog_41_method_6_code 41 = .ok (.iconst 2, 1) := by decide +kernel
theorem d7_42 : decode prog_41_method_6_code 42 = .ok (.daload, 1) := by decide +kernel
theorem d7_43 : decode prog_41_method_6_code 43 = .ok (.aload_n 0, 1) := by decide +kernel
theorem d7_44 : decode prog_41_method_6_code 44 = .ok (.getfield 24, 3) := by decide +kernel
theorem d7_47 : decode prog_41_method_6_code 47 = .ok (.i2d, 1) := by decide +kernel
theorem d7_48 : decode prog_41_method_6_code 48 = .ok (.dmul, 1) := by decide +kernel
theorem d7_49 : decode prog_41_method_6_code 49 = .ok (.dadd, 1) := by decide +kernel
theorem d7_50 : decode prog_41_method_6_code 50 = .ok (.dstore_n 1, 1) := by decide +kernel
theorem d7_51 : decode prog_41_method_6_code 51 = .ok (.iconst 0, 1) := by decide +kernel
theorem d7_52 : decode prog_41_method_6_code 52 = .ok (.istore_n 3, 1) := by decide +kernel
theorem d7_53 : decode prog_41_method_6_code 53 = .ok (.iload_n 3, 1) := by decide +kernel
theorem d7_54 : decode prog_41_method_6_code 54 = .ok (.aload_n 0, 1) := by decide +kernel
theorem d7_55 : decode prog_41_method_6_code 55 = .ok (.getfield 28, 3) := by decide +kernel
theorem d7_58 : decode prog_41_method_6_code 58 = .ok (.arraylength, 1) := by decide +kernel
theorem d7_59 : decode prog_41_method_6_code 59 = .ok (.if_icmp .ge 28, 3) := by decide +kernel
theorem d7_62 : decode prog_41_method_6_code 62 = .ok (.dload_n 1, 1) := by decide +kernel
theorem d7_63 : decode prog_41_method_6_code 63 = .ok (.aload_n 0, 1) := by decide +kernel
theorem d7_64 : decode prog_41_method_6_code 64 = .ok (.getfield 32, 3) := by decide +kernel
theorem d7_67 : decode prog_41_method_6_code 67 = .ok (.iconst 3, 1) := by decide +kernel
theorem d7_68 : decode prog_41_method_6_code 68 = .ok (.iload_n 3, 1) := by decide +kernel
theorem d7_69 : decode prog_41_method_6_code 69 = .ok (.iadd, 1) := by decide +kernel
theorem d7_70 : decode prog_41_method_6_code 70 = .ok (.daload, 1) := by decide +kernel
theorem d7_71 : decode prog_41_method_6_code 71 = .ok (.aload_n 0, 1) := by decide +kernel
theorem d7_72 : decode prog_41_method_6_code 72 = .ok (.getfield 28, 3) := by decide +kernel
theorem d7_75 : decode prog_41_method_6_code 75 = .ok (.iload_n 3, 1) := by decide +kernel
theorem d7_76 : decode prog_41_method_6_code 76 = .ok (.iaload, 1) := by decide +kernel
theorem d7_77 : decode prog_41_method_6_code 77 = .ok (.i2d, 1) := by decide +kernel
theorem d7_78 : decode prog_41_method_6_code 78 = .ok (.dmul, 1) := by decide +kernel
theorem d7_79 : decode prog_41_method_6_code 79 = .ok (.dadd, 1) := by decide +kernel
theorem d7_80 : decode prog_41_method_6_code 80 = .ok (.dstore_n 1, 1) := by decide +kernel
theorem d7_81 : decode prog_41_method_6_code 81 = .ok (.iinc 3 1, 3) := by decide +kernel
theorem d7_84 : decode prog_41_method_6_code 84 = .ok (.goto (-31), 3) := by decide +kernel
theorem d7_87 : decode prog_41_method_6_code 87 = .ok (.dload_n 1, 1) := by decide +kernel
theorem d7_88 : decode prog_41_method_6_code 88 = .ok (.dreturn, 1) := by decide +kernel
theorem ef_rmL (m : MethodId) (a : Addr) : entryFrame m #[(.ref a)] 4 = mkF m 0 #[rv a, un, un, un] [] := by first | (simp [entryFrame, mkF, argsToLocals, Value.category]; done) | rfl
def Q_rmL (Z : State) (a : Addr) (sc : UInt64) (mx : Int64) (mi : Int64) (mw : Int32) (lim : Addr) (pri : Addr) (l0 : Int32) (l1 : Int32) (y0 : UInt64) (y1 : UInt64) (y2 : UInt64) (y3 : UInt64) (y4 : UInt64) (h0 : Heap) (n0 : Nat) (v : Option Value) (h : Heap) (L : List Loc) : Prop := v = (some (.double (FP.dadd (FP.dadd (FP.dadd (FP.dsub (FP.ddiv (FP.dmul y0 (FP.l2d mx)) sc) (FP.ddiv (FP.dmul y1 (FP.l2d mi)) sc)) (FP.dmul y2 (FP.i2d mw))) (FP.dmul y3 (FP.i2d l0))) (FP.dmul y4 (FP.i2d l1))))) ∧ Fr n0 L ∧ h = h0
set_option maxRecDepth 65536 in
set_option maxHeartbeats 40000000 in
theorem rmL (l : Launch) (Z : State) (a0 : Array Value) (hw : ∀ d ∈ tables_1, d.before a0 Z = true) (a : Addr) (sc : UInt64) (mx : Int64) (mi : Int64) (mw : Int32) (lim : Addr) (pri : Addr) (l0 : Int32) (l1 : Int32) (y0 : UInt64) (y1 : UInt64) (y2 : UInt64) (y3 : UInt64) (y4 : UInt64) (h0 : Heap) (n0 : Nat) (Z0 : n0 ≤ h0.size) (F_a_minuteScale : Fld Z h0 a "com/example/wardwise/wardwise/solver/LimitPrices" "minuteScale" "D" (.double sc)) (F_a_maxMinutes : Fld Z h0 a "com/example/wardwise/wardwise/solver/LimitPrices" "maxMinutes" "J" (.long mx)) (F_a_minMinutes : Fld Z h0 a "com/example/wardwise/wardwise/solver/LimitPrices" "minMinutes" "J" (.long mi)) (F_a_maxWeekends : Fld Z h0 a "com/example/wardwise/wardwise/solver/LimitPrices" "maxWeekends" "I" (.int mw)) (F_a_limits : Fld Z h0 a "com/example/wardwise/wardwise/solver/LimitPrices" "limits" "[I" (.ref lim)) (F_a_price : Fld Z h0 a "com/example/wardwise/wardwise/solver/LimitPrices" "price" "[D" (.ref pri)) (A_lim : Arl Z h0 lim .int [(.int l0), (.int l1)]) (A_pri : Arl Z h0 pri .double [(.double y0), (.double y1), (.double y2), (.double y3), (.double y4)]) (n11_0 : Fl.NoNaN64 (FP.dmul y0 (FP.l2d mx))) (n16_0 : Fl.NoNaN64 (FP.ddiv (FP.dmul y0 (FP.l2d mx)) sc)) (n28_0 : Fl.NoNaN64 (FP.dmul y1 (FP.l2d mi))) (n33_0 : Fl.NoNaN64 (FP.ddiv (FP.dmul y1 (FP.l2d mi)) sc)) (n34_0 : Fl.NoNaN64 (FP.dsub (FP.ddiv (FP.dmul y0 (FP.l2d mx)) sc) (FP.ddiv (FP.dmul y1 (FP.l2d mi)) sc))) (n48_0 : Fl.NoNaN64 (FP.dmul y2 (FP.i2d mw))) (n49_0 : Fl.NoNaN64 (FP.dadd (FP.dsub (FP.ddiv (FP.dmul y0 (FP.l2d mx)) sc) (FP.ddiv (FP.dmul y1 (FP.l2d mi)) sc)) (FP.dmul y2 (FP.i2d mw)))) (n78_0 : Fl.NoNaN64 (FP.dmul y3 (FP.i2d l0))) (n79_0 : Fl.NoNaN64 (FP.dadd (FP.dadd (FP.dsub (FP.ddiv (FP.dmul y0 (FP.l2d mx)) sc) (FP.ddiv (FP.dmul y1 (FP.l2d mi)) sc)) (FP.dmul y2 (FP.i2d mw))) (FP.dmul y3 (FP.i2d l0)))) (n78_1 : Fl.NoNaN64 (FP.dmul y4 (FP.i2d l1))) (n79_1 : Fl.NoNaN64 (FP.dadd (FP.dadd (FP.dadd (FP.dsub (FP.ddiv (FP.dmul y0 (FP.l2d mx)) sc) (FP.ddiv (FP.dmul y1 (FP.l2d mi)) sc)) (FP.dmul y2 (FP.i2d mw))) (FP.dmul y3 (FP.i2d l0))) (FP.dmul y4 (FP.i2d l1)))) :
    Ctr l Z h0 (⟨"com/example/wardwise/wardwise/solver/LimitPrices", "ofLimits", "()D"⟩ : MethodName) prog_41_method_6_code 4 (some .double) [] ({ frames := 0, cells := 0, slots := 0, locals := 0 } : Room) #[(.ref a)] (Q_rmL Z a sc mx mi mw lim pri l0 l1 y0 y1 y2 y3 y4 h0 n0) := by
  refine Ctr.make (plainFor_of_name pn_40) fun p e s m below meth c s₁ K hret hml hx hby hown hnm hZ X0 e0 hK => ?_
  have hown : s.vm.findClass "com/example/wardwise/wardwise/solver/LimitPrices" = some m.cls := hown
  have N0 := Fr.nil n0
  have K0 : Keep h0 h0 [] := Keep.refl _ _
  refine Wlk.of (fun _ k => castTop (ef_rmL m a) k) ?_
  show Wlk p.tables e below (s₁.setTop (mkF m 0 #[rv a, un, un, un] [])) K
  refine Wlk.of (fun _ k => XS.aloadN X0.here hx rfl (hb hby d7_0) rfl rfl k) ?_
  show Wlk p.tables e below (s₁.setTop (mkF m 1 #[rv a, un, un, un] [(.ref a)])) K
  obtain ⟨T1, X1, e1, st1⟩ := getF X0 hx hZ hown (host := "") (Or.inl (wd hw 23 rfl)) Via.refl e0 F_a_price (g := (mkF m 1 #[rv a, un, un, un] [(.ref a)])) rfl rfl (hb hby d7_1)
  refine Wlk.of (fun _ k => st1 _ k) ?_
  show Wlk p.tables e below (T1.setTop (mkF m 4 #[rv a, un, un, un] [(.ref pri)])) K
  refine Wlk.of (fun _ k => XS.iconst X1.here hx rfl (hb hby d7_4) k) ?_
  show Wlk p.tables e below (T1.setTop (mkF m 5 #[rv a, un, un, un] [(.int (0 : Int32)), (.ref pri)])) K
  refine Wlk.of (fun _ k => ldD X1 hx hZ e1 A_pri (j := (0 : Int32)) (i := 0) (by decide) (by decide) rfl (g := (mkF m 5 #[rv a, un, un, un] [(.int (0 : Int32)), (.ref pri)])) rfl rfl (hb hby d7_5) _ k) ?_
  show Wlk p.tables e below (T1.setTop (mkF m 6 #[rv a, un, un, un] [(.double y0)])) K
  refine Wlk.of (fun _ k => XS.aloadN X1.here hx rfl (hb hby d7_6) rfl rfl k) ?_
  show Wlk p.tables e below (T1.setTop (mkF m 7 #[rv a, un, un, un] [(.ref a), (.double y0)])) K
  obtain ⟨T2, X2, e2, st2⟩ := getF X1 hx hZ hown (host := "") (Or.inl (wd hw 14 rfl)) Via.refl e1 F_a_maxMinutes (g := (mkF m 7 #[rv a, un, un, un] [(.ref a), (.double y0)])) rfl rfl (hb hby d7_7)
  refine Wlk.of (fun _ k => st2 _ k) ?_
  show Wlk p.tables e below (T2.setTop (mkF m 10 #[rv a, un, un, un] [(.long mx), (.double y0)])) K
  refine Wlk.of (fun _ k => XS.l2dS X2.here hx rfl (hb hby d7_10) rfl rfl k) ?_
  show Wlk p.tables e below (T2.setTop (mkF m 11 #[rv a, un, un, un] [(.double (FP.l2d mx)), (.double y0)])) K
  refine Wlk.of (fun _ k => XS.dmulS X2.here hx rfl (hb hby d7_11) rfl n11_0 rfl k) ?_
  show Wlk p.tables e below (T2.setTop (mkF m 12 #[rv a, un, un, un] [(.double (FP.dmul y0 (FP.l2d mx)))])) K
  refine Wlk.of (fun _ k => XS.aloadN X2.here hx rfl (hb hby d7_12) rfl rfl k) ?_
  show Wlk p.tables e below (T2.setTop (mkF m 13 #[rv a, un, un, un] [(.ref a), (.double (FP.dmul y0 (FP.l2d mx)))])) K
  obtain ⟨T3, X3, e3, st3⟩ := getF X2 hx hZ hown (host := "") (Or.inl (wd hw 12 rfl)) Via.refl e2 F_a_minuteScale (g := (mkF m 13 #[rv a, un, un, un] [(.ref a), (.double (FP.dmul y0 (FP.l2d mx)))])) rfl rfl (hb hby d7_13)
  refine Wlk.of (fun _ k => st3 _ k) ?_
  show Wlk p.tables e below (T3.setTop (mkF m 16 #[rv a, un, un, un] [(.double sc), (.double (FP.dmul y0 (FP.l2d mx)))])) K
  refine Wlk.of (fun _ k => XS.ddivS X3.here hx rfl (hb hby d7_16) rfl n16_0 rfl k) ?_
  show Wlk p.tables e below (T3.setTop (mkF m 17 #[rv a, un, un, un] [(.double (FP.ddiv (FP.dmul y0 (FP.l2d mx)) sc))])) K
  refine Wlk.of (fun _ k => XS.aloadN X3.here hx rfl (hb hby d7_17) rfl rfl k) ?_
  show Wlk p.tables e below (T3.setTop (mkF m 18 #[rv a, un, un, un] [(.ref a), (.double (FP.ddiv (FP.dmul y0 (FP.l2d mx)) sc))])) K
  obtain ⟨T4, X4, e4, st4⟩ := getF X3 hx hZ hown (host := "") (Or.inl (wd hw 23 rfl)) Via.refl e3 F_a_price (g := (mkF m 18 #[rv a, un, un, un] [(.ref a), (.double (FP.ddiv (FP.dmul y0 (FP.l2d mx)) sc))])) rfl rfl (hb hby d7_18)
  refine Wlk.of (fun _ k => st4 _ k) ?_
  show Wlk p.tables e below (T4.setTop (mkF m 21 #[rv a, un, un, un] [(.ref pri), (.double (FP.ddiv (FP.dmul y0 (FP.l2d mx)) sc))])) K
  refine Wlk.of (fun _ k => XS.iconst X4.here hx rfl (hb hby d7_21) k) ?_
  show Wlk p.tables e below (T4.setTop (mkF m 22 #[rv a, un, un, un] [(.int (1 : Int32)), (.ref pri), (.double (FP.ddiv (FP.dmul y0 (FP.l2d mx)) sc))])) K
  refine Wlk.of (fun _ k => ldD X4 hx hZ e4 A_pri (j := (1 : Int32)) (i := 1) (by decide) (by decide) rfl (g := (mkF m 22 #[rv a, un, un, un] [(.int (1 : Int32)), (.ref pri), (.double (FP.ddiv (FP.dmul y0 (FP.l2d mx)) sc))])) rfl rfl (hb hby d7_22) _ k) ?_
  show Wlk p.tables e below (T4.setTop (mkF m 23 #[rv a, un, un, un] [(.double y1), (.double (FP.ddiv (FP.dmul y0 (FP.l2d mx)) sc))])) K
  refine Wlk.of (fun _ k => XS.aloadN X4.here hx rfl (hb hby d7_23) rfl rfl k) ?_
  show Wlk p.tables e below (T4.setTop (mkF m 24 #[rv a, un, un, un] [(.ref a), (.double y1), (.double (FP.ddiv (FP.dmul y0 (FP.l2d mx)) sc))])) K
  obtain ⟨T5, X5, e5, st5⟩ := getF X4 hx hZ hown (host := "") (Or.inl (wd hw 16 rfl)) Via.refl e4 F_a_minMinutes (g := (mkF m 24 #[rv a, un, un, un] [(.ref a), (.double y1), (.double (FP.ddiv (FP.dmul y0 (FP.l2d mx)) sc))])) rfl rfl (hb hby d7_24)
  refine Wlk.of (fun _ k => st5 _ k) ?_
  show Wlk p.tables e below (T5.setTop (mkF m 27 #[rv a, un, un, un] [(.long mi), (.double y1), (.double (FP.ddiv (FP.dmul y0 (FP.l2d mx)) sc))])) K
  refine Wlk.of (fun _ k => XS.l2dS X5.here hx rfl (hb hby d7_27) rfl rfl k) ?_
  show Wlk p.tables e below (T5.setTop (mkF m 28 #[rv a, un, un, un] [(.double (FP.l2d mi)), (.double y1), (.double (FP.ddiv (FP.dmul y0 (FP.l2d mx)) sc))])) K
  refine Wlk.of (fun _ k => XS.dmulS X5.here hx rfl (hb hby d7_28) rfl n28_0 rfl k) ?_
  show Wlk p.tables e below (T5.setTop (mkF m 29 #[rv a, un, un, un] [(.double (FP.dmul y1 (FP.l2d mi))), (.double (FP.ddiv (FP.dmul y0 (FP.l2d mx)) sc))])) K
  refine Wlk.of (fun _ k => XS.aloadN X5.here hx rfl (hb hby d7_29) rfl rfl k) ?_
  show Wlk p.tables e below (T5.setTop (mkF m 30 #[rv a, un, un, un] [(.ref a), (.double (FP.dmul y1 (FP.l2d mi))), (.double (FP.ddiv (FP.dmul y0 (FP.l2d mx)) sc))])) K
  obtain ⟨T6, X6, e6, st6⟩ := getF X5 hx hZ hown (host := "") (Or.inl (wd hw 12 rfl)) Via.refl e5 F_a_minuteScale (g := (mkF m 30 #[rv a, un, un, un] [(.ref a), (.double (FP.dmul y1 (FP.l2d mi))), (.double (FP.ddiv (FP.dmul y0 (FP.l2d mx)) sc))])) rfl rfl (hb hby d7_30)
  refine Wlk.of (fun _ k => st6 _ k) ?_
  show Wlk p.tables e below (T6.setTop (mkF m 33 #[rv a, un, un, un] [(.double sc), (.double (FP.dmul y1 (FP.l2d mi))), (.double (FP.ddiv (FP.dmul y0 (FP.l2d mx)) sc))])) K
  refine Wlk.of (fun _ k => XS.ddivS X6.here hx rfl (hb hby d7_33) rfl n33_0 rfl k) ?_
  show Wlk p.tables e below (T6.setTop (mkF m 34 #[rv a, un, un, un] [(.double (FP.ddiv (FP.dmul y1 (FP.l2d mi)) sc)), (.double (FP.ddiv (FP.dmul y0 (FP.l2d mx)) sc))])) K
  refine Wlk.of (fun _ k => XS.dsubS X6.here hx rfl (hb hby d7_34) rfl n34_0 rfl k) ?_
  show Wlk p.tables e below (T6.setTop (mkF m 35 #[rv a, un, un, un] [(.double (FP.dsub (FP.ddiv (FP.dmul y0 (FP.l2d mx)) sc) (FP.ddiv (FP.dmul y1 (FP.l2d mi)) sc)))])) K
  refine Wlk.of (fun _ k => XS.dstoreN X6.here hx rfl (hb hby d7_35) rfl (l' := #[rv a, dv (FP.dsub (FP.ddiv (FP.dmul y0 (FP.l2d mx)) sc) (FP.ddiv (FP.dmul y1 (FP.l2d mi)) sc)), sd, un]) rfl k) ?_
  show Wlk p.tables e below (T6.setTop (mkF m 36 #[rv a, dv (FP.dsub (FP.ddiv (FP.dmul y0 (FP.l2d mx)) sc) (FP.ddiv (FP.dmul y1 (FP.l2d mi)) sc)), sd, un] [])) K
  refine Wlk.of (fun _ k => XS.dloadN X6.here hx rfl (hb hby d7_36) rfl k) ?_
  show Wlk p.tables e below (T6.setTop (mkF m 37 #[rv a, dv (FP.dsub (FP.ddiv (FP.dmul y0 (FP.l2d mx)) sc) (FP.ddiv (FP.dmul y1 (FP.l2d mi)) sc)), sd, un] [(.double (FP.dsub (FP.ddiv (FP.dmul y0 (FP.l2d mx)) sc) (FP.ddiv (FP.dmul y1 (FP.l2d mi)) sc)))])) K
  refine Wlk.of (fun _ k => XS.aloadN X6.here hx rfl (hb hby d7_37) rfl rfl k) ?_
  show Wlk p.tables e below (T6.setTop (mkF m 38 #[rv a, dv (FP.dsub (FP.ddiv (FP.dmul y0 (FP.l2d mx)) sc) (FP.ddiv (FP.dmul y1 (FP.l2d mi)) sc)), sd, un] [(.ref a), (.double (FP.dsub (FP.ddiv (FP.dmul y0 (FP.l2d mx)) sc) (FP.ddiv (FP.dmul y1 (FP.l2d mi)) sc)))])) K
  obtain ⟨T7, X7, e7, st7⟩ := getF X6 hx hZ hown (host := "") (Or.inl (wd hw 23 rfl)) Via.refl e6 F_a_price (g := (mkF m 38 #[rv a, dv (FP.dsub (FP.ddiv (FP.dmul y0 (FP.l2d mx)) sc) (FP.ddiv (FP.dmul y1 (FP.l2d mi)) sc)), sd, un] [(.ref a), (.double (FP.dsub (FP.ddiv (FP.dmul y0 (FP.l2d mx)) sc) (FP.ddiv (FP.dmul y1 (FP.l2d mi)) sc)))])) rfl rfl (hb hby d7_38)
  refine Wlk.of (fun _ k => st7 _ k) ?_
  show Wlk p.tables e below (T7.setTop (mkF m 41 #[rv a, dv (FP.dsub (FP.ddiv (FP.dmul y0 (FP.l2d mx)) sc) (FP.ddiv (FP.dmul y1 (FP.l2d mi)) sc)), sd, un] [(.ref pri), (.double (FP.dsub (FP.ddiv (FP.dmul y0 (FP.l2d mx)) sc) (FP.ddiv (FP.dmul y1 (FP.l2d mi)) sc)))])) K
  refine Wlk.of (fun _ k => XS.iconst X7.here hx rfl (hb hby d7_41) k) ?_
  show Wlk p.tables e below (T7.setTop (mkF m 42 #[rv a, dv (FP.dsub (FP.ddiv (FP.dmul y0 (FP.l2d mx)) sc) (FP.ddiv (FP.dmul y1 (FP.l2d mi)) sc)), sd, un] [(.int (2 : Int32)), (.ref pri), (.double (FP.dsub (FP.ddiv (FP.dmul y0 (FP.l2d mx)) sc) (FP.ddiv (FP.dmul y1 (FP.l2d mi)) sc)))])) K
  refine Wlk.of (fun _ k => ldD X7 hx hZ e7 A_pri (j := (2 : Int32)) (i := 2) (by decide) (by decide) rfl (g := (mkF m 42 #[rv a, dv (FP.dsub (FP.ddiv (FP.dmul y0 (FP.l2d mx)) sc) (FP.ddiv (FP.dmul y1 (FP.l2d mi)) sc)), sd, un] [(.int (2 : Int32)), (.ref pri), (.double (FP.dsub (FP.ddiv (FP.dmul y0 (FP.l2d mx)) sc) (FP.ddiv (FP.dmul y1 (FP.l2d mi)) sc)))])) rfl rfl (hb hby d7_42) _ k) ?_
  show Wlk p.tables e below (T7.setTop (mkF m 43 #[rv a, dv (FP.dsub (FP.ddiv (FP.dmul y0 (FP.l2d mx)) sc) (FP.ddiv (FP.dmul y1 (FP.l2d mi)) sc)), sd, un] [(.double y2), (.double (FP.dsub (FP.ddiv (FP.dmul y0 (FP.l2d mx)) sc) (FP.ddiv (FP.dmul y1 (FP.l2d mi)) sc)))])) K
  refine Wlk.of (fun _ k => XS.aloadN X7.here hx rfl (hb hby d7_43) rfl rfl k) ?_
  show Wlk p.tables e below (T7.setTop (mkF m 44 #[rv a, dv (FP.dsub (FP.ddiv (FP.dmul y0 (FP.l2d mx)) sc) (FP.ddiv (FP.dmul y1 (FP.l2d mi)) sc)), sd, un] [(.ref a), (.double y2), (.double (FP.dsub (FP.ddiv (FP.dmul y0 (FP.l2d mx)) sc) (FP.ddiv (FP.dmul y1 (FP.l2d mi)) sc)))])) K
  obtain ⟨T8, X8, e8, st8⟩ := getF X7 hx hZ hown (host := "") (Or.inl (wd hw 18 rfl)) Via.refl e7 F_a_maxWeekends (g := (mkF m 44 #[rv a, dv (FP.dsub (FP.ddiv (FP.dmul y0 (FP.l2d mx)) sc) (FP.ddiv (FP.dmul y1 (FP.l2d mi)) sc)), sd, un] [(.ref a), (.double y2), (.double (FP.dsub (FP.ddiv (FP.dmul y0 (FP.l2d mx)) sc) (FP.ddiv (FP.dmul y1 (FP.l2d mi)) sc)))])) rfl rfl (hb hby d7_44)
  refine Wlk.of (fun _ k => st8 _ k) ?_
  show Wlk p.tables e below (T8.setTop (mkF m 47 #[rv a, dv (FP.dsub (FP.ddiv (FP.dmul y0 (FP.l2d mx)) sc) (FP.ddiv (FP.dmul y1 (FP.l2d mi)) sc)), sd, un] [(.int mw), (.double y2), (.double (FP.dsub (FP.ddiv (FP.dmul y0 (FP.l2d mx)) sc) (FP.ddiv (FP.dmul y1 (FP.l2d mi)) sc)))])) K
  refine Wlk.of (fun _ k => XS.i2dS X8.here hx rfl (hb hby d7_47) rfl rfl k) ?_
  show Wlk p.tables e below (T8.setTop (mkF m 48 #[rv a, dv (FP.dsub (FP.ddiv (FP.dmul y0 (FP.l2d mx)) sc) (FP.ddiv (FP.dmul y1 (FP.l2d mi)) sc)), sd, un] [(.double (FP.i2d mw)), (.double y2), (.double (FP.dsub (FP.ddiv (FP.dmul y0 (FP.l2d mx)) sc) (FP.ddiv (FP.dmul y1 (FP.l2d mi)) sc)))])) K
  refine Wlk.of (fun _ k => XS.dmulS X8.here hx rfl (hb hby d7_48) rfl n48_0 rfl k) ?_
  show Wlk p.tables e below (T8.setTop (mkF m 49 #[rv a, dv (FP.dsub (FP.ddiv (FP.dmul y0 (FP.l2d mx)) sc) (FP.ddiv (FP.dmul y1 (FP.l2d mi)) sc)), sd, un] [(.double (FP.dmul y2 (FP.i2d mw))), (.double (FP.dsub (FP.ddiv (FP.dmul y0 (FP.l2d mx)) sc) (FP.ddiv (FP.dmul y1 (FP.l2d mi)) sc)))])) K
  refine Wlk.of (fun _ k => XS.daddS X8.here hx rfl (hb hby d7_49) rfl n49_0 rfl k) ?_
  show Wlk p.tables e below (T8.setTop (mkF m 50 #[rv a, dv (FP.dsub (FP.ddiv (FP.dmul y0 (FP.l2d mx)) sc) (FP.ddiv (FP.dmul y1 (FP.l2d mi)) sc)), sd, un] [(.double (FP.dadd (FP.dsub (FP.ddiv (FP.dmul y0 (FP.l2d mx)) sc) (FP.ddiv (FP.dmul y1 (FP.l2d mi)) sc)) (FP.dmul y2 (FP.i2d mw))))])) K
  refine Wlk.of (fun _ k => XS.dstoreN X8.here hx rfl (hb hby d7_50) rfl (l' := #[rv a, dv (FP.dadd (FP.dsub (FP.ddiv (FP.dmul y0 (FP.l2d mx)) sc) (FP.ddiv (FP.dmul y1 (FP.l2d mi)) sc)) (FP.dmul y2 (FP.i2d mw))), sd, un]) rfl k) ?_
  show Wlk p.tables e below (T8.setTop (mkF m 51 #[rv a, dv (FP.dadd (FP.dsub (FP.ddiv (FP.dmul y0 (FP.l2d mx)) sc) (FP.ddiv (FP.dmul y1 (FP.l2d mi)) sc)) (FP.dmul y2 (FP.i2d mw))), sd, un] [])) K
  refine Wlk.of (fun _ k => XS.iconst X8.here hx rfl (hb hby d7_51) k) ?_
  show Wlk p.tables e below (T8.setTop (mkF m 52 #[rv a, dv (FP.dadd (FP.dsub (FP.ddiv (FP.dmul y0 (FP.l2d mx)) sc) (FP.ddiv (FP.dmul y1 (FP.l2d mi)) sc)) (FP.dmul y2 (FP.i2d mw))), sd, un] [(.int (0 : Int32))])) K
  refine Wlk.of (fun _ k => XS.istoreN X8.here hx rfl (hb hby d7_52) rfl (l' := #[rv a, dv (FP.dadd (FP.dsub (FP.ddiv (FP.dmul y0 (FP.l2d mx)) sc) (FP.ddiv (FP.dmul y1 (FP.l2d mi)) sc)) (FP.dmul y2 (FP.i2d mw))), sd, iv (0 : Int32)]) rfl k) ?_
  show Wlk p.tables e below (T8.setTop (mkF m 53 #[rv a, dv (FP.dadd (FP.dsub (FP.ddiv (FP.dmul y0 (FP.l2d mx)) sc) (FP.ddiv (FP.dmul y1 (FP.l2d mi)) sc)) (FP.dmul y2 (FP.i2d mw))), sd, iv (0 : Int32)] [])) K
  refine Wlk.of (fun _ k => XS.iloadN X8.here hx rfl (hb hby d7_53) rfl k) ?_
  show Wlk p.tables e below (T8.setTop (mkF m 54 #[rv a, dv (FP.dadd (FP.dsub (FP.ddiv (FP.dmul y0 (FP.l2d mx)) sc) (FP.ddiv (FP.dmul y1 (FP.l2d mi)) sc)) (FP.dmul y2 (FP.i2d mw))), sd, iv (0 : Int32)] [(.int (0 : Int32))])) K
  refine Wlk.of (fun _ k => XS.aloadN X8.here hx rfl (hb hby d7_54) rfl rfl k) ?_
  show Wlk p.tables e below (T8.setTop (mkF m 55 #[rv a, dv (FP.dadd (FP.dsub (FP.ddiv (FP.dmul y0 (FP.l2d mx)) sc) (FP.ddiv (FP.dmul y1 (FP.l2d mi)) sc)) (FP.dmul y2 (FP.i2d mw))), sd, iv (0 : Int32)] [(.ref a), (.int (0 : Int32))])) K
  obtain ⟨T9, X9, e9, st9⟩ := getF X8 hx hZ hown (host := "") (Or.inl (wd hw 20 rfl)) Via.refl e8 F_a_limits (g := (mkF m 55 #[rv a, dv (FP.dadd (FP.dsub (FP.ddiv (FP.dmul y0 (FP.l2d mx)) sc) (FP.ddiv (FP.dmul y1 (FP.l2d mi)) sc)) (FP.dmul y2 (FP.i2d mw))), sd, iv (0 : Int32)] [(.ref a), (.int (0 : Int32))])) rfl rfl (hb hby d7_55)
  refine Wlk.of (fun _ k => st9 _ k) ?_
  show Wlk p.tables e below (T9.setTop (mkF m 58 #[rv a, dv (FP.dadd (FP.dsub (FP.ddiv (FP.dmul y0 (FP.l2d mx)) sc) (FP.ddiv (FP.dmul y1 (FP.l2d mi)) sc)) (FP.dmul y2 (FP.i2d mw))), sd, iv (0 : Int32)] [(.ref lim), (.int (0 : Int32))])) K
  refine Wlk.of (fun _ k => lenL X9 hx hZ e9 A_lim (n := (2 : Int32)) rfl (g := (mkF m 58 #[rv a, dv (FP.dadd (FP.dsub (FP.ddiv (FP.dmul y0 (FP.l2d mx)) sc) (FP.ddiv (FP.dmul y1 (FP.l2d mi)) sc)) (FP.dmul y2 (FP.i2d mw))), sd, iv (0 : Int32)] [(.ref lim), (.int (0 : Int32))])) rfl rfl (hb hby d7_58) _ k) ?_
  show Wlk p.tables e below (T9.setTop (mkF m 59 #[rv a, dv (FP.dadd (FP.dsub (FP.ddiv (FP.dmul y0 (FP.l2d mx)) sc) (FP.ddiv (FP.dmul y1 (FP.l2d mi)) sc)) (FP.dmul y2 (FP.i2d mw))), sd, iv (0 : Int32)] [(.int (2 : Int32)), (.int (0 : Int32))])) K
  refine Wlk.of (fun _ k => XS.icmpNo X9.here hx rfl (hb hby d7_59) rfl (tlt (by decide : (0 : Int32) < (2 : Int32))).2.1 k) ?_
  show Wlk p.tables e below (T9.setTop (mkF m 62 #[rv a, dv (FP.dadd (FP.dsub (FP.ddiv (FP.dmul y0 (FP.l2d mx)) sc) (FP.ddiv (FP.dmul y1 (FP.l2d mi)) sc)) (FP.dmul y2 (FP.i2d mw))), sd, iv (0 : Int32)] [])) K
  refine Wlk.of (fun _ k => XS.dloadN X9.here hx rfl (hb hby d7_62) rfl k) ?_
  show Wlk p.tables e below (T9.setTop (mkF m 63 #[rv a, dv (FP.dadd (FP.dsub (FP.ddiv (FP.dmul y0 (FP.l2d mx)) sc) (FP.ddiv (FP.dmul y1 (FP.l2d mi)) sc)) (FP.dmul y2 (FP.i2d mw))), sd, iv (0 : Int32)] [(.double (FP.dadd (FP.dsub (FP.ddiv (FP.dmul y0 (FP.l2d mx)) sc) (FP.ddiv (FP.dmul y1 (FP.l2d mi)) sc)) (FP.dmul y2 (FP.i2d mw))))])) K
  refine Wlk.of (fun _ k => XS.aloadN X9.here hx rfl (hb hby d7_63) rfl rfl k) ?_
  show Wlk p.tables e below (T9.setTop (mkF m 64 #[rv a, dv (FP.dadd (FP.dsub (FP.ddiv (FP.dmul y0 (FP.l2d mx)) sc) (FP.ddiv (FP.dmul y1 (FP.l2d mi)) sc)) (FP.dmul y2 (FP.i2d mw))), sd, iv (0 : Int32)] [(.ref a), (.double (FP.dadd (FP.dsub (FP.ddiv (FP.dmul y0 (FP.l2d mx)) sc) (FP.ddiv (FP.dmul y1 (FP.l2d mi)) sc)) (FP.dmul y2 (FP.i2d mw))))])) K
  obtain ⟨T10, X10, e10, st10⟩ := getF X9 hx hZ hown (host := "") (Or.inl (wd hw 23 rfl)) Via.refl e9 F_a_price (g := (mkF m 64 #[rv a, dv (FP.dadd (FP.dsub (FP.ddiv (FP.dmul y0 (FP.l2d mx)) sc) (FP.ddiv (FP.dmul y1 (FP.l2d mi)) sc)) (FP.dmul y2 (FP.i2d mw))), sd, iv (0 : Int32)] [(.ref a), (.double (FP.dadd (FP.dsub (FP.ddiv (FP.dmul y0 (FP.l2d mx)) sc) (FP.ddiv (FP.dmul y1 (FP.l2d mi)) sc)) (FP.dmul y2 (FP.i2d mw))))])) rfl rfl (hb hby d7_64)
  refine Wlk.of (fun _ k => st10 _ k) ?_
  show Wlk p.tables e below (T10.setTop (mkF m 67 #[rv a, dv (FP.dadd (FP.dsub (FP.ddiv (FP.dmul y0 (FP.l2d mx)) sc) (FP.ddiv (FP.dmul y1 (FP.l2d mi)) sc)) (FP.dmul y2 (FP.i2d mw))), sd, iv (0 : Int32)] [(.ref pri), (.double (FP.dadd (FP.dsub (FP.ddiv (FP.dmul y0 (FP.l2d mx)) sc) (FP.ddiv (FP.dmul y1 (FP.l2d mi)) sc)) (FP.dmul y2 (FP.i2d mw))))])) K
  refine Wlk.of (fun _ k => XS.iconst X10.here hx rfl (hb hby d7_67) k) ?_
  show Wlk p.tables e below (T10.setTop (mkF m 68 #[rv a, dv (FP.dadd (FP.dsub (FP.ddiv (FP.dmul y0 (FP.l2d mx)) sc) (FP.ddiv (FP.dmul y1 (FP.l2d mi)) sc)) (FP.dmul y2 (FP.i2d mw))), sd, iv (0 : Int32)] [(.int (3 : Int32)), (.ref pri), (.double (FP.dadd (FP.dsub (FP.ddiv (FP.dmul y0 (FP.l2d mx)) sc) (FP.ddiv (FP.dmul y1 (FP.l2d mi)) sc)) (FP.dmul y2 (FP.i2d mw))))])) K
  refine Wlk.of (fun _ k => XS.iloadN X10.here hx rfl (hb hby d7_68) rfl k) ?_
  show Wlk p.tables e below (T10.setTop (mkF m 69 #[rv a, dv (FP.dadd (FP.dsub (FP.ddiv (FP.dmul y0 (FP.l2d mx)) sc) (FP.ddiv (FP.dmul y1 (FP.l2d mi)) sc)) (FP.dmul y2 (FP.i2d mw))), sd, iv (0 : Int32)] [(.int (0 : Int32)), (.int (3 : Int32)), (.ref pri), (.double (FP.dadd (FP.dsub (FP.ddiv (FP.dmul y0 (FP.l2d mx)) sc) (FP.ddiv (FP.dmul y1 (FP.l2d mi)) sc)) (FP.dmul y2 (FP.i2d mw))))])) K
  refine Wlk.of (fun _ k => XS.iadd X10.here hx rfl (hb hby d7_69) rfl k) ?_
  show Wlk p.tables e below (T10.setTop (mkF m 70 #[rv a, dv (FP.dadd (FP.dsub (FP.ddiv (FP.dmul y0 (FP.l2d mx)) sc) (FP.ddiv (FP.dmul y1 (FP.l2d mi)) sc)) (FP.dmul y2 (FP.i2d mw))), sd, iv (0 : Int32)] [(.int (3 : Int32)), (.ref pri), (.double (FP.dadd (FP.dsub (FP.ddiv (FP.dmul y0 (FP.l2d mx)) sc) (FP.ddiv (FP.dmul y1 (FP.l2d mi)) sc)) (FP.dmul y2 (FP.i2d mw))))])) K
  refine Wlk.of (fun _ k => ldD X10 hx hZ e10 A_pri (j := (3 : Int32)) (i := 3) (by decide) (by decide) rfl (g := (mkF m 70 #[rv a, dv (FP.dadd (FP.dsub (FP.ddiv (FP.dmul y0 (FP.l2d mx)) sc) (FP.ddiv (FP.dmul y1 (FP.l2d mi)) sc)) (FP.dmul y2 (FP.i2d mw))), sd, iv (0 : Int32)] [(.int (3 : Int32)), (.ref pri), (.double (FP.dadd (FP.dsub (FP.ddiv (FP.dmul y0 (FP.l2d mx)) sc) (FP.ddiv (FP.dmul y1 (FP.l2d mi)) sc)) (FP.dmul y2 (FP.i2d mw))))])) rfl rfl (hb hby d7_70) _ k) ?_
  show Wlk p.tables e below (T10.setTop (mkF m 71 #[rv a, dv (FP.dadd (FP.dsub (FP.ddiv (FP.dmul y0 (FP.l2d mx)) sc) (FP.ddiv (FP.dmul y1 (FP.l2d mi)) sc)) (FP.dmul y2 (FP.i2d mw))), sd, iv (0 : Int32)] [(.double y3), (.double (FP.dadd (FP.dsub (FP.ddiv (FP.dmul y0 (FP.l2d mx)) sc) (FP.ddiv (FP.dmul y1 (FP.l2d mi)) sc)) (FP.dmul y2 (FP.i2d mw))))])) K
  refine Wlk.of (fun _ k => XS.aloadN X10.here hx rfl (hb hby d7_71) rfl rfl k) ?_
  show Wlk p.tables e below (T10.setTop (mkF m 72 #[rv a, dv (FP.dadd (FP.dsub (FP.ddiv (FP.dmul y0 (FP.l2d mx)) sc) (FP.ddiv (FP.dmul y1 (FP.l2d mi)) sc)) (FP.dmul y2 (FP.i2d mw))), sd, iv (0 : Int32)] [(.ref a), (.double y3), (.double (FP.dadd (FP.dsub (FP.ddiv (FP.dmul y0 (FP.l2d mx)) sc) (FP.ddiv (FP.dmul y1 (FP.l2d mi)) sc)) (FP.dmul y2 (FP.i2d mw))))])) K
  obtain ⟨T11, X11, e11, st11⟩ := getF X10 hx hZ hown (host := "") (Or.inl (wd hw 20 rfl)) Via.refl e10 F_a_limits (g := (mkF m 72 #[rv a, dv (FP.dadd (FP.dsub (FP.ddiv (FP.dmul y0 (FP.l2d mx)) sc) (FP.ddiv (FP.dmul y1 (FP.l2d mi)) sc)) (FP.dmul y2 (FP.i2d mw))), sd, iv (0 : Int32)] [(.ref a), (.double y3), (.double (FP.dadd (FP.dsub (FP.ddiv (FP.dmul y0 (FP.l2d mx)) sc) (FP.ddiv (FP.dmul y1 (FP.l2d mi)) sc)) (FP.dmul y2 (FP.i2d mw))))])) rfl rfl (hb hby d7_72)
  refine Wlk.of (fun _ k => st11 _ k) ?_
  show Wlk p.tables e below (T11.setTop (mkF m 75 #[rv a, dv (FP.dadd (FP.dsub (FP.ddiv (FP.dmul y0 (FP.l2d mx)) sc) (FP.ddiv (FP.dmul y1 (FP.l2d mi)) sc)) (FP.dmul y2 (FP.i2d mw))), sd, iv (0 : Int32)] [(.ref lim), (.double y3), (.double (FP.dadd (FP.dsub (FP.ddiv (FP.dmul y0 (FP.l2d mx)) sc) (FP.ddiv (FP.dmul y1 (FP.l2d mi)) sc)) (FP.dmul y2 (FP.i2d mw))))])) K
  refine Wlk.of (fun _ k => XS.iloadN X11.here hx rfl (hb hby d7_75) rfl k) ?_
  show Wlk p.tables e below (T11.setTop (mkF m 76 #[rv a, dv (FP.dadd (FP.dsub (FP.ddiv (FP.dmul y0 (FP.l2d mx)) sc) (FP.ddiv (FP.dmul y1 (FP.l2d mi)) sc)) (FP.dmul y2 (FP.i2d mw))), sd, iv (0 : Int32)] [(.int (0 : Int32)), (.ref lim), (.double y3), (.double (FP.dadd (FP.dsub (FP.ddiv (FP.dmul y0 (FP.l2d mx)) sc) (FP.ddiv (FP.dmul y1 (FP.l2d mi)) sc)) (FP.dmul y2 (FP.i2d mw))))])) K
  refine Wlk.of (fun _ k => ldI X11 hx hZ e11 A_lim (j := (0 : Int32)) (i := 0) (by decide) (by decide) rfl (g := (mkF m 76 #[rv a, dv (FP.dadd (FP.dsub (FP.ddiv (FP.dmul y0 (FP.l2d mx)) sc) (FP.ddiv (FP.dmul y1 (FP.l2d mi)) sc)) (FP.dmul y2 (FP.i2d mw))), sd, iv (0 : Int32)] [(.int (0 : Int32)), (.ref lim), (.double y3), (.double (FP.dadd (FP.dsub (FP.ddiv (FP.dmul y0 (FP.l2d mx)) sc) (FP.ddiv (FP.dmul y1 (FP.l2d mi)) sc)) (FP.dmul y2 (FP.i2d mw))))])) rfl rfl (hb hby d7_76) _ k) ?_
  show Wlk p.tables e below (T11.setTop (mkF m 77 #[rv a, dv (FP.dadd (FP.dsub (FP.ddiv (FP.dmul y0 (FP.l2d mx)) sc) (FP.ddiv (FP.dmul y1 (FP.l2d mi)) sc)) (FP.dmul y2 (FP.i2d mw))), sd, iv (0 : Int32)] [(.int l0), (.double y3), (.double (FP.dadd (FP.dsub (FP.ddiv (FP.dmul y0 (FP.l2d mx)) sc) (FP.ddiv (FP.dmul y1 (FP.l2d mi)) sc)) (FP.dmul y2 (FP.i2d mw))))])) K
  refine Wlk.of (fun _ k => XS.i2dS X11.here hx rfl (hb hby d7_77) rfl rfl k) ?_
  show Wlk p.tables e below (T11.setTop (mkF m 78 #[rv a, dv (FP.dadd (FP.dsub (FP.ddiv (FP.dmul y0 (FP.l2d mx)) sc) (FP.ddiv (FP.dmul y1 (FP.l2d mi)) sc)) (FP.dmul y2 (FP.i2d mw))), sd, iv (0 : Int32)] [(.double (FP.i2d l0)), (.double y3), (.double (FP.dadd (FP.dsub (FP.ddiv (FP.dmul y0 (FP.l2d mx)) sc) (FP.ddiv (FP.dmul y1 (FP.l2d mi)) sc)) (FP.dmul y2 (FP.i2d mw))))])) K
  refine Wlk.of (fun _ k => XS.dmulS X11.here hx rfl (hb hby d7_78) rfl n78_0 rfl k) ?_
  show Wlk p.tables e below (T11.setTop (mkF m 79 #[rv a, dv (FP.dadd (FP.dsub (FP.ddiv (FP.dmul y0 (FP.l2d mx)) sc) (FP.ddiv (FP.dmul y1 (FP.l2d mi)) sc)) (FP.dmul y2 (FP.i2d mw))), sd, iv (0 : Int32)] [(.double (FP.dmul y3 (FP.i2d l0))), (.double (FP.dadd (FP.dsub (FP.ddiv (FP.dmul y0 (FP.l2d mx)) sc) (FP.ddiv (FP.dmul y1 (FP.l2d mi)) sc)) (FP.dmul y2 (FP.i2d mw))))])) K
  refine Wlk.of (fun _ k => XS.daddS X11.here hx rfl (hb hby d7_79) rfl n79_0 rfl k) ?_
  show Wlk p.tables e below (T11.setTop (mkF m 80 #[rv a, dv (FP.dadd (FP.dsub (FP.ddiv (FP.dmul y0 (FP.l2d mx)) sc) (FP.ddiv (FP.dmul y1 (FP.l2d mi)) sc)) (FP.dmul y2 (FP.i2d mw))), sd, iv (0 : Int32)] [(.double (FP.dadd (FP.dadd (FP.dsub (FP.ddiv (FP.dmul y0 (FP.l2d mx)) sc) (FP.ddiv (FP.dmul y1 (FP.l2d mi)) sc)) (FP.dmul y2 (FP.i2d mw))) (FP.dmul y3 (FP.i2d l0))))])) K
  refine Wlk.of (fun _ k => XS.dstoreN X11.here hx rfl (hb hby d7_80) rfl (l' := #[rv a, dv (FP.dadd (FP.dadd (FP.dsub (FP.ddiv (FP.dmul y0 (FP.l2d mx)) sc) (FP.ddiv (FP.dmul y1 (FP.l2d mi)) sc)) (FP.dmul y2 (FP.i2d mw))) (FP.dmul y3 (FP.i2d l0))), sd, iv (0 : Int32)]) rfl k) ?_
  show Wlk p.tables e below (T11.setTop (mkF m 81 #[rv a, dv (FP.dadd (FP.dadd (FP.dsub (FP.ddiv (FP.dmul y0 (FP.l2d mx)) sc) (FP.ddiv (FP.dmul y1 (FP.l2d mi)) sc)) (FP.dmul y2 (FP.i2d mw))) (FP.dmul y3 (FP.i2d l0))), sd, iv (0 : Int32)] [])) K
  refine Wlk.of (fun _ k => XS.iinc X11.here hx rfl (hb hby d7_81) rfl (l' := #[rv a, dv (FP.dadd (FP.dadd (FP.dsub (FP.ddiv (FP.dmul y0 (FP.l2d mx)) sc) (FP.ddiv (FP.dmul y1 (FP.l2d mi)) sc)) (FP.dmul y2 (FP.i2d mw))) (FP.dmul y3 (FP.i2d l0))), sd, iv (1 : Int32)]) rfl k) ?_
  show Wlk p.tables e below (T11.setTop (mkF m 84 #[rv a, dv (FP.dadd (FP.dadd (FP.dsub (FP.ddiv (FP.dmul y0 (FP.l2d mx)) sc) (FP.ddiv (FP.dmul y1 (FP.l2d mi)) sc)) (FP.dmul y2 (FP.i2d mw))) (FP.dmul y3 (FP.i2d l0))), sd, iv (1 : Int32)] [])) K
  refine Wlk.of (fun _ k => XS.goto X11.here hx rfl (pc0 := 84) (pc' := 53) rfl (hb hby d7_84) (by decide) (by decide) k) ?_
  show Wlk p.tables e below (T11.setTop (mkF m 53 #[rv a, dv (FP.dadd (FP.dadd (FP.dsub (FP.ddiv (FP.dmul y0 (FP.l2d mx)) sc) (FP.ddiv (FP.dmul y1 (FP.l2d mi)) sc)) (FP.dmul y2 (FP.i2d mw))) (FP.dmul y3 (FP.i2d l0))), sd, iv (1 : Int32)] [])) K
  refine Wlk.of (fun _ k => XS.iloadN X11.here hx rfl (hb hby d7_53) rfl k) ?_
  show Wlk p.tables e below (T11.setTop (mkF m 54 #[rv a, dv (FP.dadd (FP.dadd (FP.dsub (FP.ddiv (FP.dmul y0 (FP.l2d mx)) sc) (FP.ddiv (FP.dmul y1 (FP.l2d mi)) sc)) (FP.dmul y2 (FP.i2d mw))) (FP.dmul y3 (FP.i2d l0))), sd, iv (1 : Int32)] [(.int (1 : Int32))])) K
  refine Wlk.of (fun _ k => XS.aloadN X11.here hx rfl (hb hby d7_54) rfl rfl k) ?_
  show Wlk p.tables e below (T11.setTop (mkF m 55 #[rv a, dv (FP.dadd (FP.dadd (FP.dsub (FP.ddiv (FP.dmul y0 (FP.l2d mx)) sc) (FP.ddiv (FP.dmul y1 (FP.l2d mi)) sc)) (FP.dmul y2 (FP.i2d mw))) (FP.dmul y3 (FP.i2d l0))), sd, iv (1 : Int32)] [(.ref a), (.int (1 : Int32))])) K
  obtain ⟨T12, X12, e12, st12⟩ := getF X11 hx hZ hown (host := "") (Or.inl (wd hw 20 rfl)) Via.refl e11 F_a_limits (g := (mkF m 55 #[rv a, dv (FP.dadd (FP.dadd (FP.dsub (FP.ddiv (FP.dmul y0 (FP.l2d mx)) sc) (FP.ddiv (FP.dmul y1 (FP.l2d mi)) sc)) (FP.dmul y2 (FP.i2d mw))) (FP.dmul y3 (FP.i2d l0))), sd, iv (1 : Int32)] [(.ref a), (.int (1 : Int32))])) rfl rfl (hb hby d7_55)
  refine Wlk.of (fun _ k => st12 _ k) ?_
  show Wlk p.tables e below (T12.setTop (mkF m 58 #[rv a, dv (FP.dadd (FP.dadd (FP.dsub (FP.ddiv (FP.dmul y0 (FP.l2d mx)) sc) (FP.ddiv (FP.dmul y1 (FP.l2d mi)) sc)) (FP.dmul y2 (FP.i2d mw))) (FP.dmul y3 (FP.i2d l0))), sd, iv (1 : Int32)] [(.ref lim), (.int (1 : Int32))])) K
  refine Wlk.of (fun _ k => lenL X12 hx hZ e12 A_lim (n := (2 : Int32)) rfl (g := (mkF m 58 #[rv a, dv (FP.dadd (FP.dadd (FP.dsub (FP.ddiv (FP.dmul y0 (FP.l2d mx)) sc) (FP.ddiv (FP.dmul y1 (FP.l2d mi)) sc)) (FP.dmul y2 (FP.i2d mw))) (FP.dmul y3 (FP.i2d l0))), sd, iv (1 : Int32)] [(.ref lim), (.int (1 : Int32))])) rfl rfl (hb hby d7_58) _ k) ?_
  show Wlk p.tables e below (T12.setTop (mkF m 59 #[rv a, dv (FP.dadd (FP.dadd (FP.dsub (FP.ddiv (FP.dmul y0 (FP.l2d mx)) sc) (FP.ddiv (FP.dmul y1 (FP.l2d mi)) sc)) (FP.dmul y2 (FP.i2d mw))) (FP.dmul y3 (FP.i2d l0))), sd, iv (1 : Int32)] [(.int (2 : Int32)), (.int (1 : Int32))])) K
  refine Wlk.of (fun _ k => XS.icmpNo X12.here hx rfl (hb hby d7_59) rfl (tlt (by decide : (1 : Int32) < (2 : Int32))).2.1 k) ?_
  show Wlk p.tables e below (T12.setTop (mkF m 62 #[rv a, dv (FP.dadd (FP.dadd (FP.dsub (FP.ddiv (FP.dmul y0 (FP.l2d mx)) sc) (FP.ddiv (FP.dmul y1 (FP.l2d mi)) sc)) (FP.dmul y2 (FP.i2d mw))) (FP.dmul y3 (FP.i2d l0))), sd, iv (1 : Int32)] [])) K
  refine Wlk.of (fun _ k => XS.dloadN X12.here hx rfl (hb hby d7_62) rfl k) ?_
  show Wlk p.tables e below (T12.setTop (mkF m 63 #[rv a, dv (FP.dadd (FP.dadd (FP.dsub (FP.ddiv (FP.dmul y0 (FP.l2d mx)) sc) (FP.ddiv (FP.dmul y1 (FP.l2d mi)) sc)) (FP.dmul y2 (FP.i2d mw))) (FP.dmul y3 (FP.i2d l0))), sd, iv (1 : Int32)] [(.double (FP.dadd (FP.dadd (FP.dsub (FP.ddiv (FP.dmul y0 (FP.l2d mx)) sc) (FP.ddiv (FP.dmul y1 (FP.l2d mi)) sc)) (FP.dmul y2 (FP.i2d mw))) (FP.dmul y3 (FP.i2d l0))))])) K
  refine Wlk.of (fun _ k => XS.aloadN X12.here hx rfl (hb hby d7_63) rfl rfl k) ?_
  show Wlk p.tables e below (T12.setTop (mkF m 64 #[rv a, dv (FP.dadd (FP.dadd (FP.dsub (FP.ddiv (FP.dmul y0 (FP.l2d mx)) sc) (FP.ddiv (FP.dmul y1 (FP.l2d mi)) sc)) (FP.dmul y2 (FP.i2d mw))) (FP.dmul y3 (FP.i2d l0))), sd, iv (1 : Int32)] [(.ref a), (.double (FP.dadd (FP.dadd (FP.dsub (FP.ddiv (FP.dmul y0 (FP.l2d mx)) sc) (FP.ddiv (FP.dmul y1 (FP.l2d mi)) sc)) (FP.dmul y2 (FP.i2d mw))) (FP.dmul y3 (FP.i2d l0))))])) K
  obtain ⟨T13, X13, e13, st13⟩ := getF X12 hx hZ hown (host := "") (Or.inl (wd hw 23 rfl)) Via.refl e12 F_a_price (g := (mkF m 64 #[rv a, dv (FP.dadd (FP.dadd (FP.dsub (FP.ddiv (FP.dmul y0 (FP.l2d mx)) sc) (FP.ddiv (FP.dmul y1 (FP.l2d mi)) sc)) (FP.dmul y2 (FP.i2d mw))) (FP.dmul y3 (FP.i2d l0))), sd, iv (1 : Int32)] [(.ref a), (.double (FP.dadd (FP.dadd (FP.dsub (FP.ddiv (FP.dmul y0 (FP.l2d mx)) sc) (FP.ddiv (FP.dmul y1 (FP.l2d mi)) sc)) (FP.dmul y2 (FP.i2d mw))) (FP.dmul y3 (FP.i2d l0))))])) rfl rfl (hb hby d7_64)
  refine Wlk.of (fun _ k => st13 _ k) ?_
  show Wlk p.tables e below (T13.setTop (mkF m 67 #[rv a, dv (FP.dadd (FP.dadd (FP.dsub (FP.ddiv (FP.dmul y0 (FP.l2d mx)) sc) (FP.ddiv (FP.dmul y1 (FP.l2d mi)) sc)) (FP.dmul y2 (FP.i2d mw))) (FP.dmul y3 (FP.i2d l0))), sd, iv (1 : Int32)] [(.ref pri), (.double (FP.dadd (FP.dadd (FP.dsub (FP.ddiv (FP.dmul y0 (FP.l2d mx)) sc) (FP.ddiv (FP.dmul y1 (FP.l2d mi)) sc)) (FP.dmul y2 (FP.i2d mw))) (FP.dmul y3 (FP.i2d l0))))])) K
  refine Wlk.of (fun _ k => XS.iconst X13.here hx rfl (hb hby d7_67) k) ?_
  show Wlk p.tables e below (T13.setTop (mkF m 68 #[rv a, dv (FP.dadd (FP.dadd (FP.dsub (FP.ddiv (FP.dmul y0 (FP.l2d mx)) sc) (FP.ddiv (FP.dmul y1 (FP.l2d mi)) sc)) (FP.dmul y2 (FP.i2d mw))) (FP.dmul y3 (FP.i2d l0))), sd, iv (1 : Int32)] [(.int (3 : Int32)), (.ref pri), (.double (FP.dadd (FP.dadd (FP.dsub (FP.ddiv (FP.dmul y0 (FP.l2d mx)) sc) (FP.ddiv (FP.dmul y1 (FP.l2d mi)) sc)) (FP.dmul y2 (FP.i2d mw))) (FP.dmul y3 (FP.i2d l0))))])) K
  refine Wlk.of (fun _ k => XS.iloadN X13.here hx rfl (hb hby d7_68) rfl k) ?_
  show Wlk p.tables e below (T13.setTop (mkF m 69 #[rv a, dv (FP.dadd (FP.dadd (FP.dsub (FP.ddiv (FP.dmul y0 (FP.l2d mx)) sc) (FP.ddiv (FP.dmul y1 (FP.l2d mi)) sc)) (FP.dmul y2 (FP.i2d mw))) (FP.dmul y3 (FP.i2d l0))), sd, iv (1 : Int32)] [(.int (1 : Int32)), (.int (3 : Int32)), (.ref pri), (.double (FP.dadd (FP.dadd (FP.dsub (FP.ddiv (FP.dmul y0 (FP.l2d mx)) sc) (FP.ddiv (FP.dmul y1 (FP.l2d mi)) sc)) (FP.dmul y2 (FP.i2d mw))) (FP.dmul y3 (FP.i2d l0))))])) K
  refine Wlk.of (fun _ k => XS.iadd X13.here hx rfl (hb hby d7_69) rfl k) ?_
  show Wlk p.tables e below (T13.setTop (mkF m 70 #[rv a, dv (FP.dadd (FP.dadd (FP.dsub (FP.ddiv (FP.dmul y0 (FP.l2d mx)) sc) (FP.ddiv (FP.dmul y1 (FP.l2d mi)) sc)) (FP.dmul y2 (FP.i2d mw))) (FP.dmul y3 (FP.i2d l0))), sd, iv (1 : Int32)] [(.int (4 : Int32)), (.ref pri), (.double (FP.dadd (FP.dadd (FP.dsub (FP.ddiv (FP.dmul y0 (FP.l2d mx)) sc) (FP.ddiv (FP.dmul y1 (FP.l2d mi)) sc)) (FP.dmul y2 (FP.i2d mw))) (FP.dmul y3 (FP.i2d l0))))])) K
  refine Wlk.of (fun _ k => ldD X13 hx hZ e13 A_pri (j := (4 : Int32)) (i := 4) (by decide) (by decide) rfl (g := (mkF m 70 #[rv a, dv (FP.dadd (FP.dadd (FP.dsub (FP.ddiv (FP.dmul y0 (FP.l2d mx)) sc) (FP.ddiv (FP.dmul y1 (FP.l2d mi)) sc)) (FP.dmul y2 (FP.i2d mw))) (FP.dmul y3 (FP.i2d l0))), sd, iv (1 : Int32)] [(.int (4 : Int32)), (.ref pri), (.double (FP.dadd (FP.dadd (FP.dsub (FP.ddiv (FP.dmul y0 (FP.l2d mx)) sc) (FP.ddiv (FP.dmul y1 (FP.l2d mi)) sc)) (FP.dmul y2 (FP.i2d mw))) (FP.dmul y3 (FP.i2d l0))))])) rfl rfl (hb hby d7_70) _ k) ?_
  show Wlk p.tables e below (T13.setTop (mkF m 71 #[rv a, dv (FP.dadd (FP.dadd (FP.dsub (FP.ddiv (FP.dmul y0 (FP.l2d mx)) sc) (FP.ddiv (FP.dmul y1 (FP.l2d mi)) sc)) (FP.dmul y2 (FP.i2d mw))) (FP.dmul y3 (FP.i2d l0))), sd, iv (1 : Int32)] [(.double y4), (.double (FP.dadd (FP.dadd (FP.dsub (FP.ddiv (FP.dmul y0 (FP.l2d mx)) sc) (FP.ddiv (FP.dmul y1 (FP.l2d mi)) sc)) (FP.dmul y2 (FP.i2d mw))) (FP.dmul y3 (FP.i2d l0))))])) K
  refine Wlk.of (fun _ k => XS.aloadN X13.here hx rfl (hb hby d7_71) rfl rfl k) ?_
  show Wlk p.tables e below (T13.setTop (mkF m 72 #[rv a, dv (FP.dadd (FP.dadd (FP.dsub (FP.ddiv (FP.dmul y0 (FP.l2d mx)) sc) (FP.ddiv (FP.dmul y1 (FP.l2d mi)) sc)) (FP.dmul y2 (FP.i2d mw))) (FP.dmul y3 (FP.i2d l0))), sd, iv (1 : Int32)] [(.ref a), (.double y4), (.double (FP.dadd (FP.dadd (FP.dsub (FP.ddiv (FP.dmul y0 (FP.l2d mx)) sc) (FP.ddiv (FP.dmul y1 (FP.l2d mi)) sc)) (FP.dmul y2 (FP.i2d mw))) (FP.dmul y3 (FP.i2d l0))))])) K
  obtain ⟨T14, X14, e14, st14⟩ := getF X13 hx hZ hown (host := "") (Or.inl (wd hw 20 rfl)) Via.refl e13 F_a_limits (g := (mkF m 72 #[rv a, dv (FP.dadd (FP.dadd (FP.dsub (FP.ddiv (FP.dmul y0 (FP.l2d mx)) sc) (FP.ddiv (FP.dmul y1 (FP.l2d mi)) sc)) (FP.dmul y2 (FP.i2d mw))) (FP.dmul y3 (FP.i2d l0))), sd, iv (1 : Int32)] [(.ref a), (.double y4), (.double (FP.dadd (FP.dadd (FP.dsub (FP.ddiv (FP.dmul y0 (FP.l2d mx)) sc) (FP.ddiv (FP.dmul y1 (FP.l2d mi)) sc)) (FP.dmul y2 (FP.i2d mw))) (FP.dmul y3 (FP.i2d l0))))])) rfl rfl (hb hby d7_72)
  refine Wlk.of (fun _ k => st14 _ k) ?_
  show Wlk p.tables e below (T14.setTop (mkF m 75 #[rv a, dv (FP.dadd (FP.dadd (FP.dsub (FP.ddiv (FP.dmul y0 (FP.l2d mx)) sc) (FP.ddiv (FP.dmul y1 (FP.l2d mi)) sc)) (FP.dmul y2 (FP.i2d mw))) (FP.dmul y3 (FP.i2d l0))), sd, iv (1 : Int32)] [(.ref lim), (.double y4), (.double (FP.dadd (FP.dadd (FP.dsub (FP.ddiv (FP.dmul y0 (FP.l2d mx)) sc) (FP.ddiv (FP.dmul y1 (FP.l2d mi)) sc)) (FP.dmul y2 (FP.i2d mw))) (FP.dmul y3 (FP.i2d l0))))])) K
  refine Wlk.of (fun _ k => XS.iloadN X14.here hx rfl (hb hby d7_75) rfl k) ?_
  show Wlk p.tables e below (T14.setTop (mkF m 76 #[rv a, dv (FP.dadd (FP.dadd (FP.dsub (FP.ddiv (FP.dmul y0 (FP.l2d mx)) sc) (FP.ddiv (FP.dmul y1 (FP.l2d mi)) sc)) (FP.dmul y2 (FP.i2d mw))) (FP.dmul y3 (FP.i2d l0))), sd, iv (1 : Int32)] [(.int (1 : Int32)), (.ref lim), (.double y4), (.double (FP.dadd (FP.dadd (FP.dsub (FP.ddiv (FP.dmul y0 (FP.l2d mx)) sc) (FP.ddiv (FP.dmul y1 (FP.l2d mi)) sc)) (FP.dmul y2 (FP.i2d mw))) (FP.dmul y3 (FP.i2d l0))))])) K
  refine Wlk.of (fun _ k => ldI X14 hx hZ e14 A_lim (j := (1 : Int32)) (i := 1) (by decide) (by decide) rfl (g := (mkF m 76 #[rv a, dv (FP.dadd (FP.dadd (FP.dsub (FP.ddiv (FP.dmul y0 (FP.l2d mx)) sc) (FP.ddiv (FP.dmul y1 (FP.l2d mi)) sc)) (FP.dmul y2 (FP.i2d mw))) (FP.dmul y3 (FP.i2d l0))), sd, iv (1 : Int32)] [(.int (1 : Int32)), (.ref lim), (.double y4), (.double (FP.dadd (FP.dadd (FP.dsub (FP.ddiv (FP.dmul y0 (FP.l2d mx)) sc) (FP.ddiv (FP.dmul y1 (FP.l2d mi)) sc)) (FP.dmul y2 (FP.i2d mw))) (FP.dmul y3 (FP.i2d l0))))])) rfl rfl (hb hby d7_76) _ k) ?_
  show Wlk p.tables e below (T14.setTop (mkF m 77 #[rv a, dv (FP.dadd (FP.dadd (FP.dsub (FP.ddiv (FP.dmul y0 (FP.l2d mx)) sc) (FP.ddiv (FP.dmul y1 (FP.l2d mi)) sc)) (FP.dmul y2 (FP.i2d mw))) (FP.dmul y3 (FP.i2d l0))), sd, iv (1 : Int32)] [(.int l1), (.double y4), (.double (FP.dadd (FP.dadd (FP.dsub (FP.ddiv (FP.dmul y0 (FP.l2d mx)) sc) (FP.ddiv (FP.dmul y1 (FP.l2d mi)) sc)) (FP.dmul y2 (FP.i2d mw))) (FP.dmul y3 (FP.i2d l0))))])) K
  refine Wlk.of (fun _ k => XS.i2dS X14.here hx rfl (hb hby d7_77) rfl rfl k) ?_
  show Wlk p.tables e below (T14.setTop (mkF m 78 #[rv a, dv (FP.dadd (FP.dadd (FP.dsub (FP.ddiv (FP.dmul y0 (FP.l2d mx)) sc) (FP.ddiv (FP.dmul y1 (FP.l2d mi)) sc)) (FP.dmul y2 (FP.i2d mw))) (FP.dmul y3 (FP.i2d l0))), sd, iv (1 : Int32)] [(.double (FP.i2d l1)), (.double y4), (.double (FP.dadd (FP.dadd (FP.dsub (FP.ddiv (FP.dmul y0 (FP.l2d mx)) sc) (FP.ddiv (FP.dmul y1 (FP.l2d mi)) sc)) (FP.dmul y2 (FP.i2d mw))) (FP.dmul y3 (FP.i2d l0))))])) K
  refine Wlk.of (fun _ k => XS.dmulS X14.here hx rfl (hb hby d7_78) rfl n78_1 rfl k) ?_
  show Wlk p.tables e below (T14.setTop (mkF m 79 #[rv a, dv (FP.dadd (FP.dadd (FP.dsub (FP.ddiv (FP.dmul y0 (FP.l2d mx)) sc) (FP.ddiv (FP.dmul y1 (FP.l2d mi)) sc)) (FP.dmul y2 (FP.i2d mw))) (FP.dmul y3 (FP.i2d l0))), sd, iv (1 : Int32)] [(.double (FP.dmul y4 (FP.i2d l1))), (.double (FP.dadd (FP.dadd (FP.dsub (FP.ddiv (FP.dmul y0 (FP.l2d mx)) sc) (FP.ddiv (FP.dmul y1 (FP.l2d mi)) sc)) (FP.dmul y2 (FP.i2d mw))) (FP.dmul y3 (FP.i2d l0))))])) K
  refine Wlk.of (fun _ k => XS.daddS X14.here hx rfl (hb hby d7_79) rfl n79_1 rfl k) ?_
  show Wlk p.tables e below (T14.setTop (mkF m 80 #[rv a, dv (FP.dadd (FP.dadd (FP.dsub (FP.ddiv (FP.dmul y0 (FP.l2d mx)) sc) (FP.ddiv (FP.dmul y1 (FP.l2d mi)) sc)) (FP.dmul y2 (FP.i2d mw))) (FP.dmul y3 (FP.i2d l0))), sd, iv (1 : Int32)] [(.double (FP.dadd (FP.dadd (FP.dadd (FP.dsub (FP.ddiv (FP.dmul y0 (FP.l2d mx)) sc) (FP.ddiv (FP.dmul y1 (FP.l2d mi)) sc)) (FP.dmul y2 (FP.i2d mw))) (FP.dmul y3 (FP.i2d l0))) (FP.dmul y4 (FP.i2d l1))))])) K
  refine Wlk.of (fun _ k => XS.dstoreN X14.here hx rfl (hb hby d7_80) rfl (l' := #[rv a, dv (FP.dadd (FP.dadd (FP.dadd (FP.dsub (FP.ddiv (FP.dmul y0 (FP.l2d mx)) sc) (FP.ddiv (FP.dmul y1 (FP.l2d mi)) sc)) (FP.dmul y2 (FP.i2d mw))) (FP.dmul y3 (FP.i2d l0))) (FP.dmul y4 (FP.i2d l1))), sd, iv (1 : Int32)]) rfl k) ?_
  show Wlk p.tables e below (T14.setTop (mkF m 81 #[rv a, dv (FP.dadd (FP.dadd (FP.dadd (FP.dsub (FP.ddiv (FP.dmul y0 (FP.l2d mx)) sc) (FP.ddiv (FP.dmul y1 (FP.l2d mi)) sc)) (FP.dmul y2 (FP.i2d mw))) (FP.dmul y3 (FP.i2d l0))) (FP.dmul y4 (FP.i2d l1))), sd, iv (1 : Int32)] [])) K
  refine Wlk.of (fun _ k => XS.iinc X14.here hx rfl (hb hby d7_81) rfl (l' := #[rv a, dv (FP.dadd (FP.dadd (FP.dadd (FP.dsub (FP.ddiv (FP.dmul y0 (FP.l2d mx)) sc) (FP.ddiv (FP.dmul y1 (FP.l2d mi)) sc)) (FP.dmul y2 (FP.i2d mw))) (FP.dmul y3 (FP.i2d l0))) (FP.dmul y4 (FP.i2d l1))), sd, iv (2 : Int32)]) rfl k) ?_
  show Wlk p.tables e below (T14.setTop (mkF m 84 #[rv a, dv (FP.dadd (FP.dadd (FP.dadd (FP.dsub (FP.ddiv (FP.dmul y0 (FP.l2d mx)) sc) (FP.ddiv (FP.dmul y1 (FP.l2d mi)) sc)) (FP.dmul y2 (FP.i2d mw))) (FP.dmul y3 (FP.i2d l0))) (FP.dmul y4 (FP.i2d l1))), sd, iv (2 : Int32)] [])) K
  refine Wlk.of (fun _ k => XS.goto X14.here hx rfl (pc0 := 84) (pc' := 53) rfl (hb hby d7_84) (by decide) (by decide) k) ?_
  show Wlk p.tables e below (T14.setTop (mkF m 53 #[rv a, dv (FP.dadd (FP.dadd (FP.dadd (FP.dsub (FP.ddiv (FP.dmul y0 (FP.l2d mx)) sc) (FP.ddiv (FP.dmul y1 (FP.l2d mi)) sc)) (FP.dmul y2 (FP.i2d mw))) (FP.dmul y3 (FP.i2d l0))) (FP.dmul y4 (FP.i2d l1))), sd, iv (2 : Int32)] [])) K
  refine Wlk.of (fun _ k => XS.iloadN X14.here hx rfl (hb hby d7_53) rfl k) ?_
  show Wlk p.tables e below (T14.setTop (mkF m 54 #[rv a, dv (FP.dadd (FP.dadd (FP.dadd (FP.dsub (FP.ddiv (FP.dmul y0 (FP.l2d mx)) sc) (FP.ddiv (FP.dmul y1 (FP.l2d mi)) sc)) (FP.dmul y2 (FP.i2d mw))) (FP.dmul y3 (FP.i2d l0))) (FP.dmul y4 (FP.i2d l1))), sd, iv (2 : Int32)] [(.int (2 : Int32))])) K
  refine Wlk.of (fun _ k => XS.aloadN X14.here hx rfl (hb hby d7_54) rfl rfl k) ?_
  show Wlk p.tables e below (T14.setTop (mkF m 55 #[rv a, dv (FP.dadd (FP.dadd (FP.dadd (FP.dsub (FP.ddiv (FP.dmul y0 (FP.l2d mx)) sc) (FP.ddiv (FP.dmul y1 (FP.l2d mi)) sc)) (FP.dmul y2 (FP.i2d mw))) (FP.dmul y3 (FP.i2d l0))) (FP.dmul y4 (FP.i2d l1))), sd, iv (2 : Int32)] [(.ref a), (.int (2 : Int32))])) K
  obtain ⟨T15, X15, e15, st15⟩ := getF X14 hx hZ hown (host := "") (Or.inl (wd hw 20 rfl)) Via.refl e14 F_a_limits (g := (mkF m 55 #[rv a, dv (FP.dadd (FP.dadd (FP.dadd (FP.dsub (FP.ddiv (FP.dmul y0 (FP.l2d mx)) sc) (FP.ddiv (FP.dmul y1 (FP.l2d mi)) sc)) (FP.dmul y2 (FP.i2d mw))) (FP.dmul y3 (FP.i2d l0))) (FP.dmul y4 (FP.i2d l1))), sd, iv (2 : Int32)] [(.ref a), (.int (2 : Int32))])) rfl rfl (hb hby d7_55)
  refine Wlk.of (fun _ k => st15 _ k) ?_
  show Wlk p.tables e below (T15.setTop (mkF m 58 #[rv a, dv (FP.dadd (FP.dadd (FP.dadd (FP.dsub (FP.ddiv (FP.dmul y0 (FP.l2d mx)) sc) (FP.ddiv (FP.dmul y1 (FP.l2d mi)) sc)) (FP.dmul y2 (FP.i2d mw))) (FP.dmul y3 (FP.i2d l0))) (FP.dmul y4 (FP.i2d l1))), sd, iv (2 : Int32)] [(.ref lim), (.int (2 : Int32))])) K
  refine Wlk.of (fun _ k => lenL X15 hx hZ e15 A_lim (n := (2 : Int32)) rfl (g := (mkF m 58 #[rv a, dv (FP.dadd (FP.dadd (FP.dadd (FP.dsub (FP.ddiv (FP.dmul y0 (FP.l2d mx)) sc) (FP.ddiv (FP.dmul y1 (FP.l2d mi)) sc)) (FP.dmul y2 (FP.i2d mw))) (FP.dmul y3 (FP.i2d l0))) (FP.dmul y4 (FP.i2d l1))), sd, iv (2 : Int32)] [(.ref lim), (.int (2 : Int32))])) rfl rfl (hb hby d7_58) _ k) ?_
  show Wlk p.tables e below (T15.setTop (mkF m 59 #[rv a, dv (FP.dadd (FP.dadd (FP.dadd (FP.dsub (FP.ddiv (FP.dmul y0 (FP.l2d mx)) sc) (FP.ddiv (FP.dmul y1 (FP.l2d mi)) sc)) (FP.dmul y2 (FP.i2d mw))) (FP.dmul y3 (FP.i2d l0))) (FP.dmul y4 (FP.i2d l1))), sd, iv (2 : Int32)] [(.int (2 : Int32)), (.int (2 : Int32))])) K
  refine Wlk.of (fun _ k => XS.icmpYes X15.here hx rfl (pc0 := 59) (pc' := 87) rfl (hb hby d7_59) rfl (flt (by decide : ¬ ((2 : Int32) < (2 : Int32)))).2.1 (by decide) (by decide) k) ?_
  show Wlk p.tables e below (T15.setTop (mkF m 87 #[rv a, dv (FP.dadd (FP.dadd (FP.dadd (FP.dsub (FP.ddiv (FP.dmul y0 (FP.l2d mx)) sc) (FP.ddiv (FP.dmul y1 (FP.l2d mi)) sc)) (FP.dmul y2 (FP.i2d mw))) (FP.dmul y3 (FP.i2d l0))) (FP.dmul y4 (FP.i2d l1))), sd, iv (2 : Int32)] [])) K
  refine Wlk.of (fun _ k => XS.dloadN X15.here hx rfl (hb hby d7_87) rfl k) ?_
  show Wlk p.tables e below (T15.setTop (mkF m 88 #[rv a, dv (FP.dadd (FP.dadd (FP.dadd (FP.dsub (FP.ddiv (FP.dmul y0 (FP.l2d mx)) sc) (FP.ddiv (FP.dmul y1 (FP.l2d mi)) sc)) (FP.dmul y2 (FP.i2d mw))) (FP.dmul y3 (FP.i2d l0))) (FP.dmul y4 (FP.i2d l1))), sd, iv (2 : Int32)] [(.double (FP.dadd (FP.dadd (FP.dadd (FP.dsub (FP.ddiv (FP.dmul y0 (FP.l2d mx)) sc) (FP.ddiv (FP.dmul y1 (FP.l2d mi)) sc)) (FP.dmul y2 (FP.i2d mw))) (FP.dmul y3 (FP.i2d l0))) (FP.dmul y4 (FP.i2d l1))))])) K
  refine hK (some (.double (FP.dadd (FP.dadd (FP.dadd (FP.dsub (FP.ddiv (FP.dmul y0 (FP.l2d mx)) sc) (FP.ddiv (FP.dmul y1 (FP.l2d mi)) sc)) (FP.dmul y2 (FP.i2d mw))) (FP.dmul y3 (FP.i2d l0))) (FP.dmul y4 (FP.i2d l1))))) X15 (fun q => by cases q) (fun fs hr => retOut X15 hx hret rfl (Or.inr (Or.inr (Or.inl ⟨rfl, rfl, _, rfl⟩))) (hb hby d7_88) hr) ?_ (by decide) (by decide)
  rw [show T15.heap = h0 from e15]
  exact ⟨rfl, N0, rfl⟩
theorem pd_429 : parseMethodDescriptor "(DJJI[I)V" = some ⟨[.double, .long, .long, .int, (.array .int)], none⟩ := by decide +kernel
theorem pd_430 : parseMethodDescriptor "(Z)V" = some ⟨[.boolean], none⟩ := by decide +kernel
theorem pd_431 : parseMethodDescriptor "(D)V" = some ⟨[.double], none⟩ := by decide +kernel
theorem pd_432 : parseMethodDescriptor "(JI[I)V" = some ⟨[.long, .int, (.array .int)], none⟩ := by decide +kernel
theorem pd_433 : parseMethodDescriptor "()D" = some ⟨[], some .double⟩ := by decide +kernel
theorem pn_434 : plainName "com/example/wardwise/wardwise/solver/LimitPricesOfLimitsPinLaw" = true := by first | (simp [plainName, overriddenIn]; done) | decide +kernel
theorem ef_rm0 (m : MethodId) (q1 : Int64) (p3 : Int32) (p4 : Int32) (p5 : Int32) (p6 : Int32) : entryFrame m #[(.long q1), (.int p3), (.int p4), (.int p5), (.int p6)] maxLocals = mkF m 0 #[jv q1, sd, iv p3, iv p4, iv p5, iv p6, un, un, un, un, un, un, un, un, un, un, un, un, un, un, un, un, un, un, un, un, un, un, un, un, un, un] [] := by first | (simp [entryFrame, mkF, argsToLocals, Value.category, maxLocals]; done) | rfl
def Q_rm0 (Z : State) (q1 : Int64) (p3 : Int32) (p4 : Int32) (p5 : Int32) (p6 : Int32) (h0 : Heap) (n0 : Nat) (v : Option Value) (h : Heap) (L : List Loc) : Prop := v = (some (.int (1 : Int32))) ∧ Fr n0 L
set_option maxRecDepth 65536 in
set_option maxHeartbeats 40000000 in
theorem rm0 (l : Launch) (Z : State) (a0 : Array Value) (hw : ∀ d ∈ tables_1, d.before a0 Z = true) (ws : List Jvm.Cond) (q1 : Int64) (p3 : Int32) (p4 : Int32) (p5 : Int32) (p6 : Int32) (h0 : Heap) (n0 : Nat) (Z0 : n0 ≤ h0.size) :
    Ctr l Z h0 x code maxLocals ret ws room_1 #[(.long q1), (.int p3), (.int p4), (.int p5), (.int p6)] (Q_rm0 Z q1 p3 p4 p5 p6 h0 n0) := by
  refine Ctr.make (plainFor_of_name pn_434) fun p e s m below meth c s₁ K hret hml hx hby hown hnm hZ X0 e0 hK => ?_
  have hown : s.vm.findClass "com/example/wardwise/wardwise/solver/LimitPricesOfLimitsPinLaw" = some m.cls := hown
  have hml : c.maxLocals = 32 := hml
  have N0 := Fr.nil n0
  have K0 : Keep h0 h0 [] := Keep.refl _ _
  refine Wlk.of (fun _ k => castTop (ef_rm0 m q1 p3 p4 p5 p6) k) ?_
  show Wlk p.tables e below (s₁.setTop (mkF m 0 #[jv q1, sd, iv p3, iv p4, iv p5, iv p6, un, un, un, un, un, un, un, un, un, un, un, un, un, un, un, un, un, un, un, un, un, un, un, un, un, un] [])) K
  refine Wlk.of (fun _ k => XS.lloadN X0.here hx rfl (hb hby at_0) rfl k) ?_
  show Wlk p.tables e below (s₁.setTop (mkF m 1 #[jv q1, sd, iv p3, iv p4, iv p5, iv p6, un, un, un, un, un, un, un, un, un, un, un, un, un, un, un, un, un, un, un, un, un, un, un, un, un, un] [(.long q1)])) K
  refine Wlk.of (fun _ k => XS.bipush X0.here hx rfl (hb hby at_1) k) ?_
  show Wlk p.tables e below (s₁.setTop (mkF m 3 #[jv q1, sd, iv p3, iv p4, iv p5, iv p6, un, un, un, un, un, un, un, un, un, un, un, un, un, un, un, un, un, un, un, un, un, un, un, un, un, un] [(.int (44 : Int32)), (.long q1)])) K
  refine Wlk.of (fun _ k => XS.lshl X0.here hx rfl (hb hby at_3) rfl k) ?_
  show Wlk p.tables e below (s₁.setTop (mkF m 4 #[jv q1, sd, iv p3, iv p4, iv p5, iv p6, un, un, un, un, un, un, un, un, un, un, un, un, un, un, un, un, un, un, un, un, un, un, un, un, un, un] [(.long (q1 <<< ((44 : Int32) &&& 0x3f).toInt64))])) K
  refine Wlk.of (fun _ k => XS.bipush X0.here hx rfl (hb hby at_4) k) ?_
  show Wlk p.tables e below (s₁.setTop (mkF m 6 #[jv q1, sd, iv p3, iv p4, iv p5, iv p6, un, un, un, un, un, un, un, un, un, un, un, un, un, un, un, un, un, un, un, un, un, un, un, un, un, un] [(.int (44 : Int32)), (.long (q1 <<< ((44 : Int32) &&& 0x3f).toInt64))])) K
  refine Wlk.of (fun _ k => XS.lshr X0.here hx rfl (hb hby at_6) rfl k) ?_
  show Wlk p.tables e below (s₁.setTop (mkF m 7 #[jv q1, sd, iv p3, iv p4, iv p5, iv p6, un, un, un, un, un, un, un, un, un, un, un, un, un, un, un, un, un, un, un, un, un, un, un, un, un, un] [(.long ((q1 <<< ((44 : Int32) &&& 0x3f).toInt64) >>> ((44 : Int32) &&& 0x3f).toInt64))])) K
  refine Wlk.of (fun _ k => XS.lstore X0.here hx rfl (hb hby at_7) rfl (l' := #[jv q1, sd, iv p3, iv p4, iv p5, iv p6, jv ((q1 <<< ((44 : Int32) &&& 0x3f).toInt64) >>> ((44 : Int32) &&& 0x3f).toInt64), sd, un, un, un, un, un, un, un, un, un, un, un, un, un, un, un, un, un, un, un, un, un, un, un, un]) rfl k) ?_
  show Wlk p.tables e below (s₁.setTop (mkF m 9 #[jv q1, sd, iv p3, iv p4, iv p5, iv p6, jv ((q1 <<< ((44 : Int32) &&& 0x3f).toInt64) >>> ((44 : Int32) &&& 0x3f).toInt64), sd, un, un, un, un, un, un, un, un, un, un, un, un, un, un, un, un, un, un, un, un, un, un, un, un] [])) K
  generalize hv1 : ((q1 <<< ((44 : Int32) &&& 0x3f).toInt64) >>> ((44 : Int32) &&& 0x3f).toInt64) = v1
  refine Wlk.of (fun _ k => XS.lloadN X0.here hx rfl (hb hby at_9) rfl k) ?_
  show Wlk p.tables e below (s₁.setTop (mkF m 10 #[jv q1, sd, iv p3, iv p4, iv p5, iv p6, jv v1, sd, un, un, un, un, un, un, un, un, un, un, un, un, un, un, un, un, un, un, un, un, un, un, un, un] [(.long q1)])) K
  refine Wlk.of (fun _ k => XS.bipush X0.here hx rfl (hb hby at_10) k) ?_
  show Wlk p.tables e below (s₁.setTop (mkF m 12 #[jv q1, sd, iv p3, iv p4, iv p5, iv p6, jv v1, sd, un, un, un, un, un, un, un, un, un, un, un, un, un, un, un, un, un, un, un, un, un, un, un, un] [(.int (24 : Int32)), (.long q1)])) K
  refine Wlk.of (fun _ k => XS.lshl X0.here hx rfl (hb hby at_12) rfl k) ?_
  show Wlk p.tables e below (s₁.setTop (mkF m 13 #[jv q1, sd, iv p3, iv p4, iv p5, iv p6, jv v1, sd, un, un, un, un, un, un, un, un, un, un, un, un, un, un, un, un, un, un, un, un, un, un, un, un] [(.long (q1 <<< ((24 : Int32) &&& 0x3f).toInt64))])) K
  refine Wlk.of (fun _ k => XS.bipush X0.here hx rfl (hb hby at_13) k) ?_
  show Wlk p.tables e below (s₁.setTop (mkF m 15 #[jv q1, sd, iv p3, iv p4, iv p5, iv p6, jv v1, sd, un, un, un, un, un, un, un, un, un, un, un, un, un, un, un, un, un, un, un, un, un, un, un, un] [(.int (44 : Int32)), (.long (q1 <<< ((24 : Int32) &&& 0x3f).toInt64))])) K
  refine Wlk.of (fun _ k => XS.lshr X0.here hx rfl (hb hby at_15) rfl k) ?_
  show Wlk p.tables e below (s₁.setTop (mkF m 16 #[jv q1, sd, iv p3, iv p4, iv p5, iv p6, jv v1, sd, un, un, un, un, un, un, un, un, un, un, un, un, un, un, un, un, un, un, un, un, un, un, un, un] [(.long ((q1 <<< ((24 : Int32) &&& 0x3f).toInt64) >>> ((44 : Int32) &&& 0x3f).toInt64))])) K
  refine Wlk.of (fun _ k => XS.lstore X0.here hx rfl (hb hby at_16) rfl (l' := #[jv q1, sd, iv p3, iv p4, iv p5, iv p6, jv v1, sd, jv ((q1 <<< ((24 : Int32) &&& 0x3f).toInt64) >>> ((44 : Int32) &&& 0x3f).toInt64), sd, un, un, un, un, un, un, un, un, un, un, un, un, un, un, un, un, un, un, un, un, un, un]) rfl k) ?_
  show Wlk p.tables e below (s₁.setTop (mkF m 18 #[jv q1, sd, iv p3, iv p4, iv p5, iv p6, jv v1, sd, jv ((q1 <<< ((24 : Int32) &&& 0x3f).toInt64) >>> ((44 : Int32) &&& 0x3f).toInt64), sd, un, un, un, un, un, un, un, un, un, un, un, un, un, un, un, un, un, un, un, un, un, un] [])) K
  generalize hv2 : ((q1 <<< ((24 : Int32) &&& 0x3f).toInt64) >>> ((44 : Int32) &&& 0x3f).toInt64) = v2
  refine Wlk.of (fun _ k => XS.lloadN X0.here hx rfl (hb hby at_18) rfl k) ?_
  show Wlk p.tables e below (s₁.setTop (mkF m 19 #[jv q1, sd, iv p3, iv p4, iv p5, iv p6, jv v1, sd, jv v2, sd, un, un, un, un, un, un, un, un, un, un, un, un, un, un, un, un, un, un, un, un, un, un] [(.long q1)])) K
  refine Wlk.of (fun _ k => XS.iconst X0.here hx rfl (hb hby at_19) k) ?_
  show Wlk p.tables e below (s₁.setTop (mkF m 20 #[jv q1, sd, iv p3, iv p4, iv p5, iv p6, jv v1, sd, jv v2, sd, un, un, un, un, un, un, un, un, un, un, un, un, un, un, un, un, un, un, un, un, un, un] [(.int (4 : Int32)), (.long q1)])) K
  refine Wlk.of (fun _ k => XS.lshl X0.here hx rfl (hb hby at_20) rfl k) ?_
  show Wlk p.tables e below (s₁.setTop (mkF m 21 #[jv q1, sd, iv p3, iv p4, iv p5, iv p6, jv v1, sd, jv v2, sd, un, un, un, un, un, un, un, un, un, un, un, un, un, un, un, un, un, un, un, un, un, un] [(.long (q1 <<< ((4 : Int32) &&& 0x3f).toInt64))])) K
  refine Wlk.of (fun _ k => XS.bipush X0.here hx rfl (hb hby at_21) k) ?_
  show Wlk p.tables e below (s₁.setTop (mkF m 23 #[jv q1, sd, iv p3, iv p4, iv p5, iv p6, jv v1, sd, jv v2, sd, un, un, un, un, un, un, un, un, un, un, un, un, un, un, un, un, un, un, un, un, un, un] [(.int (44 : Int32)), (.long (q1 <<< ((4 : Int32) &&& 0x3f).toInt64))])) K
  refine Wlk.of (fun _ k => XS.lshr X0.here hx rfl (hb hby at_23) rfl k) ?_
  show Wlk p.tables e below (s₁.setTop (mkF m 24 #[jv q1, sd, iv p3, iv p4, iv p5, iv p6, jv v1, sd, jv v2, sd, un, un, un, un, un, un, un, un, un, un, un, un, un, un, un, un, un, un, un, un, un, un] [(.long ((q1 <<< ((4 : Int32) &&& 0x3f).toInt64) >>> ((44 : Int32) &&& 0x3f).toInt64))])) K
  refine Wlk.of (fun _ k => XS.lstore X0.here hx rfl (hb hby at_24) rfl (l' := #[jv q1, sd, iv p3, iv p4, iv p5, iv p6, jv v1, sd, jv v2, sd, jv ((q1 <<< ((4 : Int32) &&& 0x3f).toInt64) >>> ((44 : Int32) &&& 0x3f).toInt64), sd, un, un, un, un, un, un, un, un, un, un, un, un, un, un, un, un, un, un, un, un]) rfl k) ?_
  show Wlk p.tables e below (s₁.setTop (mkF m 26 #[jv q1, sd, iv p3, iv p4, iv p5, iv p6, jv v1, sd, jv v2, sd, jv ((q1 <<< ((4 : Int32) &&& 0x3f).toInt64) >>> ((44 : Int32) &&& 0x3f).toInt64), sd, un, un, un, un, un, un, un, un, un, un, un, un, un, un, un, un, un, un, un, un] [])) K
  generalize hv3 : ((q1 <<< ((4 : Int32) &&& 0x3f).toInt64) >>> ((44 : Int32) &&& 0x3f).toInt64) = v3
  refine Wlk.of (fun _ k => XS.iloadN X0.here hx rfl (hb hby at_26) rfl k) ?_
  show Wlk p.tables e below (s₁.setTop (mkF m 27 #[jv q1, sd, iv p3, iv p4, iv p5, iv p6, jv v1, sd, jv v2, sd, jv v3, sd, un, un, un, un, un, un, un, un, un, un, un, un, un, un, un, un, un, un, un, un] [(.int p3)])) K
  refine Wlk.of (fun _ k => XS.iconst X0.here hx rfl (hb hby at_27) k) ?_
  show Wlk p.tables e below (s₁.setTop (mkF m 28 #[jv q1, sd, iv p3, iv p4, iv p5, iv p6, jv v1, sd, jv v2, sd, jv v3, sd, un, un, un, un, un, un, un, un, un, un, un, un, un, un, un, un, un, un, un, un] [(.int (1 : Int32)), (.int p3)])) K
  refine Wlk.of (fun _ k => XS.ishr X0.here hx rfl (hb hby at_28) rfl k) ?_
  show Wlk p.tables e below (s₁.setTop (mkF m 29 #[jv q1, sd, iv p3, iv p4, iv p5, iv p6, jv v1, sd, jv v2, sd, jv v3, sd, un, un, un, un, un, un, un, un, un, un, un, un, un, un, un, un, un, un, un, un] [(.int (p3 >>> ((1 : Int32) &&& 31)))])) K
  refine Wlk.of (fun _ k => XS.istore X0.here hx rfl (hb hby at_29) rfl (l' := #[jv q1, sd, iv p3, iv p4, iv p5, iv p6, jv v1, sd, jv v2, sd, jv v3, sd, iv (p3 >>> ((1 : Int32) &&& 31)), un, un, un, un, un, un, un, un, un, un, un, un, un, un, un, un, un, un, un]) rfl k) ?_
  show Wlk p.tables e below (s₁.setTop (mkF m 31 #[jv q1, sd, iv p3, iv p4, iv p5, iv p6, jv v1, sd, jv v2, sd, jv v3, sd, iv (p3 >>> ((1 : Int32) &&& 31)), un, un, un, un, un, un, un, un, un, un, un, un, un, un, un, un, un, un, un] [])) K
  generalize hv4 : (p3 >>> ((1 : Int32) &&& 31)) = v4
  refine Wlk.of (fun _ k => XS.iloadN X0.here hx rfl (hb hby at_31) rfl k) ?_
  show Wlk p.tables e below (s₁.setTop (mkF m 32 #[jv q1, sd, iv p3, iv p4, iv p5, iv p6, jv v1, sd, jv v2, sd, jv v3, sd, iv v4, un, un, un, un, un, un, un, un, un, un, un, un, un, un, un, un, un, un, un] [(.int p4)])) K
  refine Wlk.of (fun _ k => XS.iconst X0.here hx rfl (hb hby at_32) k) ?_
  show Wlk p.tables e below (s₁.setTop (mkF m 33 #[jv q1, sd, iv p3, iv p4, iv p5, iv p6, jv v1, sd, jv v2, sd, jv v3, sd, iv v4, un, un, un, un, un, un, un, un, un, un, un, un, un, un, un, un, un, un, un] [(.int (1 : Int32)), (.int p4)])) K
  refine Wlk.of (fun _ k => XS.ishr X0.here hx rfl (hb hby at_33) rfl k) ?_
  show Wlk p.tables e below (s₁.setTop (mkF m 34 #[jv q1, sd, iv p3, iv p4, iv p5, iv p6, jv v1, sd, jv v2, sd, jv v3, sd, iv v4, un, un, un, un, un, un, un, un, un, un, un, un, un, un, un, un, un, un, un] [(.int (p4 >>> ((1 : Int32) &&& 31)))])) K
  refine Wlk.of (fun _ k => XS.istore X0.here hx rfl (hb hby at_34) rfl (l' := #[jv q1, sd, iv p3, iv p4, iv p5, iv p6, jv v1, sd, jv v2, sd, jv v3, sd, iv v4, iv (p4 >>> ((1 : Int32) &&& 31)), un, un, un, un, un, un, un, un, un, un, un, un, un, un, un, un, un, un]) rfl k) ?_
  show Wlk p.tables e below (s₁.setTop (mkF m 36 #[jv q1, sd, iv p3, iv p4, iv p5, iv p6, jv v1, sd, jv v2, sd, jv v3, sd, iv v4, iv (p4 >>> ((1 : Int32) &&& 31)), un, un, un, un, un, un, un, un, un, un, un, un, un, un, un, un, un, un] [])) K
  generalize hv5 : (p4 >>> ((1 : Int32) &&& 31)) = v5
  refine Wlk.of (fun _ k => XS.iload X0.here hx rfl (hb hby at_36) rfl k) ?_
  show Wlk p.tables e below (s₁.setTop (mkF m 38 #[jv q1, sd, iv p3, iv p4, iv p5, iv p6, jv v1, sd, jv v2, sd, jv v3, sd, iv v4, iv v5, un, un, un, un, un, un, un, un, un, un, un, un, un, un, un, un, un, un] [(.int p5)])) K
  refine Wlk.of (fun _ k => XS.iconst X0.here hx rfl (hb hby at_38) k) ?_
  show Wlk p.tables e below (s₁.setTop (mkF m 39 #[jv q1, sd, iv p3, iv p4, iv p5, iv p6, jv v1, sd, jv v2, sd, jv v3, sd, iv v4, iv v5, un, un, un, un, un, un, un, un, un, un, un, un, un, un, un, un, un, un] [(.int (1 : Int32)), (.int p5)])) K
  refine Wlk.of (fun _ k => XS.ishr X0.here hx rfl (hb hby at_39) rfl k) ?_
  show Wlk p.tables e below (s₁.setTop (mkF m 40 #[jv q1, sd, iv p3, iv p4, iv p5, iv p6, jv v1, sd, jv v2, sd, jv v3, sd, iv v4, iv v5, un, un, un, un, un, un, un, un, un, un, un, un, un, un, un, un, un, un] [(.int (p5 >>> ((1 : Int32) &&& 31)))])) K
  refine Wlk.of (fun _ k => XS.istore X0.here hx rfl (hb hby at_40) rfl (l' := #[jv q1, sd, iv p3, iv p4, iv p5, iv p6, jv v1, sd, jv v2, sd, jv v3, sd, iv v4, iv v5, iv (p5 >>> ((1 : Int32) &&& 31)), un, un, un, un, un, un, un, un, un, un, un, un, un, un, un, un, un]) rfl k) ?_
  show Wlk p.tables e below (s₁.setTop (mkF m 42 #[jv q1, sd, iv p3, iv p4, iv p5, iv p6, jv v1, sd, jv v2, sd, jv v3, sd, iv v4, iv v5, iv (p5 >>> ((1 : Int32) &&& 31)), un, un, un, un, un, un, un, un, un, un, un, un, un, un, un, un, un] [])) K
  generalize hv6 : (p5 >>> ((1 : Int32) &&& 31)) = v6
  refine Wlk.of (fun _ k => XS.iload X0.here hx rfl (hb hby at_42) rfl k) ?_
  show Wlk p.tables e below (s₁.setTop (mkF m 44 #[jv q1, sd, iv p3, iv p4, iv p5, iv p6, jv v1, sd, jv v2, sd, jv v3, sd, iv v4, iv v5, iv v6, un, un, un, un, un, un, un, un, un, un, un, un, un, un, un, un, un] [(.int p6)])) K
  refine Wlk.of (fun _ k => XS.sipush X0.here hx rfl (hb hby at_44) k) ?_
  show Wlk p.tables e below (s₁.setTop (mkF m 47 #[jv q1, sd, iv p3, iv p4, iv p5, iv p6, jv v1, sd, jv v2, sd, jv v3, sd, iv v4, iv v5, iv v6, un, un, un, un, un, un, un, un, un, un, un, un, un, un, un, un, un] [(.int (255 : Int32)), (.int p6)])) K
  refine Wlk.of (fun _ k => XS.iand X0.here hx rfl (hb hby at_47) rfl k) ?_
  show Wlk p.tables e below (s₁.setTop (mkF m 48 #[jv q1, sd, iv p3, iv p4, iv p5, iv p6, jv v1, sd, jv v2, sd, jv v3, sd, iv v4, iv v5, iv v6, un, un, un, un, un, un, un, un, un, un, un, un, un, un, un, un, un] [(.int (p6 &&& (255 : Int32)))])) K
  refine Wlk.of (fun _ k => XS.istore X0.here hx rfl (hb hby at_48) rfl (l' := #[jv q1, sd, iv p3, iv p4, iv p5, iv p6, jv v1, sd, jv v2, sd, jv v3, sd, iv v4, iv v5, iv v6, iv (p6 &&& (255 : Int32)), un, un, un, un, un, un, un, un, un, un, un, un, un, un, un, un]) rfl k) ?_
  show Wlk p.tables e below (s₁.setTop (mkF m 50 #[jv q1, sd, iv p3, iv p4, iv p5, iv p6, jv v1, sd, jv v2, sd, jv v3, sd, iv v4, iv v5, iv v6, iv (p6 &&& (255 : Int32)), un, un, un, un, un, un, un, un, un, un, un, un, un, un, un, un] [])) K
  generalize hv7 : (p6 &&& (255 : Int32)) = v7
  refine Wlk.of (fun _ k => XS.iconst X0.here hx rfl (hb hby at_50) k) ?_
  show Wlk p.tables e below (s₁.setTop (mkF m 51 #[jv q1, sd, iv p3, iv p4, iv p5, iv p6, jv v1, sd, jv v2, sd, jv v3, sd, iv v4, iv v5, iv v6, iv v7, un, un, un, un, un, un, un, un, un, un, un, un, un, un, un, un] [(.int (1 : Int32))])) K
  refine Wlk.of (fun _ k => XS.iload X0.here hx rfl (hb hby at_51) rfl k) ?_
  show Wlk p.tables e below (s₁.setTop (mkF m 53 #[jv q1, sd, iv p3, iv p4, iv p5, iv p6, jv v1, sd, jv v2, sd, jv v3, sd, iv v4, iv v5, iv v6, iv v7, un, un, un, un, un, un, un, un, un, un, un, un, un, un, un, un] [(.int p6), (.int (1 : Int32))])) K
  refine Wlk.of (fun _ k => XS.bipush X0.here hx rfl (hb hby at_53) k) ?_
  show Wlk p.tables e below (s₁.setTop (mkF m 55 #[jv q1, sd, iv p3, iv p4, iv p5, iv p6, jv v1, sd, jv v2, sd, jv v3, sd, iv v4, iv v5, iv v6, iv v7, un, un, un, un, un, un, un, un, un, un, un, un, un, un, un, un] [(.int (8 : Int32)), (.int p6), (.int (1 : Int32))])) K
  refine Wlk.of (fun _ k => XS.iushr X0.here hx rfl (hb hby at_55) rfl k) ?_
  show Wlk p.tables e below (s₁.setTop (mkF m 56 #[jv q1, sd, iv p3, iv p4, iv p5, iv p6, jv v1, sd, jv v2, sd, jv v3, sd, iv v4, iv v5, iv v6, iv v7, un, un, un, un, un, un, un, un, un, un, un, un, un, un, un, un] [(.int ((p6.toUInt32 >>> ((8 : Int32) &&& 31).toUInt32).toInt32)), (.int (1 : Int32))])) K
  refine Wlk.of (fun _ k => XS.iconst X0.here hx rfl (hb hby at_56) k) ?_
  show Wlk p.tables e below (s₁.setTop (mkF m 57 #[jv q1, sd, iv p3, iv p4, iv p5, iv p6, jv v1, sd, jv v2, sd, jv v3, sd, iv v4, iv v5, iv v6, iv v7, un, un, un, un, un, un, un, un, un, un, un, un, un, un, un, un] [(.int (3 : Int32)), (.int ((p6.toUInt32 >>> ((8 : Int32) &&& 31).toUInt32).toInt32)), (.int (1 : Int32))])) K
  refine Wlk.of (fun _ k => XS.iand X0.here hx rfl (hb hby at_57) rfl k) ?_
  show Wlk p.tables e below (s₁.setTop (mkF m 58 #[jv q1, sd, iv p3, iv p4, iv p5, iv p6, jv v1, sd, jv v2, sd, jv v3, sd, iv v4, iv v5, iv v6, iv v7, un, un, un, un, un, un, un, un, un, un, un, un, un, un, un, un] [(.int (((p6.toUInt32 >>> ((8 : Int32) &&& 31).toUInt32).toInt32) &&& (3 : Int32))), (.int (1 : Int32))])) K
  refine Wlk.of (fun _ k => XS.ishl X0.here hx rfl (hb hby at_58) rfl k) ?_
  show Wlk p.tables e below (s₁.setTop (mkF m 59 #[jv q1, sd, iv p3, iv p4, iv p5, iv p6, jv v1, sd, jv v2, sd, jv v3, sd, iv v4, iv v5, iv v6, iv v7, un, un, un, un, un, un, un, un, un, un, un, un, un, un, un, un] [(.int ((1 : Int32) <<< ((((p6.toUInt32 >>> ((8 : Int32) &&& 31).toUInt32).toInt32) &&& (3 : Int32)) &&& 31)))])) K
  refine Wlk.of (fun _ k => XS.istore X0.here hx rfl (hb hby at_59) rfl (l' := #[jv q1, sd, iv p3, iv p4, iv p5, iv p6, jv v1, sd, jv v2, sd, jv v3, sd, iv v4, iv v5, iv v6, iv v7, iv ((1 : Int32) <<< ((((p6.toUInt32 >>> ((8 : Int32) &&& 31).toUInt32).toInt32) &&& (3 : Int32)) &&& 31)), un, un, un, un, un, un, un, un, un, un, un, un, un, un, un]) rfl k) ?_
  show Wlk p.tables e below (s₁.setTop (mkF m 61 #[jv q1, sd, iv p3, iv p4, iv p5, iv p6, jv v1, sd, jv v2, sd, jv v3, sd, iv v4, iv v5, iv v6, iv v7, iv ((1 : Int32) <<< ((((p6.toUInt32 >>> ((8 : Int32) &&& 31).toUInt32).toInt32) &&& (3 : Int32)) &&& 31)), un, un, un, un, un, un, un, un, un, un, un, un, un, un, un] [])) K
  generalize hv8 : ((1 : Int32) <<< ((((p6.toUInt32 >>> ((8 : Int32) &&& 31).toUInt32).toInt32) &&& (3 : Int32)) &&& 31)) = v8
  refine Wlk.of (fun _ k => XS.iload X0.here hx rfl (hb hby at_61) rfl k) ?_
  show Wlk p.tables e below (s₁.setTop (mkF m 63 #[jv q1, sd, iv p3, iv p4, iv p5, iv p6, jv v1, sd, jv v2, sd, jv v3, sd, iv v4, iv v5, iv v6, iv v7, iv v8, un, un, un, un, un, un, un, un, un, un, un, un, un, un, un] [(.int p6)])) K
  refine Wlk.of (fun _ k => XS.bipush X0.here hx rfl (hb hby at_63) k) ?_
  show Wlk p.tables e below (s₁.setTop (mkF m 65 #[jv q1, sd, iv p3, iv p4, iv p5, iv p6, jv v1, sd, jv v2, sd, jv v3, sd, iv v4, iv v5, iv v6, iv v7, iv v8, un, un, un, un, un, un, un, un, un, un, un, un, un, un, un] [(.int (10 : Int32)), (.int p6)])) K
  refine Wlk.of (fun _ k => XS.iushr X0.here hx rfl (hb hby at_65) rfl k) ?_
  show Wlk p.tables e below (s₁.setTop (mkF m 66 #[jv q1, sd, iv p3, iv p4, iv p5, iv p6, jv v1, sd, jv v2, sd, jv v3, sd, iv v4, iv v5, iv v6, iv v7, iv v8, un, un, un, un, un, un, un, un, un, un, un, un, un, un, un] [(.int ((p6.toUInt32 >>> ((10 : Int32) &&& 31).toUInt32).toInt32))])) K
  refine Wlk.of (fun _ k => XS.iconst X0.here hx rfl (hb hby at_66) k) ?_
  show Wlk p.tables e below (s₁.setTop (mkF m 67 #[jv q1, sd, iv p3, iv p4, iv p5, iv p6, jv v1, sd, jv v2, sd, jv v3, sd, iv v4, iv v5, iv v6, iv v7, iv v8, un, un, un, un, un, un, un, un, un, un, un, un, un, un, un] [(.int (3 : Int32)), (.int ((p6.toUInt32 >>> ((10 : Int32) &&& 31).toUInt32).toInt32))])) K
  refine Wlk.of (fun _ k => XS.iand X0.here hx rfl (hb hby at_67) rfl k) ?_
  show Wlk p.tables e below (s₁.setTop (mkF m 68 #[jv q1, sd, iv p3, iv p4, iv p5, iv p6, jv v1, sd, jv v2, sd, jv v3, sd, iv v4, iv v5, iv v6, iv v7, iv v8, un, un, un, un, un, un, un, un, un, un, un, un, un, un, un] [(.int (((p6.toUInt32 >>> ((10 : Int32) &&& 31).toUInt32).toInt32) &&& (3 : Int32)))])) K
  refine Wlk.of (fun _ k => XS.iconst X0.here hx rfl (hb hby at_68) k) ?_
  show Wlk p.tables e below (s₁.setTop (mkF m 69 #[jv q1, sd, iv p3, iv p4, iv p5, iv p6, jv v1, sd, jv v2, sd, jv v3, sd, iv v4, iv v5, iv v6, iv v7, iv v8, un, un, un, un, un, un, un, un, un, un, un, un, un, un, un] [(.int (1 : Int32)), (.int (((p6.toUInt32 >>> ((10 : Int32) &&& 31).toUInt32).toInt32) &&& (3 : Int32)))])) K
  refine Wlk.of (fun _ k => XS.isub X0.here hx rfl (hb hby at_69) rfl k) ?_
  show Wlk p.tables e below (s₁.setTop (mkF m 70 #[jv q1, sd, iv p3, iv p4, iv p5, iv p6, jv v1, sd, jv v2, sd, jv v3, sd, iv v4, iv v5, iv v6, iv v7, iv v8, un, un, un, un, un, un, un, un, un, un, un, un, un, un, un] [(.int ((((p6.toUInt32 >>> ((10 : Int32) &&& 31).toUInt32).toInt32) &&& (3 : Int32)) - (1 : Int32)))])) K
  refine Wlk.of (fun _ k => XS.istore X0.here hx rfl (hb hby at_70) rfl (l' := #[jv q1, sd, iv p3, iv p4, iv p5, iv p6, jv v1, sd, jv v2, sd, jv v3, sd, iv v4, iv v5, iv v6, iv v7, iv v8, iv ((((p6.toUInt32 >>> ((10 : Int32) &&& 31).toUInt32).toInt32) &&& (3 : Int32)) - (1 : Int32)), un, un, un, un, un, un, un, un, un, un, un, un, un, un]) rfl k) ?_
  show Wlk p.tables e below (s₁.setTop (mkF m 72 #[jv q1, sd, iv p3, iv p4, iv p5, iv p6, jv v1, sd, jv v2, sd, jv v3, sd, iv v4, iv v5, iv v6, iv v7, iv v8, iv ((((p6.toUInt32 >>> ((10 : Int32) &&& 31).toUInt32).toInt32) &&& (3 : Int32)) - (1 : Int32)), un, un, un, un, un, un, un, un, un, un, un, un, un, un] [])) K
  generalize hv9 : ((((p6.toUInt32 >>> ((10 : Int32) &&& 31).toUInt32).toInt32) &&& (3 : Int32)) - (1 : Int32)) = v9
  refine Wlk.of (fun _ k => XS.iload X0.here hx rfl (hb hby at_72) rfl k) ?_
  show Wlk p.tables e below (s₁.setTop (mkF m 74 #[jv q1, sd, iv p3, iv p4, iv p5, iv p6, jv v1, sd, jv v2, sd, jv v3, sd, iv v4, iv v5, iv v6, iv v7, iv v8, iv v9, un, un, un, un, un, un, un, un, un, un, un, un, un, un] [(.int p6)])) K
  refine Wlk.of (fun _ k => XS.bipush X0.here hx rfl (hb hby at_74) k) ?_
  show Wlk p.tables e below (s₁.setTop (mkF m 76 #[jv q1, sd, iv p3, iv p4, iv p5, iv p6, jv v1, sd, jv v2, sd, jv v3, sd, iv v4, iv v5, iv v6, iv v7, iv v8, iv v9, un, un, un, un, un, un, un, un, un, un, un, un, un, un] [(.int (12 : Int32)), (.int p6)])) K
  refine Wlk.of (fun _ k => XS.iushr X0.here hx rfl (hb hby at_76) rfl k) ?_
  show Wlk p.tables e below (s₁.setTop (mkF m 77 #[jv q1, sd, iv p3, iv p4, iv p5, iv p6, jv v1, sd, jv v2, sd, jv v3, sd, iv v4, iv v5, iv v6, iv v7, iv v8, iv v9, un, un, un, un, un, un, un, un, un, un, un, un, un, un] [(.int ((p6.toUInt32 >>> ((12 : Int32) &&& 31).toUInt32).toInt32))])) K
  refine Wlk.of (fun _ k => XS.iconst X0.here hx rfl (hb hby at_77) k) ?_
  show Wlk p.tables e below (s₁.setTop (mkF m 78 #[jv q1, sd, iv p3, iv p4, iv p5, iv p6, jv v1, sd, jv v2, sd, jv v3, sd, iv v4, iv v5, iv v6, iv v7, iv v8, iv v9, un, un, un, un, un, un, un, un, un, un, un, un, un, un] [(.int (3 : Int32)), (.int ((p6.toUInt32 >>> ((12 : Int32) &&& 31).toUInt32).toInt32))])) K
  refine Wlk.of (fun _ k => XS.iand X0.here hx rfl (hb hby at_78) rfl k) ?_
  show Wlk p.tables e below (s₁.setTop (mkF m 79 #[jv q1, sd, iv p3, iv p4, iv p5, iv p6, jv v1, sd, jv v2, sd, jv v3, sd, iv v4, iv v5, iv v6, iv v7, iv v8, iv v9, un, un, un, un, un, un, un, un, un, un, un, un, un, un] [(.int (((p6.toUInt32 >>> ((12 : Int32) &&& 31).toUInt32).toInt32) &&& (3 : Int32)))])) K
  refine Wlk.of (fun _ k => XS.iconst X0.here hx rfl (hb hby at_79) k) ?_
  show Wlk p.tables e below (s₁.setTop (mkF m 80 #[jv q1, sd, iv p3, iv p4, iv p5, iv p6, jv v1, sd, jv v2, sd, jv v3, sd, iv v4, iv v5, iv v6, iv v7, iv v8, iv v9, un, un, un, un, un, un, un, un, un, un, un, un, un, un] [(.int (1 : Int32)), (.int (((p6.toUInt32 >>> ((12 : Int32) &&& 31).toUInt32).toInt32) &&& (3 : Int32)))])) K
  refine Wlk.of (fun _ k => XS.isub X0.here hx rfl (hb hby at_80) rfl k) ?_
  show Wlk p.tables e below (s₁.setTop (mkF m 81 #[jv q1, sd, iv p3, iv p4, iv p5, iv p6, jv v1, sd, jv v2, sd, jv v3, sd, iv v4, iv v5, iv v6, iv v7, iv v8, iv v9, un, un, un, un, un, un, un, un, un, un, un, un, un, un] [(.int ((((p6.toUInt32 >>> ((12 : Int32) &&& 31).toUInt32).toInt32) &&& (3 : Int32)) - (1 : Int32)))])) K
  refine Wlk.of (fun _ k => XS.istore X0.here hx rfl (hb hby at_81) rfl (l' := #[jv q1, sd, iv p3, iv p4, iv p5, iv p6, jv v1, sd, jv v2, sd, jv v3, sd, iv v4, iv v5, iv v6, iv v7, iv v8, iv v9, iv ((((p6.toUInt32 >>> ((12 : Int32) &&& 31).toUInt32).toInt32) &&& (3 : Int32)) - (1 : Int32)), un, un, un, un, un, un, un, un, un, un, un, un, un]) rfl k) ?_
  show Wlk p.tables e below (s₁.setTop (mkF m 83 #[jv q1, sd, iv p3, iv p4, iv p5, iv p6, jv v1, sd, jv v2, sd, jv v3, sd, iv v4, iv v5, iv v6, iv v7, iv v8, iv v9, iv ((((p6.toUInt32 >>> ((12 : Int32) &&& 31).toUInt32).toInt32) &&& (3 : Int32)) - (1 : Int32)), un, un, un, un, un, un, un, un, un, un, un, un, un] [])) K
  generalize hv10 : ((((p6.toUInt32 >>> ((12 : Int32) &&& 31).toUInt32).toInt32) &&& (3 : Int32)) - (1 : Int32)) = v10
  refine Wlk.of (fun _ k => XS.iload X0.here hx rfl (hb hby at_83) rfl k) ?_
  show Wlk p.tables e below (s₁.setTop (mkF m 85 #[jv q1, sd, iv p3, iv p4, iv p5, iv p6, jv v1, sd, jv v2, sd, jv v3, sd, iv v4, iv v5, iv v6, iv v7, iv v8, iv v9, iv v10, un, un, un, un, un, un, un, un, un, un, un, un, un] [(.int p6)])) K
  refine Wlk.of (fun _ k => XS.bipush X0.here hx rfl (hb hby at_85) k) ?_
  show Wlk p.tables e below (s₁.setTop (mkF m 87 #[jv q1, sd, iv p3, iv p4, iv p5, iv p6, jv v1, sd, jv v2, sd, jv v3, sd, iv v4, iv v5, iv v6, iv v7, iv v8, iv v9, iv v10, un, un, un, un, un, un, un, un, un, un, un, un, un] [(.int (14 : Int32)), (.int p6)])) K
  refine Wlk.of (fun _ k => XS.iushr X0.here hx rfl (hb hby at_87) rfl k) ?_
  show Wlk p.tables e below (s₁.setTop (mkF m 88 #[jv q1, sd, iv p3, iv p4, iv p5, iv p6, jv v1, sd, jv v2, sd, jv v3, sd, iv v4, iv v5, iv v6, iv v7, iv v8, iv v9, iv v10, un, un, un, un, un, un, un, un, un, un, un, un, un] [(.int ((p6.toUInt32 >>> ((14 : Int32) &&& 31).toUInt32).toInt32))])) K
  refine Wlk.of (fun _ k => XS.iconst X0.here hx rfl (hb hby at_88) k) ?_
  show Wlk p.tables e below (s₁.setTop (mkF m 89 #[jv q1, sd, iv p3, iv p4, iv p5, iv p6, jv v1, sd, jv v2, sd, jv v3, sd, iv v4, iv v5, iv v6, iv v7, iv v8, iv v9, iv v10, un, un, un, un, un, un, un, un, un, un, un, un, un] [(.int (3 : Int32)), (.int ((p6.toUInt32 >>> ((14 : Int32) &&& 31).toUInt32).toInt32))])) K
  refine Wlk.of (fun _ k => XS.iand X0.here hx rfl (hb hby at_89) rfl k) ?_
  show Wlk p.tables e below (s₁.setTop (mkF m 90 #[jv q1, sd, iv p3, iv p4, iv p5, iv p6, jv v1, sd, jv v2, sd, jv v3, sd, iv v4, iv v5, iv v6, iv v7, iv v8, iv v9, iv v10, un, un, un, un, un, un, un, un, un, un, un, un, un] [(.int (((p6.toUInt32 >>> ((14 : Int32) &&& 31).toUInt32).toInt32) &&& (3 : Int32)))])) K
  refine Wlk.of (fun _ k => XS.iconst X0.here hx rfl (hb hby at_90) k) ?_
  show Wlk p.tables e below (s₁.setTop (mkF m 91 #[jv q1, sd, iv p3, iv p4, iv p5, iv p6, jv v1, sd, jv v2, sd, jv v3, sd, iv v4, iv v5, iv v6, iv v7, iv v8, iv v9, iv v10, un, un, un, un, un, un, un, un, un, un, un, un, un] [(.int (1 : Int32)), (.int (((p6.toUInt32 >>> ((14 : Int32) &&& 31).toUInt32).toInt32) &&& (3 : Int32)))])) K
  refine Wlk.of (fun _ k => XS.isub X0.here hx rfl (hb hby at_91) rfl k) ?_
  show Wlk p.tables e below (s₁.setTop (mkF m 92 #[jv q1, sd, iv p3, iv p4, iv p5, iv p6, jv v1, sd, jv v2, sd, jv v3, sd, iv v4, iv v5, iv v6, iv v7, iv v8, iv v9, iv v10, un, un, un, un, un, un, un, un, un, un, un, un, un] [(.int ((((p6.toUInt32 >>> ((14 : Int32) &&& 31).toUInt32).toInt32) &&& (3 : Int32)) - (1 : Int32)))])) K
  refine Wlk.of (fun _ k => XS.istore X0.here hx rfl (hb hby at_92) rfl (l' := #[jv q1, sd, iv p3, iv p4, iv p5, iv p6, jv v1, sd, jv v2, sd, jv v3, sd, iv v4, iv v5, iv v6, iv v7, iv v8, iv v9, iv v10, iv ((((p6.toUInt32 >>> ((14 : Int32) &&& 31).toUInt32).toInt32) &&& (3 : Int32)) - (1 : Int32)), un, un, un, un, un, un, un, un, un, un, un, un]) rfl k) ?_
  show Wlk p.tables e below (s₁.setTop (mkF m 94 #[jv q1, sd, iv p3, iv p4, iv p5, iv p6, jv v1, sd, jv v2, sd, jv v3, sd, iv v4, iv v5, iv v6, iv v7, iv v8, iv v9, iv v10, iv ((((p6.toUInt32 >>> ((14 : Int32) &&& 31).toUInt32).toInt32) &&& (3 : Int32)) - (1 : Int32)), un, un, un, un, un, un, un, un, un, un, un, un] [])) K
  generalize hv11 : ((((p6.toUInt32 >>> ((14 : Int32) &&& 31).toUInt32).toInt32) &&& (3 : Int32)) - (1 : Int32)) = v11
  refine Wlk.of (fun _ k => XS.iload X0.here hx rfl (hb hby at_94) rfl k) ?_
  show Wlk p.tables e below (s₁.setTop (mkF m 96 #[jv q1, sd, iv p3, iv p4, iv p5, iv p6, jv v1, sd, jv v2, sd, jv v3, sd, iv v4, iv v5, iv v6, iv v7, iv v8, iv v9, iv v10, iv v11, un, un, un, un, un, un, un, un, un, un, un, un] [(.int p6)])) K
  refine Wlk.of (fun _ k => XS.bipush X0.here hx rfl (hb hby at_96) k) ?_
  show Wlk p.tables e below (s₁.setTop (mkF m 98 #[jv q1, sd, iv p3, iv p4, iv p5, iv p6, jv v1, sd, jv v2, sd, jv v3, sd, iv v4, iv v5, iv v6, iv v7, iv v8, iv v9, iv v10, iv v11, un, un, un, un, un, un, un, un, un, un, un, un] [(.int (16 : Int32)), (.int p6)])) K
  refine Wlk.of (fun _ k => XS.iushr X0.here hx rfl (hb hby at_98) rfl k) ?_
  show Wlk p.tables e below (s₁.setTop (mkF m 99 #[jv q1, sd, iv p3, iv p4, iv p5, iv p6, jv v1, sd, jv v2, sd, jv v3, sd, iv v4, iv v5, iv v6, iv v7, iv v8, iv v9, iv v10, iv v11, un, un, un, un, un, un, un, un, un, un, un, un] [(.int ((p6.toUInt32 >>> ((16 : Int32) &&& 31).toUInt32).toInt32))])) K
  refine Wlk.of (fun _ k => XS.iconst X0.here hx rfl (hb hby at_99) k) ?_
  show Wlk p.tables e below (s₁.setTop (mkF m 100 #[jv q1, sd, iv p3, iv p4, iv p5, iv p6, jv v1, sd, jv v2, sd, jv v3, sd, iv v4, iv v5, iv v6, iv v7, iv v8, iv v9, iv v10, iv v11, un, un, un, un, un, un, un, un, un, un, un, un] [(.int (1 : Int32)), (.int ((p6.toUInt32 >>> ((16 : Int32) &&& 31).toUInt32).toInt32))])) K
  refine Wlk.of (fun _ k => XS.iand X0.here hx rfl (hb hby at_100) rfl k) ?_
  show Wlk p.tables e below (s₁.setTop (mkF m 101 #[jv q1, sd, iv p3, iv p4, iv p5, iv p6, jv v1, sd, jv v2, sd, jv v3, sd, iv v4, iv v5, iv v6, iv v7, iv v8, iv v9, iv v10, iv v11, un, un, un, un, un, un, un, un, un, un, un, un] [(.int (((p6.toUInt32 >>> ((16 : Int32) &&& 31).toUInt32).toInt32) &&& (1 : Int32)))])) K
  have J12 : ∀ (T12 : State), Stand p l e room_1 s m #[(.long q1), (.int p3), (.int p4), (.int p5), (.int p6)] below meth c T12 [] 0 0 → T12.heap = h0 → ∀ (j12_0 : Int32), j12_0 = (if (((p6.toUInt32 >>> ((16 : Int32) &&& 31).toUInt32).toInt32) &&& (1 : Int32)) = (0 : Int32) then (1 : Int32) else (0 : Int32)) → Wlk p.tables e below (T12.setTop (mkF m 109 #[jv q1, sd, iv p3, iv p4, iv p5, iv p6, jv v1, sd, jv v2, sd, jv v3, sd, iv v4, iv v5, iv v6, iv v7, iv v8, iv v9, iv v10, iv v11, un, un, un, un, un, un, un, un, un, un, un, un] [(.int j12_0)])) K := by
    intro T12 X12 e12 j12_0 hj12_0
    refine Wlk.of (fun _ k => XS.istore X12.here hx rfl (hb hby at_109) rfl (l' := #[jv q1, sd, iv p3, iv p4, iv p5, iv p6, jv v1, sd, jv v2, sd, jv v3, sd, iv v4, iv v5, iv v6, iv v7, iv v8, iv v9, iv v10, iv v11, iv j12_0, un, un, un, un, un, un, un, un, un, un, un]) rfl k) ?_
    show Wlk p.tables e below (T12.setTop (mkF m 111 #[jv q1, sd, iv p3, iv p4, iv p5, iv p6, jv v1, sd, jv v2, sd, jv v3, sd, iv v4, iv v5, iv v6, iv v7, iv v8, iv v9, iv v10, iv v11, iv j12_0, un, un, un, un, un, un, un, un, un, un, un] [])) K
    refine Wlk.of (fun _ k => XS.iconst X12.here hx rfl (hb hby at_111) k) ?_
    show Wlk p.tables e below (T12.setTop (mkF m 112 #[jv q1, sd, iv p3, iv p4, iv p5, iv p6, jv v1, sd, jv v2, sd, jv v3, sd, iv v4, iv v5, iv v6, iv v7, iv v8, iv v9, iv v10, iv v11, iv j12_0, un, un, un, un, un, un, un, un, un, un, un] [(.int (2 : Int32))])) K
    obtain ⟨T13, h13, X13, e13, E13, A13, st13⟩ := newL X12 hx hZ (wd hw 0 rfl) e12 (g := (mkF m 112 #[jv q1, sd, iv p3, iv p4, iv p5, iv p6, jv v1, sd, jv v2, sd, jv v3, sd, iv v4, iv v5, iv v6, iv v7, iv v8, iv v9, iv v10, iv v11, iv j12_0, un, un, un, un, un, un, un, un, un, un, un] [(.int (2 : Int32))])) rfl (hb hby at_112) rfl (by decide) (cap := 2) (by decide) (by decide) (by decide) (by decide)
    obtain ⟨b13, g13⟩ : ∃ z, z = h0.size := ⟨_, rfl⟩
    rw [← g13] at A13 st13
    have sz_b13 : h0.size ≤ b13 := Nat.le_trans K0.1 (Nat.le_of_eq g13.symm)
    have g_b13 : n0 ≤ b13 := Nat.le_trans Z0 sz_b13
    have K15 : Keep h0 h13 [] := K0.ext E13
    have A_b13 : Arl Z h13 b13 .int [(.int (0 : Int32)), (.int (0 : Int32))] := A13
    refine Wlk.of (fun _ k => st13 _ k) ?_
    show Wlk p.tables e below (T13.setTop (mkF m 114 #[jv q1, sd, iv p3, iv p4, iv p5, iv p6, jv v1, sd, jv v2, sd, jv v3, sd, iv v4, iv v5, iv v6, iv v7, iv v8, iv v9, iv v10, iv v11, iv j12_0, un, un, un, un, un, un, un, un, un, un, un] [(.ref b13)])) K
    refine Wlk.of (fun _ k => XS.dup X13.here hx rfl (hb hby at_114) rfl rfl k) ?_
    show Wlk p.tables e below (T13.setTop (mkF m 115 #[jv q1, sd, iv p3, iv p4, iv p5, iv p6, jv v1, sd, jv v2, sd, jv v3, sd, iv v4, iv v5, iv v6, iv v7, iv v8, iv v9, iv v10, iv v11, iv j12_0, un, un, un, un, un, un, un, un, un, un, un] [(.ref b13), (.ref b13)])) K
    refine Wlk.of (fun _ k => XS.iconst X13.here hx rfl (hb hby at_115) k) ?_
    show Wlk p.tables e below (T13.setTop (mkF m 116 #[jv q1, sd, iv p3, iv p4, iv p5, iv p6, jv v1, sd, jv v2, sd, jv v3, sd, iv v4, iv v5, iv v6, iv v7, iv v8, iv v9, iv v10, iv v11, iv j12_0, un, un, un, un, un, un, un, un, un, un, un] [(.int (0 : Int32)), (.ref b13), (.ref b13)])) K
    refine Wlk.of (fun _ k => XS.iload X13.here hx rfl (hb hby at_116) rfl k) ?_
    show Wlk p.tables e below (T13.setTop (mkF m 118 #[jv q1, sd, iv p3, iv p4, iv p5, iv p6, jv v1, sd, jv v2, sd, jv v3, sd, iv v4, iv v5, iv v6, iv v7, iv v8, iv v9, iv v10, iv v11, iv j12_0, un, un, un, un, un, un, un, un, un, un, un] [(.int v5), (.int (0 : Int32)), (.ref b13), (.ref b13)])) K
    obtain ⟨T16, h16, X16, e16, W16, V16, st16⟩ := stIl X13 hx hZ e13 A_b13 (j := (0 : Int32)) (i := 0) (by decide) (by decide) (show 0 < 2 by decide) (g := (mkF m 118 #[jv q1, sd, iv p3, iv p4, iv p5, iv p6, jv v1, sd, jv v2, sd, jv v3, sd, iv v4, iv v5, iv v6, iv v7, iv v8, iv v9, iv v10, iv v11, iv j12_0, un, un, un, un, un, un, un, un, un, un, un] [(.int v5), (.int (0 : Int32)), (.ref b13), (.ref b13)])) rfl rfl (hb hby at_118)
    refine Wlk.of (fun _ k => st16 _ k) ?_
    have K17 : Keep h0 h16 [] := K15.wr W16 (Or.inr sz_b13)
    have N18 := Fr.snoc X16 N0 g_b13
    have Vw16 : Arl Z h16 b13 .int [(.int v5), (.int (0 : Int32))] := V16
    show Wlk p.tables e below (T16.setTop (mkF m 119 #[jv q1, sd, iv p3, iv p4, iv p5, iv p6, jv v1, sd, jv v2, sd, jv v3, sd, iv v4, iv v5, iv v6, iv v7, iv v8, iv v9, iv v10, iv v11, iv j12_0, un, un, un, un, un, un, un, un, un, un, un] [(.ref b13)])) K
    refine Wlk.of (fun _ k => XS.dup X16.here hx rfl (hb hby at_119) rfl rfl k) ?_
    show Wlk p.tables e below (T16.setTop (mkF m 120 #[jv q1, sd, iv p3, iv p4, iv p5, iv p6, jv v1, sd, jv v2, sd, jv v3, sd, iv v4, iv v5, iv v6, iv v7, iv v8, iv v9, iv v10, iv v11, iv j12_0, un, un, un, un, un, un, un, un, un, un, un] [(.ref b13), (.ref b13)])) K
    refine Wlk.of (fun _ k => XS.iconst X16.here hx rfl (hb hby at_120) k) ?_
    show Wlk p.tables e below (T16.setTop (mkF m 121 #[jv q1, sd, iv p3, iv p4, iv p5, iv p6, jv v1, sd, jv v2, sd, jv v3, sd, iv v4, iv v5, iv v6, iv v7, iv v8, iv v9, iv v10, iv v11, iv j12_0, un, un, un, un, un, un, un, un, un, un, un] [(.int (1 : Int32)), (.ref b13), (.ref b13)])) K
    refine Wlk.of (fun _ k => XS.iload X16.here hx rfl (hb hby at_121) rfl k) ?_
    show Wlk p.tables e below (T16.setTop (mkF m 123 #[jv q1, sd, iv p3, iv p4, iv p5, iv p6, jv v1, sd, jv v2, sd, jv v3, sd, iv v4, iv v5, iv v6, iv v7, iv v8, iv v9, iv v10, iv v11, iv j12_0, un, un, un, un, un, un, un, un, un, un, un] [(.int v6), (.int (1 : Int32)), (.ref b13), (.ref b13)])) K
    obtain ⟨T19, h19, X19, e19, W19, V19, st19⟩ := stIl X16 hx hZ e16 Vw16 (j := (1 : Int32)) (i := 1) (by decide) (by decide) (show 1 < 2 by decide) (g := (mkF m 123 #[jv q1, sd, iv p3, iv p4, iv p5, iv p6, jv v1, sd, jv v2, sd, jv v3, sd, iv v4, iv v5, iv v6, iv v7, iv v8, iv v9, iv v10, iv v11, iv j12_0, un, un, un, un, un, un, un, un, un, un, un] [(.int v6), (.int (1 : Int32)), (.ref b13), (.ref b13)])) rfl rfl (hb hby at_123)
    refine Wlk.of (fun _ k => st19 _ k) ?_
    have K20 : Keep h0 h19 [] := K17.wr W19 (Or.inr sz_b13)
    have N21 := Fr.snoc X19 N18 g_b13
    have Vw19 : Arl Z h19 b13 .int [(.int v5), (.int v6)] := V19
    show Wlk p.tables e below (T19.setTop (mkF m 124 #[jv q1, sd, iv p3, iv p4, iv p5, iv p6, jv v1, sd, jv v2, sd, jv v3, sd, iv v4, iv v5, iv v6, iv v7, iv v8, iv v9, iv v10, iv v11, iv j12_0, un, un, un, un, un, un, un, un, un, un, un] [(.ref b13)])) K
    refine Wlk.of (fun _ k => XS.astore X19.here hx rfl (hb hby at_124) rfl rfl (l' := #[jv q1, sd, iv p3, iv p4, iv p5, iv p6, jv v1, sd, jv v2, sd, jv v3, sd, iv v4, iv v5, iv v6, iv v7, iv v8, iv v9, iv v10, iv v11, iv j12_0, rv b13, un, un, un, un, un, un, un, un, un, un]) rfl k) ?_
    show Wlk p.tables e below (T19.setTop (mkF m 126 #[jv q1, sd, iv p3, iv p4, iv p5, iv p6, jv v1, sd, jv v2, sd, jv v3, sd, iv v4, iv v5, iv v6, iv v7, iv v8, iv v9, iv v10, iv v11, iv j12_0, rv b13, un, un, un, un, un, un, un, un, un, un] [])) K
    refine Wlk.of (fun _ k => XS.iconst X19.here hx rfl (hb hby at_126) k) ?_
    show Wlk p.tables e below (T19.setTop (mkF m 127 #[jv q1, sd, iv p3, iv p4, iv p5, iv p6, jv v1, sd, jv v2, sd, jv v3, sd, iv v4, iv v5, iv v6, iv v7, iv v8, iv v9, iv v10, iv v11, iv j12_0, rv b13, un, un, un, un, un, un, un, un, un, un] [(.int (2 : Int32))])) K
    obtain ⟨T22, h22, X22, e22, E22, A22, st22⟩ := newL X19 hx hZ (wd hw 0 rfl) e19 (g := (mkF m 127 #[jv q1, sd, iv p3, iv p4, iv p5, iv p6, jv v1, sd, jv v2, sd, jv v3, sd, iv v4, iv v5, iv v6, iv v7, iv v8, iv v9, iv v10, iv v11, iv j12_0, rv b13, un, un, un, un, un, un, un, un, un, un] [(.int (2 : Int32))])) rfl (hb hby at_127) rfl (by decide) (cap := 2) (by decide) (by decide) (by decide) (by decide)
    obtain ⟨b22, g22⟩ : ∃ z, z = h19.size := ⟨_, rfl⟩
    rw [← g22] at A22 st22
    have ne23 : b13 ≠ b22 := Nat.ne_of_lt (Nat.lt_of_lt_of_le Vw19.lt (Nat.le_of_eq g22.symm))
    have sz_b22 : h0.size ≤ b22 := Nat.le_trans K20.1 (Nat.le_of_eq g22.symm)
    have g_b22 : n0 ≤ b22 := Nat.le_trans Z0 sz_b22
    have K25 : Keep h0 h22 [] := K20.ext E22
    have A_b22 : Arl Z h22 b22 .int [(.int (0 : Int32)), (.int (0 : Int32))] := A22
    refine Wlk.of (fun _ k => st22 _ k) ?_
    show Wlk p.tables e below (T22.setTop (mkF m 129 #[jv q1, sd, iv p3, iv p4, iv p5, iv p6, jv v1, sd, jv v2, sd, jv v3, sd, iv v4, iv v5, iv v6, iv v7, iv v8, iv v9, iv v10, iv v11, iv j12_0, rv b13, un, un, un, un, un, un, un, un, un, un] [(.ref b22)])) K
    refine Wlk.of (fun _ k => XS.dup X22.here hx rfl (hb hby at_129) rfl rfl k) ?_
    show Wlk p.tables e below (T22.setTop (mkF m 130 #[jv q1, sd, iv p3, iv p4, iv p5, iv p6, jv v1, sd, jv v2, sd, jv v3, sd, iv v4, iv v5, iv v6, iv v7, iv v8, iv v9, iv v10, iv v11, iv j12_0, rv b13, un, un, un, un, un, un, un, un, un, un] [(.ref b22), (.ref b22)])) K
    refine Wlk.of (fun _ k => XS.iconst X22.here hx rfl (hb hby at_130) k) ?_
    show Wlk p.tables e below (T22.setTop (mkF m 131 #[jv q1, sd, iv p3, iv p4, iv p5, iv p6, jv v1, sd, jv v2, sd, jv v3, sd, iv v4, iv v5, iv v6, iv v7, iv v8, iv v9, iv v10, iv v11, iv j12_0, rv b13, un, un, un, un, un, un, un, un, un, un] [(.int (0 : Int32)), (.ref b22), (.ref b22)])) K
    refine Wlk.of (fun _ k => XS.iload X22.here hx rfl (hb hby at_131) rfl k) ?_
    show Wlk p.tables e below (T22.setTop (mkF m 133 #[jv q1, sd, iv p3, iv p4, iv p5, iv p6, jv v1, sd, jv v2, sd, jv v3, sd, iv v4, iv v5, iv v6, iv v7, iv v8, iv v9, iv v10, iv v11, iv j12_0, rv b13, un, un, un, un, un, un, un, un, un, un] [(.int v5), (.int (0 : Int32)), (.ref b22), (.ref b22)])) K
    refine Wlk.of (fun _ k => XS.iload X22.here hx rfl (hb hby at_133) rfl k) ?_
    show Wlk p.tables e below (T22.setTop (mkF m 135 #[jv q1, sd, iv p3, iv p4, iv p5, iv p6, jv v1, sd, jv v2, sd, jv v3, sd, iv v4, iv v5, iv v6, iv v7, iv v8, iv v9, iv v10, iv v11, iv j12_0, rv b13, un, un, un, un, un, un, un, un, un, un] [(.int v10), (.int v5), (.int (0 : Int32)), (.ref b22), (.ref b22)])) K
    refine Wlk.of (fun _ k => XS.iadd X22.here hx rfl (hb hby at_135) rfl k) ?_
    show Wlk p.tables e below (T22.setTop (mkF m 136 #[jv q1, sd, iv p3, iv p4, iv p5, iv p6, jv v1, sd, jv v2, sd, jv v3, sd, iv v4, iv v5, iv v6, iv v7, iv v8, iv v9, iv v10, iv v11, iv j12_0, rv b13, un, un, un, un, un, un, un, un, un, un] [(.int (v5 + v10)), (.int (0 : Int32)), (.ref b22), (.ref b22)])) K
    obtain ⟨T26, h26, X26, e26, W26, V26, st26⟩ := stIl X22 hx hZ e22 A_b22 (j := (0 : Int32)) (i := 0) (by decide) (by decide) (show 0 < 2 by decide) (g := (mkF m 136 #[jv q1, sd, iv p3, iv p4, iv p5, iv p6, jv v1, sd, jv v2, sd, jv v3, sd, iv v4, iv v5, iv v6, iv v7, iv v8, iv v9, iv v10, iv v11, iv j12_0, rv b13, un, un, un, un, un, un, un, un, un, un] [(.int (v5 + v10)), (.int (0 : Int32)), (.ref b22), (.ref b22)])) rfl rfl (hb hby at_136)
    refine Wlk.of (fun _ k => st26 _ k) ?_
    have K27 : Keep h0 h26 [] := K25.wr W26 (Or.inr sz_b22)
    have N28 := Fr.snoc X26 N21 g_b22
    have Vw26 : Arl Z h26 b22 .int [(.int (v5 + v10)), (.int (0 : Int32))] := V26
    show Wlk p.tables e below (T26.setTop (mkF m 137 #[jv q1, sd, iv p3, iv p4, iv p5, iv p6, jv v1, sd, jv v2, sd, jv v3, sd, iv v4, iv v5, iv v6, iv v7, iv v8, iv v9, iv v10, iv v11, iv j12_0, rv b13, un, un, un, un, un, un, un, un, un, un] [(.ref b22)])) K
    refine Wlk.of (fun _ k => XS.dup X26.here hx rfl (hb hby at_137) rfl rfl k) ?_
    show Wlk p.tables e below (T26.setTop (mkF m 138 #[jv q1, sd, iv p3, iv p4, iv p5, iv p6, jv v1, sd, jv v2, sd, jv v3, sd, iv v4, iv v5, iv v6, iv v7, iv v8, iv v9, iv v10, iv v11, iv j12_0, rv b13, un, un, un, un, un, un, un, un, un, un] [(.ref b22), (.ref b22)])) K
    refine Wlk.of (fun _ k => XS.iconst X26.here hx rfl (hb hby at_138) k) ?_
    show Wlk p.tables e below (T26.setTop (mkF m 139 #[jv q1, sd, iv p3, iv p4, iv p5, iv p6, jv v1, sd, jv v2, sd, jv v3, sd, iv v4, iv v5, iv v6, iv v7, iv v8, iv v9, iv v10, iv v11, iv j12_0, rv b13, un, un, un, un, un, un, un, un, un, un] [(.int (1 : Int32)), (.ref b22), (.ref b22)])) K
    refine Wlk.of (fun _ k => XS.iload X26.here hx rfl (hb hby at_139) rfl k) ?_
    show Wlk p.tables e below (T26.setTop (mkF m 141 #[jv q1, sd, iv p3, iv p4, iv p5, iv p6, jv v1, sd, jv v2, sd, jv v3, sd, iv v4, iv v5, iv v6, iv v7, iv v8, iv v9, iv v10, iv v11, iv j12_0, rv b13, un, un, un, un, un, un, un, un, un, un] [(.int v6), (.int (1 : Int32)), (.ref b22), (.ref b22)])) K
    refine Wlk.of (fun _ k => XS.iload X26.here hx rfl (hb hby at_141) rfl k) ?_
    show Wlk p.tables e below (T26.setTop (mkF m 143 #[jv q1, sd, iv p3, iv p4, iv p5, iv p6, jv v1, sd, jv v2, sd, jv v3, sd, iv v4, iv v5, iv v6, iv v7, iv v8, iv v9, iv v10, iv v11, iv j12_0, rv b13, un, un, un, un, un, un, un, un, un, un] [(.int v11), (.int v6), (.int (1 : Int32)), (.ref b22), (.ref b22)])) K
    refine Wlk.of (fun _ k => XS.iadd X26.here hx rfl (hb hby at_143) rfl k) ?_
    show Wlk p.tables e below (T26.setTop (mkF m 144 #[jv q1, sd, iv p3, iv p4, iv p5, iv p6, jv v1, sd, jv v2, sd, jv v3, sd, iv v4, iv v5, iv v6, iv v7, iv v8, iv v9, iv v10, iv v11, iv j12_0, rv b13, un, un, un, un, un, un, un, un, un, un] [(.int (v6 + v11)), (.int (1 : Int32)), (.ref b22), (.ref b22)])) K
    obtain ⟨T29, h29, X29, e29, W29, V29, st29⟩ := stIl X26 hx hZ e26 Vw26 (j := (1 : Int32)) (i := 1) (by decide) (by decide) (show 1 < 2 by decide) (g := (mkF m 144 #[jv q1, sd, iv p3, iv p4, iv p5, iv p6, jv v1, sd, jv v2, sd, jv v3, sd, iv v4, iv v5, iv v6, iv v7, iv v8, iv v9, iv v10, iv v11, iv j12_0, rv b13, un, un, un, un, un, un, un, un, un, un] [(.int (v6 + v11)), (.int (1 : Int32)), (.ref b22), (.ref b22)])) rfl rfl (hb hby at_144)
    refine Wlk.of (fun _ k => st29 _ k) ?_
    have K30 : Keep h0 h29 [] := K27.wr W29 (Or.inr sz_b22)
    have N31 := Fr.snoc X29 N28 g_b22
    have Vw29 : Arl Z h29 b22 .int [(.int (v5 + v10)), (.int (v6 + v11))] := V29
    show Wlk p.tables e below (T29.setTop (mkF m 145 #[jv q1, sd, iv p3, iv p4, iv p5, iv p6, jv v1, sd, jv v2, sd, jv v3, sd, iv v4, iv v5, iv v6, iv v7, iv v8, iv v9, iv v10, iv v11, iv j12_0, rv b13, un, un, un, un, un, un, un, un, un, un] [(.ref b22)])) K
    refine Wlk.of (fun _ k => XS.astore X29.here hx rfl (hb hby at_145) rfl rfl (l' := #[jv q1, sd, iv p3, iv p4, iv p5, iv p6, jv v1, sd, jv v2, sd, jv v3, sd, iv v4, iv v5, iv v6, iv v7, iv v8, iv v9, iv v10, iv v11, iv j12_0, rv b13, rv b22, un, un, un, un, un, un, un, un, un]) rfl k) ?_
    show Wlk p.tables e below (T29.setTop (mkF m 147 #[jv q1, sd, iv p3, iv p4, iv p5, iv p6, jv v1, sd, jv v2, sd, jv v3, sd, iv v4, iv v5, iv v6, iv v7, iv v8, iv v9, iv v10, iv v11, iv j12_0, rv b13, rv b22, un, un, un, un, un, un, un, un, un] [])) K
    obtain ⟨T32, h32, X32, e32, E32, A32, D32, -, st32⟩ := newO X29 hx hZ hown (wd hw 1 rfl) (wd hw 2 rfl) (wd hw 3 rfl) e29 (g := (mkF m 147 #[jv q1, sd, iv p3, iv p4, iv p5, iv p6, jv v1, sd, jv v2, sd, jv v3, sd, iv v4, iv v5, iv v6, iv v7, iv v8, iv v9, iv v10, iv v11, iv j12_0, rv b13, rv b22, un, un, un, un, un, un, un, un, un] [])) rfl (hb hby at_147) (by decide) (by decide)
    obtain ⟨b32, g32⟩ : ∃ z, z = h29.size := ⟨_, rfl⟩
    rw [← g32] at A32 D32 st32
    have f34 : Arl Z h29 b13 .int [(.int v5), (.int v6)] := (((Vw19.ext E22).other W26 ne23).other W29 ne23)
    have ne33 : b13 ≠ b32 := Nat.ne_of_lt (Nat.lt_of_lt_of_le f34.lt (Nat.le_of_eq g32.symm))
    have ne35 : b22 ≠ b32 := Nat.ne_of_lt (Nat.lt_of_lt_of_le Vw29.lt (Nat.le_of_eq g32.symm))
    have sz_b32 : h0.size ≤ b32 := Nat.le_trans K30.1 (Nat.le_of_eq g32.symm)
    have g_b32 : n0 ≤ b32 := Nat.le_trans Z0 sz_b32
    have K37 : Keep h0 h32 [] := K30.ext E32
    have F_b32_pricesMinutes : Fld Z h32 b32 "com/example/wardwise/wardwise/solver/LimitPrices" "pricesMinutes" "Z" (.int (0 : Int32)) := D32 (Or.inl (wd hw 11 rfl)) (ty := .boolean) (by decide)
    have F_b32_minuteScale : Fld Z h32 b32 "com/example/wardwise/wardwise/solver/LimitPrices" "minuteScale" "D" (.double (0 : UInt64)) := D32 (Or.inr (wd hw 13 rfl)) (ty := .double) (by decide)
    have F_b32_maxMinutes : Fld Z h32 b32 "com/example/wardwise/wardwise/solver/LimitPrices" "maxMinutes" "J" (.long (0 : Int64)) := D32 (Or.inr (wd hw 15 rfl)) (ty := .long) (by decide)
    have F_b32_minMinutes : Fld Z h32 b32 "com/example/wardwise/wardwise/solver/LimitPrices" "minMinutes" "J" (.long (0 : Int64)) := D32 (Or.inr (wd hw 17 rfl)) (ty := .long) (by decide)
    have F_b32_maxWeekends : Fld Z h32 b32 "com/example/wardwise/wardwise/solver/LimitPrices" "maxWeekends" "I" (.int (0 : Int32)) := D32 (Or.inr (wd hw 19 rfl)) (ty := .int) (by decide)
    have F_b32_limits : Fld Z h32 b32 "com/example/wardwise/wardwise/solver/LimitPrices" "limits" "[I" .null := D32 (Or.inr (wd hw 21 rfl)) (ty := (.array .int)) (by decide)
    have F_b32_price : Fld Z h32 b32 "com/example/wardwise/wardwise/solver/LimitPrices" "price" "[D" .null := D32 (Or.inr (wd hw 24 rfl)) (ty := (.array .double)) (by decide)
    have F_b32_stepSize : Fld Z h32 b32 "com/example/wardwise/wardwise/solver/LimitPrices" "stepSize" "[D" .null := D32 (Or.inr (wd hw 26 rfl)) (ty := (.array .double)) (by decide)
    have F_b32_lastSide : Fld Z h32 b32 "com/example/wardwise/wardwise/solver/LimitPrices" "lastSide" "[I" .null := D32 (Or.inr (wd hw 28 rfl)) (ty := (.array .int)) (by decide)
    refine Wlk.of (fun _ k => st32 _ k) ?_
    show Wlk p.tables e below (T32.setTop (mkF m 150 #[jv q1, sd, iv p3, iv p4, iv p5, iv p6, jv v1, sd, jv v2, sd, jv v3, sd, iv v4, iv v5, iv v6, iv v7, iv v8, iv v9, iv v10, iv v11, iv j12_0, rv b13, rv b22, un, un, un, un, un, un, un, un, un] [(.ref b32)])) K
    refine Wlk.of (fun _ k => XS.dup X32.here hx rfl (hb hby at_150) rfl rfl k) ?_
    show Wlk p.tables e below (T32.setTop (mkF m 151 #[jv q1, sd, iv p3, iv p4, iv p5, iv p6, jv v1, sd, jv v2, sd, jv v3, sd, iv v4, iv v5, iv v6, iv v7, iv v8, iv v9, iv v10, iv v11, iv j12_0, rv b13, rv b22, un, un, un, un, un, un, un, un, un] [(.ref b32), (.ref b32)])) K
    refine Wlk.of (fun _ k => XS.iload X32.here hx rfl (hb hby at_151) rfl k) ?_
    show Wlk p.tables e below (T32.setTop (mkF m 153 #[jv q1, sd, iv p3, iv p4, iv p5, iv p6, jv v1, sd, jv v2, sd, jv v3, sd, iv v4, iv v5, iv v6, iv v7, iv v8, iv v9, iv v10, iv v11, iv j12_0, rv b13, rv b22, un, un, un, un, un, un, un, un, un] [(.int v8), (.ref b32), (.ref b32)])) K
    refine Wlk.of (fun _ k => XS.i2dS X32.here hx rfl (hb hby at_153) rfl rfl k) ?_
    show Wlk p.tables e below (T32.setTop (mkF m 154 #[jv q1, sd, iv p3, iv p4, iv p5, iv p6, jv v1, sd, jv v2, sd, jv v3, sd, iv v4, iv v5, iv v6, iv v7, iv v8, iv v9, iv v10, iv v11, iv j12_0, rv b13, rv b22, un, un, un, un, un, un, un, un, un] [(.double (FP.i2d v8)), (.ref b32), (.ref b32)])) K
    refine Wlk.of (fun _ k => XS.lload X32.here hx rfl (hb hby at_154) rfl k) ?_
    show Wlk p.tables e below (T32.setTop (mkF m 156 #[jv q1, sd, iv p3, iv p4, iv p5, iv p6, jv v1, sd, jv v2, sd, jv v3, sd, iv v4, iv v5, iv v6, iv v7, iv v8, iv v9, iv v10, iv v11, iv j12_0, rv b13, rv b22, un, un, un, un, un, un, un, un, un] [(.long v1), (.double (FP.i2d v8)), (.ref b32), (.ref b32)])) K
    refine Wlk.of (fun _ k => XS.lload X32.here hx rfl (hb hby at_156) rfl k) ?_
    show Wlk p.tables e below (T32.setTop (mkF m 158 #[jv q1, sd, iv p3, iv p4, iv p5, iv p6, jv v1, sd, jv v2, sd, jv v3, sd, iv v4, iv v5, iv v6, iv v7, iv v8, iv v9, iv v10, iv v11, iv j12_0, rv b13, rv b22, un, un, un, un, un, un, un, un, un] [(.long v3), (.long v1), (.double (FP.i2d v8)), (.ref b32), (.ref b32)])) K
    refine Wlk.of (fun _ k => XS.iload X32.here hx rfl (hb hby at_158) rfl k) ?_
    show Wlk p.tables e below (T32.setTop (mkF m 160 #[jv q1, sd, iv p3, iv p4, iv p5, iv p6, jv v1, sd, jv v2, sd, jv v3, sd, iv v4, iv v5, iv v6, iv v7, iv v8, iv v9, iv v10, iv v11, iv j12_0, rv b13, rv b22, un, un, un, un, un, un, un, un, un] [(.int v4), (.long v3), (.long v1), (.double (FP.i2d v8)), (.ref b32), (.ref b32)])) K
    refine Wlk.of (fun _ k => XS.aload X32.here hx rfl (hb hby at_160) rfl rfl k) ?_
    show Wlk p.tables e below (T32.setTop (mkF m 162 #[jv q1, sd, iv p3, iv p4, iv p5, iv p6, jv v1, sd, jv v2, sd, jv v3, sd, iv v4, iv v5, iv v6, iv v7, iv v8, iv v9, iv v10, iv v11, iv j12_0, rv b13, rv b22, un, un, un, un, un, un, un, un, un] [(.ref b13), (.int v4), (.long v3), (.long v1), (.double (FP.i2d v8)), (.ref b32), (.ref b32)])) K
    have f38 : Arl Z h32 b13 .int [(.int v5), (.int v6)] := (f34.ext E32)
    obtain ⟨v39, T39, L39, X39, q39, st39⟩ := Ctr.special (rmI l Z a0 hw b32 ((FP.i2d v8)) v1 v3 v4 b13 v5 v6 h32 n0 (Nat.le_trans Z0 K37.1) A32 F_b32_pricesMinutes F_b32_minuteScale F_b32_maxMinutes F_b32_minMinutes F_b32_maxWeekends F_b32_limits F_b32_price F_b32_stepSize F_b32_lastSide f38 (Ne.symm ne33) g_b32) X32 hx hZ e32 hown rfl (wd hw 4 rfl) (wd hw 5 rfl) (wd hw 3 rfl) (wd hw 6 rfl) (by decide) pd_429 (g := (mkF m 162 #[jv q1, sd, iv p3, iv p4, iv p5, iv p6, jv v1, sd, jv v2, sd, jv v3, sd, iv v4, iv v5, iv v6, iv v7, iv v8, iv v9, iv v10, iv v11, iv j12_0, rv b13, rv b22, un, un, un, un, un, un, un, un, un] [(.ref b13), (.int v4), (.long v3), (.long v1), (.double (FP.i2d v8)), (.ref b32), (.ref b32)])) rfl (by rw [hml]; rfl) (a := b32) (argsL := [(.double (FP.i2d v8)), (.long v1), (.long v3), (.int v4), (.ref b13)]) (rest := [(.ref b32)]) rfl rfl rfl (W := 1) (by show 2 * 0 + _ ≤ _; exact Nat.le_of_eq rfl) (by decide) (by decide) (hb hby at_162) (by decide) (by decide)
    obtain ⟨pri_39, stp_39, lst_39, rfl, N39q, K39q, p39_0, p39_1, p39_2, p39_3, p39_4, p39_5, p39_6, p39_7, p39_8, p39_9, p39_10, p39_11, p39_12, p39_13, p39_14, p39_15, p39_16, p39_17⟩ := q39
    have N40 := Fr.app N31 N39q
    refine Wlk.of (fun _ k => st39 _ k) ?_
    have ne41 : b13 ≠ pri_39 := Nat.ne_of_lt (Nat.lt_of_lt_of_le f38.lt p39_0)
    have f43 : Arl Z h32 b22 .int [(.int (v5 + v10)), (.int (v6 + v11))] := (Vw29.ext E32)
    have ne42 : b22 ≠ pri_39 := Nat.ne_of_lt (Nat.lt_of_lt_of_le f43.lt p39_0)
    have ne44 : b32 ≠ pri_39 := Nat.ne_of_lt (Nat.lt_of_lt_of_le A32.lt p39_0)
    have sz_pri_39 : h0.size ≤ pri_39 := Nat.le_trans K37.1 p39_0
    have g_pri_39 : n0 ≤ pri_39 := Nat.le_trans Z0 sz_pri_39
    have ne45 : b13 ≠ stp_39 := Nat.ne_of_lt (Nat.lt_of_lt_of_le f38.lt p39_1)
    have ne46 : b22 ≠ stp_39 := Nat.ne_of_lt (Nat.lt_of_lt_of_le f43.lt p39_1)
    have ne47 : b32 ≠ stp_39 := Nat.ne_of_lt (Nat.lt_of_lt_of_le A32.lt p39_1)
    have sz_stp_39 : h0.size ≤ stp_39 := Nat.le_trans K37.1 p39_1
    have g_stp_39 : n0 ≤ stp_39 := Nat.le_trans Z0 sz_stp_39
    have ne48 : b13 ≠ lst_39 := Nat.ne_of_lt (Nat.lt_of_lt_of_le f38.lt p39_2)
    have ne49 : b22 ≠ lst_39 := Nat.ne_of_lt (Nat.lt_of_lt_of_le f43.lt p39_2)
    have ne50 : b32 ≠ lst_39 := Nat.ne_of_lt (Nat.lt_of_lt_of_le A32.lt p39_2)
    have sz_lst_39 : h0.size ≤ lst_39 := Nat.le_trans K37.1 p39_2
    have g_lst_39 : n0 ≤ lst_39 := Nat.le_trans Z0 sz_lst_39
    have K51 : Keep h0 T39.heap [] := K37.trans K39q (allS (Or.inr sz_b32) all0)
    show Wlk p.tables e below (T39.setTop (mkF m 165 #[jv q1, sd, iv p3, iv p4, iv p5, iv p6, jv v1, sd, jv v2, sd, jv v3, sd, iv v4, iv v5, iv v6, iv v7, iv v8, iv v9, iv v10, iv v11, iv j12_0, rv b13, rv b22, un, un, un, un, un, un, un, un, un] [(.ref b32)])) K
    refine Wlk.of (fun _ k => XS.astore X39.here hx rfl (hb hby at_165) rfl rfl (l' := #[jv q1, sd, iv p3, iv p4, iv p5, iv p6, jv v1, sd, jv v2, sd, jv v3, sd, iv v4, iv v5, iv v6, iv v7, iv v8, iv v9, iv v10, iv v11, iv j12_0, rv b13, rv b22, rv b32, un, un, un, un, un, un, un, un]) rfl k) ?_
    show Wlk p.tables e below (T39.setTop (mkF m 167 #[jv q1, sd, iv p3, iv p4, iv p5, iv p6, jv v1, sd, jv v2, sd, jv v3, sd, iv v4, iv v5, iv v6, iv v7, iv v8, iv v9, iv v10, iv v11, iv j12_0, rv b13, rv b22, rv b32, un, un, un, un, un, un, un, un] [])) K
    refine Wlk.of (fun _ k => XS.iload X39.here hx rfl (hb hby at_167) rfl k) ?_
    show Wlk p.tables e below (T39.setTop (mkF m 169 #[jv q1, sd, iv p3, iv p4, iv p5, iv p6, jv v1, sd, jv v2, sd, jv v3, sd, iv v4, iv v5, iv v6, iv v7, iv v8, iv v9, iv v10, iv v11, iv j12_0, rv b13, rv b22, rv b32, un, un, un, un, un, un, un, un] [(.int j12_0)])) K
    have J52 : ∀ (T52 : State) (h52 : Heap) (ls52 : List Loc) (j52_0 : Int32), j52_0 = (if j12_0 = (0 : Int32) then (0 : Int32) else (1 : Int32)) → Stand p l e room_1 s m #[(.long q1), (.int p3), (.int p4), (.int p5), (.int p6)] below meth c T52 ls52 6 28 → T52.heap = h52 → Fr n0 ls52 → Keep h0 h52 [] → Arl Z h52 b13 .int [(.int v5), (.int v6)] → Arl Z h52 b22 .int [(.int (v5 + v10)), (.int (v6 + v11))] → Exa Z h52 b32 "com/example/wardwise/wardwise/solver/LimitPrices" → Arl Z h52 stp_39 .double [(.double (0 : UInt64)), (.double (0 : UInt64)), (.double (0 : UInt64)), (.double (0 : UInt64)), (.double (0 : UInt64))] → Arl Z h52 lst_39 .int [(.int (0 : Int32)), (.int (0 : Int32)), (.int (0 : Int32)), (.int (0 : Int32)), (.int (0 : Int32))] → Fld Z h52 b32 "com/example/wardwise/wardwise/solver/LimitPrices" "pricesMinutes" "Z" (.int j52_0) → Fld Z h52 b32 "com/example/wardwise/wardwise/solver/LimitPrices" "minuteScale" "D" (.double (FP.i2d v8)) → Fld Z h52 b32 "com/example/wardwise/wardwise/solver/LimitPrices" "maxMinutes" "J" (.long v1) → Fld Z h52 b32 "com/example/wardwise/wardwise/solver/LimitPrices" "minMinutes" "J" (.long v3) → Fld Z h52 b32 "com/example/wardwise/wardwise/solver/LimitPrices" "maxWeekends" "I" (.int v4) → Fld Z h52 b32 "com/example/wardwise/wardwise/solver/LimitPrices" "limits" "[I" (.ref b13) → Fld Z h52 b32 "com/example/wardwise/wardwise/solver/LimitPrices" "price" "[D" (.ref pri_39) → Fld Z h52 b32 "com/example/wardwise/wardwise/solver/LimitPrices" "stepSize" "[D" (.ref stp_39) → Fld Z h52 b32 "com/example/wardwise/wardwise/solver/LimitPrices" "lastSide" "[I" (.ref lst_39) → Arl Z h52 pri_39 .double [(.double (0 : UInt64)), (.double (0 : UInt64)), (.double (0 : UInt64)), (.double (0 : UInt64)), (.double (0 : UInt64))] → Wlk p.tables e below (T52.setTop (mkF m 178 #[jv q1, sd, iv p3, iv p4, iv p5, iv p6, jv v1, sd, jv v2, sd, jv v3, sd, iv v4, iv v5, iv v6, iv v7, iv v8, iv v9, iv v10, iv v11, iv j12_0, rv b13, rv b22, rv b32, un, un, un, un, un, un, un, un] [])) K := by
      intro T52 h52 ls52 j52_0 hj52_0 X52 e52 N52 K52 z52_0 z52_1 z52_2 z52_3 z52_4 z52_5 z52_6 z52_7 z52_8 z52_9 z52_10 z52_11 z52_12 z52_13 z52_14
      have hs0 : 0 ≤ v7.toInt ∧ v7.toInt ≤ 255 := by have q := and32 p6 (255 : Int32) (by decide); rw [hv7] at q; exact q
      obtain ⟨t, ht0⟩ : ∃ z, v7.toInt64 = z := ⟨_, rfl⟩
      have ht : 0 ≤ t.toInt ∧ t.toInt ≤ 255 := by rw [← ht0, Int32.toInt_toInt64]; exact hs0
      have hst := own_st hs0.1 hs0.2
      rw [ht0] at hst
      have k2 := own_side (m := v4) (own_d4 hv9)
      have k3 := own_side (m := v5) (own_d4 hv10)
      have k4 := own_side (m := v6) (own_d4 hv11)
      refine Wlk.of (fun _ k => XS.aload X52.here hx rfl (hb hby at_178) rfl rfl k) ?_
      show Wlk p.tables e below (T52.setTop (mkF m 180 #[jv q1, sd, iv p3, iv p4, iv p5, iv p6, jv v1, sd, jv v2, sd, jv v3, sd, iv v4, iv v5, iv v6, iv v7, iv v8, iv v9, iv v10, iv v11, iv j12_0, rv b13, rv b22, rv b32, un, un, un, un, un, un, un, un] [(.ref b32)])) K
      refine Wlk.of (fun _ k => X52.ldc2DoubleC hx hown (mvT hZ (wd hw 29 rfl)) (g := (mkF m 180 #[jv q1, sd, iv p3, iv p4, iv p5, iv p6, jv v1, sd, jv v2, sd, jv v3, sd, iv v4, iv v5, iv v6, iv v7, iv v8, iv v9, iv v10, iv v11, iv j12_0, rv b13, rv b22, rv b32, un, un, un, un, un, un, un, un] [(.ref b32)])) rfl (hb hby at_180) _ k) ?_
      show Wlk p.tables e below (T52.setTop (mkF m 183 #[jv q1, sd, iv p3, iv p4, iv p5, iv p6, jv v1, sd, jv v2, sd, jv v3, sd, iv v4, iv v5, iv v6, iv v7, iv v8, iv v9, iv v10, iv v11, iv j12_0, rv b13, rv b22, rv b32, un, un, un, un, un, un, un, un] [(.double (4616189618054758400 : UInt64)), (.ref b32)])) K
      refine Wlk.of (fun _ k => XS.iload X52.here hx rfl (hb hby at_183) rfl k) ?_
      show Wlk p.tables e below (T52.setTop (mkF m 185 #[jv q1, sd, iv p3, iv p4, iv p5, iv p6, jv v1, sd, jv v2, sd, jv v3, sd, iv v4, iv v5, iv v6, iv v7, iv v8, iv v9, iv v10, iv v11, iv j12_0, rv b13, rv b22, rv b32, un, un, un, un, un, un, un, un] [(.int v7), (.double (4616189618054758400 : UInt64)), (.ref b32)])) K
      refine Wlk.of (fun _ k => XS.i2dS X52.here hx rfl (hb hby at_185) rfl rfl k) ?_
      show Wlk p.tables e below (T52.setTop (mkF m 186 #[jv q1, sd, iv p3, iv p4, iv p5, iv p6, jv v1, sd, jv v2, sd, jv v3, sd, iv v4, iv v5, iv v6, iv v7, iv v8, iv v9, iv v10, iv v11, iv j12_0, rv b13, rv b22, rv b32, un, un, un, un, un, un, un, un] [(.double (FP.i2d v7)), (.double (4616189618054758400 : UInt64)), (.ref b32)])) K
      refine Wlk.of (fun _ k => XS.dmulS X52.here hx rfl (hb hby at_186) rfl (Fl.dmul_out (by unfold Fl.Fin64; decide) (Fl.i2d_fin _)) rfl k) ?_
      show Wlk p.tables e below (T52.setTop (mkF m 187 #[jv q1, sd, iv p3, iv p4, iv p5, iv p6, jv v1, sd, jv v2, sd, jv v3, sd, iv v4, iv v5, iv v6, iv v7, iv v8, iv v9, iv v10, iv v11, iv j12_0, rv b13, rv b22, rv b32, un, un, un, un, un, un, un, un] [(.double (FP.dmul (4616189618054758400 : UInt64) (FP.i2d v7))), (.ref b32)])) K
      obtain ⟨v53, T53, L53, X53, q53, st53⟩ := Ctr.virtual (y := (⟨"com/example/wardwise/wardwise/solver/LimitPrices", "startSteps", "(D)V"⟩ : MethodName)) (rmS l Z a0 hw b32 ((FP.dmul (4616189618054758400 : UInt64) (FP.i2d v7))) pri_39 stp_39 lst_39 h52 n0 (Nat.le_trans Z0 K52.1) z52_11 z52_12 z52_13 z52_14 z52_3 z52_4 ne44 ne47 ne50 p39_15 p39_16 p39_17 g_stp_39 g_lst_39 (by rw [hst]; exact (Fl.l2d_fin t).noNaN)) X52 hx hZ e52 hown (wd hw 30 rfl) (wd hw 31 rfl) (notFace_of_selects (args := #[]) (mvT hZ (wd hw 33 rfl))) (wd hw 33 rfl) (wd hw 32 rfl) (wd hw 3 rfl) (wd hw 34 rfl) (by decide) z52_2 pd_431 (g := (mkF m 187 #[jv q1, sd, iv p3, iv p4, iv p5, iv p6, jv v1, sd, jv v2, sd, jv v3, sd, iv v4, iv v5, iv v6, iv v7, iv v8, iv v9, iv v10, iv v11, iv j12_0, rv b13, rv b22, rv b32, un, un, un, un, un, un, un, un] [(.double (FP.dmul (4616189618054758400 : UInt64) (FP.i2d v7))), (.ref b32)])) rfl (by rw [hml]; rfl) (argsL := [(.double (FP.dmul (4616189618054758400 : UInt64) (FP.i2d v7)))]) (rest := []) rfl rfl rfl (W := 0) (by show 2 * 0 + _ ≤ _; exact Nat.le_of_eq rfl) (by decide) (by decide) (hb hby at_187) (by decide) (by decide)
      obtain ⟨rfl, N53q, K53q, p53_0, p53_1⟩ := q53
      have N54 := Fr.app N52 N53q
      refine Wlk.of (fun _ k => st53 _ k) ?_
      have K55 : Keep h0 T53.heap [] := K52.trans K53q (allS (Or.inr sz_stp_39) (allS (Or.inr sz_lst_39) all0))
      show Wlk p.tables e below (T53.setTop (mkF m 190 #[jv q1, sd, iv p3, iv p4, iv p5, iv p6, jv v1, sd, jv v2, sd, jv v3, sd, iv v4, iv v5, iv v6, iv v7, iv v8, iv v9, iv v10, iv v11, iv j12_0, rv b13, rv b22, rv b32, un, un, un, un, un, un, un, un] [])) K
      have A_st : Arl Z T53.heap stp_39 .double [(.double (FP.l2d t)), (.double (FP.l2d t)), (.double (FP.l2d t)), (.double (FP.l2d t)), (.double (FP.l2d t))] := by rw [← hst]; exact p53_0
      refine Wlk.of (fun _ k => XS.aload X53.here hx rfl (hb hby at_190) rfl rfl k) ?_
      show Wlk p.tables e below (T53.setTop (mkF m 192 #[jv q1, sd, iv p3, iv p4, iv p5, iv p6, jv v1, sd, jv v2, sd, jv v3, sd, iv v4, iv v5, iv v6, iv v7, iv v8, iv v9, iv v10, iv v11, iv j12_0, rv b13, rv b22, rv b32, un, un, un, un, un, un, un, un] [(.ref b32)])) K
      refine Wlk.of (fun _ k => XS.lload X53.here hx rfl (hb hby at_192) rfl k) ?_
      show Wlk p.tables e below (T53.setTop (mkF m 194 #[jv q1, sd, iv p3, iv p4, iv p5, iv p6, jv v1, sd, jv v2, sd, jv v3, sd, iv v4, iv v5, iv v6, iv v7, iv v8, iv v9, iv v10, iv v11, iv j12_0, rv b13, rv b22, rv b32, un, un, un, un, un, un, un, un] [(.long v2), (.ref b32)])) K
      refine Wlk.of (fun _ k => XS.iload X53.here hx rfl (hb hby at_194) rfl k) ?_
      show Wlk p.tables e below (T53.setTop (mkF m 196 #[jv q1, sd, iv p3, iv p4, iv p5, iv p6, jv v1, sd, jv v2, sd, jv v3, sd, iv v4, iv v5, iv v6, iv v7, iv v8, iv v9, iv v10, iv v11, iv j12_0, rv b13, rv b22, rv b32, un, un, un, un, un, un, un, un] [(.int v4), (.long v2), (.ref b32)])) K
      refine Wlk.of (fun _ k => XS.iload X53.here hx rfl (hb hby at_196) rfl k) ?_
      show Wlk p.tables e below (T53.setTop (mkF m 198 #[jv q1, sd, iv p3, iv p4, iv p5, iv p6, jv v1, sd, jv v2, sd, jv v3, sd, iv v4, iv v5, iv v6, iv v7, iv v8, iv v9, iv v10, iv v11, iv j12_0, rv b13, rv b22, rv b32, un, un, un, un, un, un, un, un] [(.int v9), (.int v4), (.long v2), (.ref b32)])) K
      refine Wlk.of (fun _ k => XS.iadd X53.here hx rfl (hb hby at_198) rfl k) ?_
      show Wlk p.tables e below (T53.setTop (mkF m 199 #[jv q1, sd, iv p3, iv p4, iv p5, iv p6, jv v1, sd, jv v2, sd, jv v3, sd, iv v4, iv v5, iv v6, iv v7, iv v8, iv v9, iv v10, iv v11, iv j12_0, rv b13, rv b22, rv b32, un, un, un, un, un, un, un, un] [(.int (v4 + v9)), (.long v2), (.ref b32)])) K
      refine Wlk.of (fun _ k => XS.aload X53.here hx rfl (hb hby at_199) rfl rfl k) ?_
      show Wlk p.tables e below (T53.setTop (mkF m 201 #[jv q1, sd, iv p3, iv p4, iv p5, iv p6, jv v1, sd, jv v2, sd, jv v3, sd, iv v4, iv v5, iv v6, iv v7, iv v8, iv v9, iv v10, iv v11, iv j12_0, rv b13, rv b22, rv b32, un, un, un, un, un, un, un, un] [(.ref b22), (.int (v4 + v9)), (.long v2), (.ref b32)])) K
      have f56 : Exa Z T53.heap b32 "com/example/wardwise/wardwise/solver/LimitPrices" := (z52_2.keep K53q)
      have f57 : Fld Z T53.heap b32 "com/example/wardwise/wardwise/solver/LimitPrices" "pricesMinutes" "Z" (.int j52_0) := (z52_5.keep K53q (ninS ne47 (ninS ne50 nin0)))
      have f58 : Fld Z T53.heap b32 "com/example/wardwise/wardwise/solver/LimitPrices" "minuteScale" "D" (.double (FP.i2d v8)) := (z52_6.keep K53q (ninS ne47 (ninS ne50 nin0)))
      have f59 : Fld Z T53.heap b32 "com/example/wardwise/wardwise/solver/LimitPrices" "maxMinutes" "J" (.long v1) := (z52_7.keep K53q (ninS ne47 (ninS ne50 nin0)))
      have f60 : Fld Z T53.heap b32 "com/example/wardwise/wardwise/solver/LimitPrices" "minMinutes" "J" (.long v3) := (z52_8.keep K53q (ninS ne47 (ninS ne50 nin0)))
      have f61 : Fld Z T53.heap b32 "com/example/wardwise/wardwise/solver/LimitPrices" "maxWeekends" "I" (.int v4) := (z52_9.keep K53q (ninS ne47 (ninS ne50 nin0)))
      have f62 : Fld Z T53.heap b32 "com/example/wardwise/wardwise/solver/LimitPrices" "limits" "[I" (.ref b13) := (z52_10.keep K53q (ninS ne47 (ninS ne50 nin0)))
      have f63 : Fld Z T53.heap b32 "com/example/wardwise/wardwise/solver/LimitPrices" "price" "[D" (.ref pri_39) := (z52_11.keep K53q (ninS ne47 (ninS ne50 nin0)))
      have f64 : Fld Z T53.heap b32 "com/example/wardwise/wardwise/solver/LimitPrices" "stepSize" "[D" (.ref stp_39) := (z52_12.keep K53q (ninS ne47 (ninS ne50 nin0)))
      have f65 : Fld Z T53.heap b32 "com/example/wardwise/wardwise/solver/LimitPrices" "lastSide" "[I" (.ref lst_39) := (z52_13.keep K53q (ninS ne47 (ninS ne50 nin0)))
      have f66 : Arl Z T53.heap b13 .int [(.int v5), (.int v6)] := (z52_0.keep K53q (ninS ne45 (ninS ne48 nin0)))
      have f67 : Arl Z T53.heap b22 .int [(.int (v5 + v10)), (.int (v6 + v11))] := (z52_1.keep K53q (ninS ne46 (ninS ne49 nin0)))
      have f68 : Arl Z T53.heap pri_39 .double [(.double (0 : UInt64)), (.double (0 : UInt64)), (.double (0 : UInt64)), (.double (0 : UInt64)), (.double (0 : UInt64))] := (z52_14.keep K53q (ninS p39_15 (ninS p39_16 nin0)))
      obtain ⟨v69, T69, L69, X69, q69, st69⟩ := Ctr.virtual (y := (⟨"com/example/wardwise/wardwise/solver/LimitPrices", "step", "(JI[I)V"⟩ : MethodName)) (rmT l Z a0 hw b32 v2 ((v4 + v9)) b22 ((FP.i2d v8)) v1 v3 v4 b13 pri_39 stp_39 lst_39 j52_0 t v5 v6 ((v5 + v10)) ((v6 + v11)) T53.heap n0 (Nat.le_trans Z0 K55.1) f56 f57 f58 f59 f60 f61 f62 f63 f64 f65 f66 f67 f68 A_st p53_1 (Ne.symm ne33) (Ne.symm ne35) ne44 ne47 ne50 ne23 ne41 ne45 ne48 ne42 ne46 ne49 p39_15 p39_16 p39_17 g_pri_39 g_lst_39 ht k2.1 k3.1 k4.1) X53 hx hZ rfl hown (wd hw 36 rfl) (wd hw 37 rfl) (notFace_of_selects (args := #[]) (mvT hZ (wd hw 39 rfl))) (wd hw 39 rfl) (wd hw 38 rfl) (wd hw 3 rfl) (wd hw 40 rfl) (by decide) f56 pd_432 (g := (mkF m 201 #[jv q1, sd, iv p3, iv p4, iv p5, iv p6, jv v1, sd, jv v2, sd, jv v3, sd, iv v4, iv v5, iv v6, iv v7, iv v8, iv v9, iv v10, iv v11, iv j12_0, rv b13, rv b22, rv b32, un, un, un, un, un, un, un, un] [(.ref b22), (.int (v4 + v9)), (.long v2), (.ref b32)])) rfl (by rw [hml]; rfl) (argsL := [(.long v2), (.int (v4 + v9)), (.ref b22)]) (rest := []) rfl rfl rfl (W := 0) (by show 2 * 0 + _ ≤ _; exact Nat.le_of_eq rfl) (by decide) (by decide) (hb hby at_201) (by decide) (by decide)
      obtain ⟨y0_69, y1_69, y2_69, y3_69, y4_69, rfl, N69q, K69q, p69_0, x69_0, x69_1, x69_2, x69_3, x69_4⟩ := q69
      have N70 := Fr.app N54 N69q
      refine Wlk.of (fun _ k => st69 _ k) ?_
      have K71 : Keep h0 T69.heap [] := K55.trans K69q (allS (Or.inr sz_pri_39) (allS (Or.inr sz_lst_39) all0))
      show Wlk p.tables e below (T69.setTop (mkF m 204 #[jv q1, sd, iv p3, iv p4, iv p5, iv p6, jv v1, sd, jv v2, sd, jv v3, sd, iv v4, iv v5, iv v6, iv v7, iv v8, iv v9, iv v10, iv v11, iv j12_0, rv b13, rv b22, rv b32, un, un, un, un, un, un, un, un] [])) K
      obtain ⟨en0, hen0, hsc0⟩ := own_scale hv8
      have D0 := own_yd2 ht x69_0
      have D1 := own_yd2 ht x69_1
      have D2 := own_yd ht x69_2
      have D3 := own_yd ht x69_3
      have D4 := own_yd ht x69_4
      obtain ⟨n11_0, n16_0, n28_0, n33_0, n34_0, n48_0, n49_0, n78_0, n79_0, n78_1, n79_1⟩ := own_nn hen0 hsc0 (own_sar44 hv1) (own_sar44 hv3) (own_sar1 hv4) (own_sar1 hv5) (own_sar1 hv6) D0 D1 D2 D3 D4
      refine Wlk.of (fun _ k => XS.aload X69.here hx rfl (hb hby at_204) rfl rfl k) ?_
      show Wlk p.tables e below (T69.setTop (mkF m 206 #[jv q1, sd, iv p3, iv p4, iv p5, iv p6, jv v1, sd, jv v2, sd, jv v3, sd, iv v4, iv v5, iv v6, iv v7, iv v8, iv v9, iv v10, iv v11, iv j12_0, rv b13, rv b22, rv b32, un, un, un, un, un, un, un, un] [(.ref b32)])) K
      have f72 : Fld Z T69.heap b32 "com/example/wardwise/wardwise/solver/LimitPrices" "minuteScale" "D" (.double (FP.i2d v8)) := (f58.keep K69q (ninS ne44 (ninS ne50 nin0)))
      have f73 : Fld Z T69.heap b32 "com/example/wardwise/wardwise/solver/LimitPrices" "maxMinutes" "J" (.long v1) := (f59.keep K69q (ninS ne44 (ninS ne50 nin0)))
      have f74 : Fld Z T69.heap b32 "com/example/wardwise/wardwise/solver/LimitPrices" "minMinutes" "J" (.long v3) := (f60.keep K69q (ninS ne44 (ninS ne50 nin0)))
      have f75 : Fld Z T69.heap b32 "com/example/wardwise/wardwise/solver/LimitPrices" "maxWeekends" "I" (.int v4) := (f61.keep K69q (ninS ne44 (ninS ne50 nin0)))
      have f76 : Fld Z T69.heap b32 "com/example/wardwise/wardwise/solver/LimitPrices" "limits" "[I" (.ref b13) := (f62.keep K69q (ninS ne44 (ninS ne50 nin0)))
      have f77 : Fld Z T69.heap b32 "com/example/wardwise/wardwise/solver/LimitPrices" "price" "[D" (.ref pri_39) := (f63.keep K69q (ninS ne44 (ninS ne50 nin0)))
      have f78 : Arl Z T69.heap b13 .int [(.int v5), (.int v6)] := (f66.keep K69q (ninS ne41 (ninS ne48 nin0)))
      have f79 : Exa Z T69.heap b32 "com/example/wardwise/wardwise/solver/LimitPrices" := (f56.keep K69q)
      obtain ⟨v80, T80, L80, X80, q80, st80⟩ := Ctr.virtual (y := (⟨"com/example/wardwise/wardwise/solver/LimitPrices", "ofLimits", "()D"⟩ : MethodName)) (rmL l Z a0 hw b32 ((FP.i2d v8)) v1 v3 v4 b13 pri_39 v5 v6 y0_69 y1_69 y2_69 y3_69 y4_69 T69.heap n0 (Nat.le_trans Z0 K71.1) f72 f73 f74 f75 f76 f77 f78 p69_0 n11_0 n16_0 n28_0 n33_0 n34_0 n48_0 n49_0 n78_0 n79_0 n78_1 n79_1) X69 hx hZ rfl hown (wd hw 49 rfl) (wd hw 50 rfl) (notFace_of_selects (args := #[]) (mvT hZ (wd hw 52 rfl))) (wd hw 52 rfl) (wd hw 51 rfl) (wd hw 3 rfl) (wd hw 53 rfl) (by decide) f79 pd_433 (g := (mkF m 206 #[jv q1, sd, iv p3, iv p4, iv p5, iv p6, jv v1, sd, jv v2, sd, jv v3, sd, iv v4, iv v5, iv v6, iv v7, iv v8, iv v9, iv v10, iv v11, iv j12_0, rv b13, rv b22, rv b32, un, un, un, un, un, un, un, un] [(.ref b32)])) rfl (by rw [hml]; rfl) (argsL := []) (rest := []) rfl rfl rfl (W := 0) (by show 2 * 0 + _ ≤ _; exact Nat.le_of_eq rfl) (by decide) (by decide) (hb hby at_206) (by decide) (by decide)
      obtain ⟨rfl, N80q, hh80⟩ := q80
      have N81 := Fr.app N70 N80q
      refine Wlk.of (fun _ k => st80 _ k) ?_
      show Wlk p.tables e below (T80.setTop (mkF m 209 #[jv q1, sd, iv p3, iv p4, iv p5, iv p6, jv v1, sd, jv v2, sd, jv v3, sd, iv v4, iv v5, iv v6, iv v7, iv v8, iv v9, iv v10, iv v11, iv j12_0, rv b13, rv b22, rv b32, un, un, un, un, un, un, un, un] [(.double (FP.dadd (FP.dadd (FP.dadd (FP.dsub (FP.ddiv (FP.dmul y0_69 (FP.l2d v1)) (FP.i2d v8)) (FP.ddiv (FP.dmul y1_69 (FP.l2d v3)) (FP.i2d v8))) (FP.dmul y2_69 (FP.i2d v4))) (FP.dmul y3_69 (FP.i2d v5))) (FP.dmul y4_69 (FP.i2d v6))))])) K
      refine Wlk.of (fun _ k => XS.dstore X80.here hx rfl (hb hby at_209) rfl (l' := #[jv q1, sd, iv p3, iv p4, iv p5, iv p6, jv v1, sd, jv v2, sd, jv v3, sd, iv v4, iv v5, iv v6, iv v7, iv v8, iv v9, iv v10, iv v11, iv j12_0, rv b13, rv b22, rv b32, dv (FP.dadd (FP.dadd (FP.dadd (FP.dsub (FP.ddiv (FP.dmul y0_69 (FP.l2d v1)) (FP.i2d v8)) (FP.ddiv (FP.dmul y1_69 (FP.l2d v3)) (FP.i2d v8))) (FP.dmul y2_69 (FP.i2d v4))) (FP.dmul y3_69 (FP.i2d v5))) (FP.dmul y4_69 (FP.i2d v6))), sd, un, un, un, un, un, un]) rfl k) ?_
      show Wlk p.tables e below (T80.setTop (mkF m 211 #[jv q1, sd, iv p3, iv p4, iv p5, iv p6, jv v1, sd, jv v2, sd, jv v3, sd, iv v4, iv v5, iv v6, iv v7, iv v8, iv v9, iv v10, iv v11, iv j12_0, rv b13, rv b22, rv b32, dv (FP.dadd (FP.dadd (FP.dadd (FP.dsub (FP.ddiv (FP.dmul y0_69 (FP.l2d v1)) (FP.i2d v8)) (FP.ddiv (FP.dmul y1_69 (FP.l2d v3)) (FP.i2d v8))) (FP.dmul y2_69 (FP.i2d v4))) (FP.dmul y3_69 (FP.i2d v5))) (FP.dmul y4_69 (FP.i2d v6))), sd, un, un, un, un, un, un] [])) K
      generalize hv82 : (FP.dadd (FP.dadd (FP.dadd (FP.dsub (FP.ddiv (FP.dmul y0_69 (FP.l2d v1)) (FP.i2d v8)) (FP.ddiv (FP.dmul y1_69 (FP.l2d v3)) (FP.i2d v8))) (FP.dmul y2_69 (FP.i2d v4))) (FP.dmul y3_69 (FP.i2d v5))) (FP.dmul y4_69 (FP.i2d v6))) = v82
      refine Wlk.of (fun _ k => XS.lconst X80.here hx rfl (hb hby at_211) k) ?_
      show Wlk p.tables e below (T80.setTop (mkF m 212 #[jv q1, sd, iv p3, iv p4, iv p5, iv p6, jv v1, sd, jv v2, sd, jv v3, sd, iv v4, iv v5, iv v6, iv v7, iv v8, iv v9, iv v10, iv v11, iv j12_0, rv b13, rv b22, rv b32, dv v82, sd, un, un, un, un, un, un] [(.long (0 : Int64))])) K
      refine Wlk.of (fun _ k => XS.lstore X80.here hx rfl (hb hby at_212) rfl (l' := #[jv q1, sd, iv p3, iv p4, iv p5, iv p6, jv v1, sd, jv v2, sd, jv v3, sd, iv v4, iv v5, iv v6, iv v7, iv v8, iv v9, iv v10, iv v11, iv j12_0, rv b13, rv b22, rv b32, dv v82, sd, jv (0 : Int64), sd, un, un, un, un]) rfl k) ?_
      show Wlk p.tables e below (T80.setTop (mkF m 214 #[jv q1, sd, iv p3, iv p4, iv p5, iv p6, jv v1, sd, jv v2, sd, jv v3, sd, iv v4, iv v5, iv v6, iv v7, iv v8, iv v9, iv v10, iv v11, iv j12_0, rv b13, rv b22, rv b32, dv v82, sd, jv (0 : Int64), sd, un, un, un, un] [])) K
      refine Wlk.of (fun _ k => XS.iload X80.here hx rfl (hb hby at_214) rfl k) ?_
      show Wlk p.tables e below (T80.setTop (mkF m 216 #[jv q1, sd, iv p3, iv p4, iv p5, iv p6, jv v1, sd, jv v2, sd, jv v3, sd, iv v4, iv v5, iv v6, iv v7, iv v8, iv v9, iv v10, iv v11, iv j12_0, rv b13, rv b22, rv b32, dv v82, sd, jv (0 : Int64), sd, un, un, un, un] [(.int j12_0)])) K
      have J83 : ∀ (T83 : State), Stand p l e room_1 s m #[(.long q1), (.int p3), (.int p4), (.int p5), (.int p6)] below meth c T83 (((ls52 ++ L53) ++ L69) ++ L80) 6 28 → T83.heap = T69.heap → ∀ (j83_0 : Int64), j83_0 = (if j12_0 = (0 : Int32) then (0 : Int64) else (if v1 < v2 then ((0 : Int64) + ((v7.toInt64) * v1)) else (0 : Int64))) → Wlk p.tables e below (T83.setTop (mkF m 238 #[jv q1, sd, iv p3, iv p4, iv p5, iv p6, jv v1, sd, jv v2, sd, jv v3, sd, iv v4, iv v5, iv v6, iv v7, iv v8, iv v9, iv v10, iv v11, iv j12_0, rv b13, rv b22, rv b32, dv v82, sd, jv j83_0, sd, un, un, un, un] [])) K := by
        intro T83 X83 e83 j83_0 hj83_0
        refine Wlk.of (fun _ k => XS.iload X83.here hx rfl (hb hby at_238) rfl k) ?_
        show Wlk p.tables e below (T83.setTop (mkF m 240 #[jv q1, sd, iv p3, iv p4, iv p5, iv p6, jv v1, sd, jv v2, sd, jv v3, sd, iv v4, iv v5, iv v6, iv v7, iv v8, iv v9, iv v10, iv v11, iv j12_0, rv b13, rv b22, rv b32, dv v82, sd, jv j83_0, sd, un, un, un, un] [(.int j12_0)])) K
        have J84 : ∀ (T84 : State), Stand p l e room_1 s m #[(.long q1), (.int p3), (.int p4), (.int p5), (.int p6)] below meth c T84 (((ls52 ++ L53) ++ L69) ++ L80) 6 28 → T84.heap = T69.heap → ∀ (j84_0 : Int64), j84_0 = (if j12_0 = (0 : Int32) then j83_0 else (if v2 < v3 then (j83_0 - ((v7.toInt64) * v3)) else j83_0)) → Wlk p.tables e below (T84.setTop (mkF m 262 #[jv q1, sd, iv p3, iv p4, iv p5, iv p6, jv v1, sd, jv v2, sd, jv v3, sd, iv v4, iv v5, iv v6, iv v7, iv v8, iv v9, iv v10, iv v11, iv j12_0, rv b13, rv b22, rv b32, dv v82, sd, jv j84_0, sd, un, un, un, un] [])) K := by
          intro T84 X84 e84 j84_0 hj84_0
          refine Wlk.of (fun _ k => XS.lconst X84.here hx rfl (hb hby at_262) k) ?_
          show Wlk p.tables e below (T84.setTop (mkF m 263 #[jv q1, sd, iv p3, iv p4, iv p5, iv p6, jv v1, sd, jv v2, sd, jv v3, sd, iv v4, iv v5, iv v6, iv v7, iv v8, iv v9, iv v10, iv v11, iv j12_0, rv b13, rv b22, rv b32, dv v82, sd, jv j84_0, sd, un, un, un, un] [(.long (0 : Int64))])) K
          refine Wlk.of (fun _ k => XS.lstore X84.here hx rfl (hb hby at_263) rfl (l' := #[jv q1, sd, iv p3, iv p4, iv p5, iv p6, jv v1, sd, jv v2, sd, jv v3, sd, iv v4, iv v5, iv v6, iv v7, iv v8, iv v9, iv v10, iv v11, iv j12_0, rv b13, rv b22, rv b32, dv v82, sd, jv j84_0, sd, jv (0 : Int64), sd, un, un]) rfl k) ?_
          show Wlk p.tables e below (T84.setTop (mkF m 265 #[jv q1, sd, iv p3, iv p4, iv p5, iv p6, jv v1, sd, jv v2, sd, jv v3, sd, iv v4, iv v5, iv v6, iv v7, iv v8, iv v9, iv v10, iv v11, iv j12_0, rv b13, rv b22, rv b32, dv v82, sd, jv j84_0, sd, jv (0 : Int64), sd, un, un] [])) K
          refine Wlk.of (fun _ k => XS.iload X84.here hx rfl (hb hby at_265) rfl k) ?_
          show Wlk p.tables e below (T84.setTop (mkF m 267 #[jv q1, sd, iv p3, iv p4, iv p5, iv p6, jv v1, sd, jv v2, sd, jv v3, sd, iv v4, iv v5, iv v6, iv v7, iv v8, iv v9, iv v10, iv v11, iv j12_0, rv b13, rv b22, rv b32, dv v82, sd, jv j84_0, sd, jv (0 : Int64), sd, un, un] [(.int v9)])) K
          have J85 : ∀ (T85 : State), Stand p l e room_1 s m #[(.long q1), (.int p3), (.int p4), (.int p5), (.int p6)] below meth c T85 (((ls52 ++ L53) ++ L69) ++ L80) 6 28 → T85.heap = T69.heap → ∀ (j85_0 : Int64), j85_0 = (if (0 : Int32) < v9 then ((0 : Int64) + ((v7.toInt64) * (v4.toInt64))) else (0 : Int64)) → Wlk p.tables e below (T85.setTop (mkF m 282 #[jv q1, sd, iv p3, iv p4, iv p5, iv p6, jv v1, sd, jv v2, sd, jv v3, sd, iv v4, iv v5, iv v6, iv v7, iv v8, iv v9, iv v10, iv v11, iv j12_0, rv b13, rv b22, rv b32, dv v82, sd, jv j84_0, sd, jv j85_0, sd, un, un] [])) K := by
            intro T85 X85 e85 j85_0 hj85_0
            refine Wlk.of (fun _ k => XS.iload X85.here hx rfl (hb hby at_282) rfl k) ?_
            show Wlk p.tables e below (T85.setTop (mkF m 284 #[jv q1, sd, iv p3, iv p4, iv p5, iv p6, jv v1, sd, jv v2, sd, jv v3, sd, iv v4, iv v5, iv v6, iv v7, iv v8, iv v9, iv v10, iv v11, iv j12_0, rv b13, rv b22, rv b32, dv v82, sd, jv j84_0, sd, jv j85_0, sd, un, un] [(.int v10)])) K
            have J86 : ∀ (T86 : State), Stand p l e room_1 s m #[(.long q1), (.int p3), (.int p4), (.int p5), (.int p6)] below meth c T86 (((ls52 ++ L53) ++ L69) ++ L80) 6 28 → T86.heap = T69.heap → ∀ (j86_0 : Int64), j86_0 = (if (0 : Int32) < v10 then (j85_0 + ((v7.toInt64) * (v5.toInt64))) else j85_0) → Wlk p.tables e below (T86.setTop (mkF m 299 #[jv q1, sd, iv p3, iv p4, iv p5, iv p6, jv v1, sd, jv v2, sd, jv v3, sd, iv v4, iv v5, iv v6, iv v7, iv v8, iv v9, iv v10, iv v11, iv j12_0, rv b13, rv b22, rv b32, dv v82, sd, jv j84_0, sd, jv j86_0, sd, un, un] [])) K := by
              intro T86 X86 e86 j86_0 hj86_0
              refine Wlk.of (fun _ k => XS.iload X86.here hx rfl (hb hby at_299) rfl k) ?_
              show Wlk p.tables e below (T86.setTop (mkF m 301 #[jv q1, sd, iv p3, iv p4, iv p5, iv p6, jv v1, sd, jv v2, sd, jv v3, sd, iv v4, iv v5, iv v6, iv v7, iv v8, iv v9, iv v10, iv v11, iv j12_0, rv b13, rv b22, rv b32, dv v82, sd, jv j84_0, sd, jv j86_0, sd, un, un] [(.int v11)])) K
              have J87 : ∀ (T87 : State), Stand p l e room_1 s m #[(.long q1), (.int p3), (.int p4), (.int p5), (.int p6)] below meth c T87 (((ls52 ++ L53) ++ L69) ++ L80) 6 28 → T87.heap = T69.heap → ∀ (j87_0 : Int64), j87_0 = (if (0 : Int32) < v11 then (j86_0 + ((v7.toInt64) * (v6.toInt64))) else j86_0) → Wlk p.tables e below (T87.setTop (mkF m 316 #[jv q1, sd, iv p3, iv p4, iv p5, iv p6, jv v1, sd, jv v2, sd, jv v3, sd, iv v4, iv v5, iv v6, iv v7, iv v8, iv v9, iv v10, iv v11, iv j12_0, rv b13, rv b22, rv b32, dv v82, sd, jv j84_0, sd, jv j87_0, sd, un, un] [])) K := by
                intro T87 X87 e87 j87_0 hj87_0
                obtain ⟨en, hen, hsc⟩ := own_scale hv8
                have hmn := own_mn hj52_0 ht0 ht (own_sar44 hv1) (own_sar44 hv3) hj83_0 hj84_0
                have hrs := own_rs k2.2 k3.2 k4.2 ht0 ht (own_sar1 hv4) (own_sar1 hv5) (own_sar1 hv6) hj85_0 hj86_0 hj87_0
                obtain ⟨mn11_0, mn16_0, mn28_0, mn33_0, mn34_0, mn48_0, mn49_0, mn78_0, mn79_0, mn78_1, mn79_1, n322, n326, hcmp⟩ := own_fin hen hsc (own_sar44 hv1) (own_sar44 hv3) (own_sar1 hv4) (own_sar1 hv5) (own_sar1 hv6) (own_yd2 ht x69_0) (own_yd2 ht x69_1) (own_yd ht x69_2) (own_yd ht x69_3) (own_yd ht x69_4) hmn hrs
                refine Wlk.of (fun _ k => XS.lload X87.here hx rfl (hb hby at_316) rfl k) ?_
                show Wlk p.tables e below (T87.setTop (mkF m 318 #[jv q1, sd, iv p3, iv p4, iv p5, iv p6, jv v1, sd, jv v2, sd, jv v3, sd, iv v4, iv v5, iv v6, iv v7, iv v8, iv v9, iv v10, iv v11, iv j12_0, rv b13, rv b22, rv b32, dv v82, sd, jv j84_0, sd, jv j87_0, sd, un, un] [(.long j84_0)])) K
                refine Wlk.of (fun _ k => XS.l2dS X87.here hx rfl (hb hby at_318) rfl rfl k) ?_
                show Wlk p.tables e below (T87.setTop (mkF m 319 #[jv q1, sd, iv p3, iv p4, iv p5, iv p6, jv v1, sd, jv v2, sd, jv v3, sd, iv v4, iv v5, iv v6, iv v7, iv v8, iv v9, iv v10, iv v11, iv j12_0, rv b13, rv b22, rv b32, dv v82, sd, jv j84_0, sd, jv j87_0, sd, un, un] [(.double (FP.l2d j84_0))])) K
                refine Wlk.of (fun _ k => XS.iload X87.here hx rfl (hb hby at_319) rfl k) ?_
                show Wlk p.tables e below (T87.setTop (mkF m 321 #[jv q1, sd, iv p3, iv p4, iv p5, iv p6, jv v1, sd, jv v2, sd, jv v3, sd, iv v4, iv v5, iv v6, iv v7, iv v8, iv v9, iv v10, iv v11, iv j12_0, rv b13, rv b22, rv b32, dv v82, sd, jv j84_0, sd, jv j87_0, sd, un, un] [(.int v8), (.double (FP.l2d j84_0))])) K
                refine Wlk.of (fun _ k => XS.i2dS X87.here hx rfl (hb hby at_321) rfl rfl k) ?_
                show Wlk p.tables e below (T87.setTop (mkF m 322 #[jv q1, sd, iv p3, iv p4, iv p5, iv p6, jv v1, sd, jv v2, sd, jv v3, sd, iv v4, iv v5, iv v6, iv v7, iv v8, iv v9, iv v10, iv v11, iv j12_0, rv b13, rv b22, rv b32, dv v82, sd, jv j84_0, sd, jv j87_0, sd, un, un] [(.double (FP.i2d v8)), (.double (FP.l2d j84_0))])) K
                refine Wlk.of (fun _ k => XS.ddivS X87.here hx rfl (hb hby at_322) rfl n322 rfl k) ?_
                show Wlk p.tables e below (T87.setTop (mkF m 323 #[jv q1, sd, iv p3, iv p4, iv p5, iv p6, jv v1, sd, jv v2, sd, jv v3, sd, iv v4, iv v5, iv v6, iv v7, iv v8, iv v9, iv v10, iv v11, iv j12_0, rv b13, rv b22, rv b32, dv v82, sd, jv j84_0, sd, jv j87_0, sd, un, un] [(.double (FP.ddiv (FP.l2d j84_0) (FP.i2d v8)))])) K
                refine Wlk.of (fun _ k => XS.lload X87.here hx rfl (hb hby at_323) rfl k) ?_
                show Wlk p.tables e below (T87.setTop (mkF m 325 #[jv q1, sd, iv p3, iv p4, iv p5, iv p6, jv v1, sd, jv v2, sd, jv v3, sd, iv v4, iv v5, iv v6, iv v7, iv v8, iv v9, iv v10, iv v11, iv j12_0, rv b13, rv b22, rv b32, dv v82, sd, jv j84_0, sd, jv j87_0, sd, un, un] [(.long j87_0), (.double (FP.ddiv (FP.l2d j84_0) (FP.i2d v8)))])) K
                refine Wlk.of (fun _ k => XS.l2dS X87.here hx rfl (hb hby at_325) rfl rfl k) ?_
                show Wlk p.tables e below (T87.setTop (mkF m 326 #[jv q1, sd, iv p3, iv p4, iv p5, iv p6, jv v1, sd, jv v2, sd, jv v3, sd, iv v4, iv v5, iv v6, iv v7, iv v8, iv v9, iv v10, iv v11, iv j12_0, rv b13, rv b22, rv b32, dv v82, sd, jv j84_0, sd, jv j87_0, sd, un, un] [(.double (FP.l2d j87_0)), (.double (FP.ddiv (FP.l2d j84_0) (FP.i2d v8)))])) K
                refine Wlk.of (fun _ k => XS.daddS X87.here hx rfl (hb hby at_326) rfl n326 rfl k) ?_
                show Wlk p.tables e below (T87.setTop (mkF m 327 #[jv q1, sd, iv p3, iv p4, iv p5, iv p6, jv v1, sd, jv v2, sd, jv v3, sd, iv v4, iv v5, iv v6, iv v7, iv v8, iv v9, iv v10, iv v11, iv j12_0, rv b13, rv b22, rv b32, dv v82, sd, jv j84_0, sd, jv j87_0, sd, un, un] [(.double (FP.dadd (FP.ddiv (FP.l2d j84_0) (FP.i2d v8)) (FP.l2d j87_0)))])) K
                refine Wlk.of (fun _ k => XS.dstore X87.here hx rfl (hb hby at_327) rfl (l' := #[jv q1, sd, iv p3, iv p4, iv p5, iv p6, jv v1, sd, jv v2, sd, jv v3, sd, iv v4, iv v5, iv v6, iv v7, iv v8, iv v9, iv v10, iv v11, iv j12_0, rv b13, rv b22, rv b32, dv v82, sd, jv j84_0, sd, jv j87_0, sd, dv (FP.dadd (FP.ddiv (FP.l2d j84_0) (FP.i2d v8)) (FP.l2d j87_0)), sd]) rfl k) ?_
                show Wlk p.tables e below (T87.setTop (mkF m 329 #[jv q1, sd, iv p3, iv p4, iv p5, iv p6, jv v1, sd, jv v2, sd, jv v3, sd, iv v4, iv v5, iv v6, iv v7, iv v8, iv v9, iv v10, iv v11, iv j12_0, rv b13, rv b22, rv b32, dv v82, sd, jv j84_0, sd, jv j87_0, sd, dv (FP.dadd (FP.ddiv (FP.l2d j84_0) (FP.i2d v8)) (FP.l2d j87_0)), sd] [])) K
                generalize hv88 : (FP.dadd (FP.ddiv (FP.l2d j84_0) (FP.i2d v8)) (FP.l2d j87_0)) = v88
                refine Wlk.of (fun _ k => XS.dload X87.here hx rfl (hb hby at_329) rfl k) ?_
                show Wlk p.tables e below (T87.setTop (mkF m 331 #[jv q1, sd, iv p3, iv p4, iv p5, iv p6, jv v1, sd, jv v2, sd, jv v3, sd, iv v4, iv v5, iv v6, iv v7, iv v8, iv v9, iv v10, iv v11, iv j12_0, rv b13, rv b22, rv b32, dv v82, sd, jv j84_0, sd, jv j87_0, sd, dv v88, sd] [(.double v82)])) K
                refine Wlk.of (fun _ k => XS.dload X87.here hx rfl (hb hby at_331) rfl k) ?_
                show Wlk p.tables e below (T87.setTop (mkF m 333 #[jv q1, sd, iv p3, iv p4, iv p5, iv p6, jv v1, sd, jv v2, sd, jv v3, sd, iv v4, iv v5, iv v6, iv v7, iv v8, iv v9, iv v10, iv v11, iv j12_0, rv b13, rv b22, rv b32, dv v82, sd, jv j84_0, sd, jv j87_0, sd, dv v88, sd] [(.double v88), (.double v82)])) K
                refine Wlk.of (fun _ k => XS.dcmpS X87.here hx rfl (hb hby at_333) rfl rfl k) ?_
                show Wlk p.tables e below (T87.setTop (mkF m 334 #[jv q1, sd, iv p3, iv p4, iv p5, iv p6, jv v1, sd, jv v2, sd, jv v3, sd, iv v4, iv v5, iv v6, iv v7, iv v8, iv v9, iv v10, iv v11, iv j12_0, rv b13, rv b22, rv b32, dv v82, sd, jv j84_0, sd, jv j87_0, sd, dv v88, sd] [(.int (cmpValue (FP.dcmp v82 v88) .l))])) K
                refine Wlk.of (fun _ k => XS.ifNo X87.here hx rfl (hb hby at_334) rfl ((if0 _ _).trans (teq (show (cmpValue (FP.dcmp v82 v88) .l) = (0 : Int32) by rw [← hv82, ← hv88, hcmp]; rfl)).2) k) ?_
                show Wlk p.tables e below (T87.setTop (mkF m 337 #[jv q1, sd, iv p3, iv p4, iv p5, iv p6, jv v1, sd, jv v2, sd, jv v3, sd, iv v4, iv v5, iv v6, iv v7, iv v8, iv v9, iv v10, iv v11, iv j12_0, rv b13, rv b22, rv b32, dv v82, sd, jv j84_0, sd, jv j87_0, sd, dv v88, sd] [])) K
                refine Wlk.of (fun _ k => XS.iconst X87.here hx rfl (hb hby at_337) k) ?_
                show Wlk p.tables e below (T87.setTop (mkF m 338 #[jv q1, sd, iv p3, iv p4, iv p5, iv p6, jv v1, sd, jv v2, sd, jv v3, sd, iv v4, iv v5, iv v6, iv v7, iv v8, iv v9, iv v10, iv v11, iv j12_0, rv b13, rv b22, rv b32, dv v82, sd, jv j84_0, sd, jv j87_0, sd, dv v88, sd] [(.int (1 : Int32))])) K
                refine Wlk.of (fun _ k => XS.goto X87.here hx rfl (pc0 := 338) (pc' := 342) rfl (hb hby at_338) (by decide) (by decide) k) ?_
                show Wlk p.tables e below (T87.setTop (mkF m 342 #[jv q1, sd, iv p3, iv p4, iv p5, iv p6, jv v1, sd, jv v2, sd, jv v3, sd, iv v4, iv v5, iv v6, iv v7, iv v8, iv v9, iv v10, iv v11, iv j12_0, rv b13, rv b22, rv b32, dv v82, sd, jv j84_0, sd, jv j87_0, sd, dv v88, sd] [(.int (1 : Int32))])) K
                refine hK (some (.int (1 : Int32))) X87 (fun q => by cases q) (fun fs hr => retN X87 hx (t := .boolean) hret (by simp) (hb hby at_342) hr) ?_ (by decide) (by decide)
                rw [show T87.heap = T69.heap from e87]
                exact ⟨rfl, N81⟩
              by_cases hc89 : (0 : Int32) < v11
              · refine Wlk.of (fun _ k => XS.ifNo X86.here hx rfl (hb hby at_301) rfl ((if0 _ _).trans (tlt hc89).2.2.2) k) ?_
                show Wlk p.tables e below (T86.setTop (mkF m 304 #[jv q1, sd, iv p3, iv p4, iv p5, iv p6, jv v1, sd, jv v2, sd, jv v3, sd, iv v4, iv v5, iv v6, iv v7, iv v8, iv v9, iv v10, iv v11, iv j12_0, rv b13, rv b22, rv b32, dv v82, sd, jv j84_0, sd, jv j86_0, sd, un, un] [])) K
                refine Wlk.of (fun _ k => XS.lload X86.here hx rfl (hb hby at_304) rfl k) ?_
                show Wlk p.tables e below (T86.setTop (mkF m 306 #[jv q1, sd, iv p3, iv p4, iv p5, iv p6, jv v1, sd, jv v2, sd, jv v3, sd, iv v4, iv v5, iv v6, iv v7, iv v8, iv v9, iv v10, iv v11, iv j12_0, rv b13, rv b22, rv b32, dv v82, sd, jv j84_0, sd, jv j86_0, sd, un, un] [(.long j86_0)])) K
                refine Wlk.of (fun _ k => XS.iload X86.here hx rfl (hb hby at_306) rfl k) ?_
                show Wlk p.tables e below (T86.setTop (mkF m 308 #[jv q1, sd, iv p3, iv p4, iv p5, iv p6, jv v1, sd, jv v2, sd, jv v3, sd, iv v4, iv v5, iv v6, iv v7, iv v8, iv v9, iv v10, iv v11, iv j12_0, rv b13, rv b22, rv b32, dv v82, sd, jv j84_0, sd, jv j86_0, sd, un, un] [(.int v7), (.long j86_0)])) K
                refine Wlk.of (fun _ k => XS.i2l X86.here hx rfl (hb hby at_308) rfl k) ?_
                show Wlk p.tables e below (T86.setTop (mkF m 309 #[jv q1, sd, iv p3, iv p4, iv p5, iv p6, jv v1, sd, jv v2, sd, jv v3, sd, iv v4, iv v5, iv v6, iv v7, iv v8, iv v9, iv v10, iv v11, iv j12_0, rv b13, rv b22, rv b32, dv v82, sd, jv j84_0, sd, jv j86_0, sd, un, un] [(.long (v7.toInt64)), (.long j86_0)])) K
                refine Wlk.of (fun _ k => XS.iload X86.here hx rfl (hb hby at_309) rfl k) ?_
                show Wlk p.tables e below (T86.setTop (mkF m 311 #[jv q1, sd, iv p3, iv p4, iv p5, iv p6, jv v1, sd, jv v2, sd, jv v3, sd, iv v4, iv v5, iv v6, iv v7, iv v8, iv v9, iv v10, iv v11, iv j12_0, rv b13, rv b22, rv b32, dv v82, sd, jv j84_0, sd, jv j86_0, sd, un, un] [(.int v6), (.long (v7.toInt64)), (.long j86_0)])) K
                refine Wlk.of (fun _ k => XS.i2l X86.here hx rfl (hb hby at_311) rfl k) ?_
                show Wlk p.tables e below (T86.setTop (mkF m 312 #[jv q1, sd, iv p3, iv p4, iv p5, iv p6, jv v1, sd, jv v2, sd, jv v3, sd, iv v4, iv v5, iv v6, iv v7, iv v8, iv v9, iv v10, iv v11, iv j12_0, rv b13, rv b22, rv b32, dv v82, sd, jv j84_0, sd, jv j86_0, sd, un, un] [(.long (v6.toInt64)), (.long (v7.toInt64)), (.long j86_0)])) K
                refine Wlk.of (fun _ k => XS.lmul X86.here hx rfl (hb hby at_312) rfl k) ?_
                show Wlk p.tables e below (T86.setTop (mkF m 313 #[jv q1, sd, iv p3, iv p4, iv p5, iv p6, jv v1, sd, jv v2, sd, jv v3, sd, iv v4, iv v5, iv v6, iv v7, iv v8, iv v9, iv v10, iv v11, iv j12_0, rv b13, rv b22, rv b32, dv v82, sd, jv j84_0, sd, jv j86_0, sd, un, un] [(.long ((v7.toInt64) * (v6.toInt64))), (.long j86_0)])) K
                refine Wlk.of (fun _ k => XS.ladd X86.here hx rfl (hb hby at_313) rfl k) ?_
                show Wlk p.tables e below (T86.setTop (mkF m 314 #[jv q1, sd, iv p3, iv p4, iv p5, iv p6, jv v1, sd, jv v2, sd, jv v3, sd, iv v4, iv v5, iv v6, iv v7, iv v8, iv v9, iv v10, iv v11, iv j12_0, rv b13, rv b22, rv b32, dv v82, sd, jv j84_0, sd, jv j86_0, sd, un, un] [(.long (j86_0 + ((v7.toInt64) * (v6.toInt64))))])) K
                refine Wlk.of (fun _ k => XS.lstore X86.here hx rfl (hb hby at_314) rfl (l' := #[jv q1, sd, iv p3, iv p4, iv p5, iv p6, jv v1, sd, jv v2, sd, jv v3, sd, iv v4, iv v5, iv v6, iv v7, iv v8, iv v9, iv v10, iv v11, iv j12_0, rv b13, rv b22, rv b32, dv v82, sd, jv j84_0, sd, jv (j86_0 + ((v7.toInt64) * (v6.toInt64))), sd, un, un]) rfl k) ?_
                show Wlk p.tables e below (T86.setTop (mkF m 316 #[jv q1, sd, iv p3, iv p4, iv p5, iv p6, jv v1, sd, jv v2, sd, jv v3, sd, iv v4, iv v5, iv v6, iv v7, iv v8, iv v9, iv v10, iv v11, iv j12_0, rv b13, rv b22, rv b32, dv v82, sd, jv j84_0, sd, jv (j86_0 + ((v7.toInt64) * (v6.toInt64))), sd, un, un] [])) K
                exact J87 _ X86 e86 _ (by rw [if_pos hc89])
              · refine Wlk.of (fun _ k => XS.ifYes X86.here hx rfl (pc0 := 301) (pc' := 316) rfl (hb hby at_301) rfl ((if0 _ _).trans (flt hc89).2.2.2) (by decide) (by decide) k) ?_
                show Wlk p.tables e below (T86.setTop (mkF m 316 #[jv q1, sd, iv p3, iv p4, iv p5, iv p6, jv v1, sd, jv v2, sd, jv v3, sd, iv v4, iv v5, iv v6, iv v7, iv v8, iv v9, iv v10, iv v11, iv j12_0, rv b13, rv b22, rv b32, dv v82, sd, jv j84_0, sd, jv j86_0, sd, un, un] [])) K
                exact J87 _ X86 e86 _ (by rw [if_neg hc89])
            by_cases hc90 : (0 : Int32) < v10
            · refine Wlk.of (fun _ k => XS.ifNo X85.here hx rfl (hb hby at_284) rfl ((if0 _ _).trans (tlt hc90).2.2.2) k) ?_
              show Wlk p.tables e below (T85.setTop (mkF m 287 #[jv q1, sd, iv p3, iv p4, iv p5, iv p6, jv v1, sd, jv v2, sd, jv v3, sd, iv v4, iv v5, iv v6, iv v7, iv v8, iv v9, iv v10, iv v11, iv j12_0, rv b13, rv b22, rv b32, dv v82, sd, jv j84_0, sd, jv j85_0, sd, un, un] [])) K
              refine Wlk.of (fun _ k => XS.lload X85.here hx rfl (hb hby at_287) rfl k) ?_
              show Wlk p.tables e below (T85.setTop (mkF m 289 #[jv q1, sd, iv p3, iv p4, iv p5, iv p6, jv v1, sd, jv v2, sd, jv v3, sd, iv v4, iv v5, iv v6, iv v7, iv v8, iv v9, iv v10, iv v11, iv j12_0, rv b13, rv b22, rv b32, dv v82, sd, jv j84_0, sd, jv j85_0, sd, un, un] [(.long j85_0)])) K
              refine Wlk.of (fun _ k => XS.iload X85.here hx rfl (hb hby at_289) rfl k) ?_
              show Wlk p.tables e below (T85.setTop (mkF m 291 #[jv q1, sd, iv p3, iv p4, iv p5, iv p6, jv v1, sd, jv v2, sd, jv v3, sd, iv v4, iv v5, iv v6, iv v7, iv v8, iv v9, iv v10, iv v11, iv j12_0, rv b13, rv b22, rv b32, dv v82, sd, jv j84_0, sd, jv j85_0, sd, un, un] [(.int v7), (.long j85_0)])) K
              refine Wlk.of (fun _ k => XS.i2l X85.here hx rfl (hb hby at_291) rfl k) ?_
              show Wlk p.tables e below (T85.setTop (mkF m 292 #[jv q1, sd, iv p3, iv p4, iv p5, iv p6, jv v1, sd, jv v2, sd, jv v3, sd, iv v4, iv v5, iv v6, iv v7, iv v8, iv v9, iv v10, iv v11, iv j12_0, rv b13, rv b22, rv b32, dv v82, sd, jv j84_0, sd, jv j85_0, sd, un, un] [(.long (v7.toInt64)), (.long j85_0)])) K
              refine Wlk.of (fun _ k => XS.iload X85.here hx rfl (hb hby at_292) rfl k) ?_
              show Wlk p.tables e below (T85.setTop (mkF m 294 #[jv q1, sd, iv p3, iv p4, iv p5, iv p6, jv v1, sd, jv v2, sd, jv v3, sd, iv v4, iv v5, iv v6, iv v7, iv v8, iv v9, iv v10, iv v11, iv j12_0, rv b13, rv b22, rv b32, dv v82, sd, jv j84_0, sd, jv j85_0, sd, un, un] [(.int v5), (.long (v7.toInt64)), (.long j85_0)])) K
              refine Wlk.of (fun _ k => XS.i2l X85.here hx rfl (hb hby at_294) rfl k) ?_
              show Wlk p.tables e below (T85.setTop (mkF m 295 #[jv q1, sd, iv p3, iv p4, iv p5, iv p6, jv v1, sd, jv v2, sd, jv v3, sd, iv v4, iv v5, iv v6, iv v7, iv v8, iv v9, iv v10, iv v11, iv j12_0, rv b13, rv b22, rv b32, dv v82, sd, jv j84_0, sd, jv j85_0, sd, un, un] [(.long (v5.toInt64)), (.long (v7.toInt64)), (.long j85_0)])) K
              refine Wlk.of (fun _ k => XS.lmul X85.here hx rfl (hb hby at_295) rfl k) ?_
              show Wlk p.tables e below (T85.setTop (mkF m 296 #[jv q1, sd, iv p3, iv p4, iv p5, iv p6, jv v1, sd, jv v2, sd, jv v3, sd, iv v4, iv v5, iv v6, iv v7, iv v8, iv v9, iv v10, iv v11, iv j12_0, rv b13, rv b22, rv b32, dv v82, sd, jv j84_0, sd, jv j85_0, sd, un, un] [(.long ((v7.toInt64) * (v5.toInt64))), (.long j85_0)])) K
              refine Wlk.of (fun _ k => XS.ladd X85.here hx rfl (hb hby at_296) rfl k) ?_
              show Wlk p.tables e below (T85.setTop (mkF m 297 #[jv q1, sd, iv p3, iv p4, iv p5, iv p6, jv v1, sd, jv v2, sd, jv v3, sd, iv v4, iv v5, iv v6, iv v7, iv v8, iv v9, iv v10, iv v11, iv j12_0, rv b13, rv b22, rv b32, dv v82, sd, jv j84_0, sd, jv j85_0, sd, un, un] [(.long (j85_0 + ((v7.toInt64) * (v5.toInt64))))])) K
              refine Wlk.of (fun _ k => XS.lstore X85.here hx rfl (hb hby at_297) rfl (l' := #[jv q1, sd, iv p3, iv p4, iv p5, iv p6, jv v1, sd, jv v2, sd, jv v3, sd, iv v4, iv v5, iv v6, iv v7, iv v8, iv v9, iv v10, iv v11, iv j12_0, rv b13, rv b22, rv b32, dv v82, sd, jv j84_0, sd, jv (j85_0 + ((v7.toInt64) * (v5.toInt64))), sd, un, un]) rfl k) ?_
              show Wlk p.tables e below (T85.setTop (mkF m 299 #[jv q1, sd, iv p3, iv p4, iv p5, iv p6, jv v1, sd, jv v2, sd, jv v3, sd, iv v4, iv v5, iv v6, iv v7, iv v8, iv v9, iv v10, iv v11, iv j12_0, rv b13, rv b22, rv b32, dv v82, sd, jv j84_0, sd, jv (j85_0 + ((v7.toInt64) * (v5.toInt64))), sd, un, un] [])) K
              exact J86 _ X85 e85 _ (by rw [if_pos hc90])
            · refine Wlk.of (fun _ k => XS.ifYes X85.here hx rfl (pc0 := 284) (pc' := 299) rfl (hb hby at_284) rfl ((if0 _ _).trans (flt hc90).2.2.2) (by decide) (by decide) k) ?_
              show Wlk p.tables e below (T85.setTop (mkF m 299 #[jv q1, sd, iv p3, iv p4, iv p5, iv p6, jv v1, sd, jv v2, sd, jv v3, sd, iv v4, iv v5, iv v6, iv v7, iv v8, iv v9, iv v10, iv v11, iv j12_0, rv b13, rv b22, rv b32, dv v82, sd, jv j84_0, sd, jv j85_0, sd, un, un] [])) K
              exact J86 _ X85 e85 _ (by rw [if_neg hc90])
          by_cases hc91 : (0 : Int32) < v9
          · refine Wlk.of (fun _ k => XS.ifNo X84.here hx rfl (hb hby at_267) rfl ((if0 _ _).trans (tlt hc91).2.2.2) k) ?_
            show Wlk p.tables e below (T84.setTop (mkF m 270 #[jv q1, sd, iv p3, iv p4, iv p5, iv p6, jv v1, sd, jv v2, sd, jv v3, sd, iv v4, iv v5, iv v6, iv v7, iv v8, iv v9, iv v10, iv v11, iv j12_0, rv b13, rv b22, rv b32, dv v82, sd, jv j84_0, sd, jv (0 : Int64), sd, un, un] [])) K
            refine Wlk.of (fun _ k => XS.lload X84.here hx rfl (hb hby at_270) rfl k) ?_
            show Wlk p.tables e below (T84.setTop (mkF m 272 #[jv q1, sd, iv p3, iv p4, iv p5, iv p6, jv v1, sd, jv v2, sd, jv v3, sd, iv v4, iv v5, iv v6, iv v7, iv v8, iv v9, iv v10, iv v11, iv j12_0, rv b13, rv b22, rv b32, dv v82, sd, jv j84_0, sd, jv (0 : Int64), sd, un, un] [(.long (0 : Int64))])) K
            refine Wlk.of (fun _ k => XS.iload X84.here hx rfl (hb hby at_272) rfl k) ?_
            show Wlk p.tables e below (T84.setTop (mkF m 274 #[jv q1, sd, iv p3, iv p4, iv p5, iv p6, jv v1, sd, jv v2, sd, jv v3, sd, iv v4, iv v5, iv v6, iv v7, iv v8, iv v9, iv v10, iv v11, iv j12_0, rv b13, rv b22, rv b32, dv v82, sd, jv j84_0, sd, jv (0 : Int64), sd, un, un] [(.int v7), (.long (0 : Int64))])) K
            refine Wlk.of (fun _ k => XS.i2l X84.here hx rfl (hb hby at_274) rfl k) ?_
            show Wlk p.tables e below (T84.setTop (mkF m 275 #[jv q1, sd, iv p3, iv p4, iv p5, iv p6, jv v1, sd, jv v2, sd, jv v3, sd, iv v4, iv v5, iv v6, iv v7, iv v8, iv v9, iv v10, iv v11, iv j12_0, rv b13, rv b22, rv b32, dv v82, sd, jv j84_0, sd, jv (0 : Int64), sd, un, un] [(.long (v7.toInt64)), (.long (0 : Int64))])) K
            refine Wlk.of (fun _ k => XS.iload X84.here hx rfl (hb hby at_275) rfl k) ?_
            show Wlk p.tables e below (T84.setTop (mkF m 277 #[jv q1, sd, iv p3, iv p4, iv p5, iv p6, jv v1, sd, jv v2, sd, jv v3, sd, iv v4, iv v5, iv v6, iv v7, iv v8, iv v9, iv v10, iv v11, iv j12_0, rv b13, rv b22, rv b32, dv v82, sd, jv j84_0, sd, jv (0 : Int64), sd, un, un] [(.int v4), (.long (v7.toInt64)), (.long (0 : Int64))])) K
            refine Wlk.of (fun _ k => XS.i2l X84.here hx rfl (hb hby at_277) rfl k) ?_
            show Wlk p.tables e below (T84.setTop (mkF m 278 #[jv q1, sd, iv p3, iv p4, iv p5, iv p6, jv v1, sd, jv v2, sd, jv v3, sd, iv v4, iv v5, iv v6, iv v7, iv v8, iv v9, iv v10, iv v11, iv j12_0, rv b13, rv b22, rv b32, dv v82, sd, jv j84_0, sd, jv (0 : Int64), sd, un, un] [(.long (v4.toInt64)), (.long (v7.toInt64)), (.long (0 : Int64))])) K
            refine Wlk.of (fun _ k => XS.lmul X84.here hx rfl (hb hby at_278) rfl k) ?_
            show Wlk p.tables e below (T84.setTop (mkF m 279 #[jv q1, sd, iv p3, iv p4, iv p5, iv p6, jv v1, sd, jv v2, sd, jv v3, sd, iv v4, iv v5, iv v6, iv v7, iv v8, iv v9, iv v10, iv v11, iv j12_0, rv b13, rv b22, rv b32, dv v82, sd, jv j84_0, sd, jv (0 : Int64), sd, un, un] [(.long ((v7.toInt64) * (v4.toInt64))), (.long (0 : Int64))])) K
            refine Wlk.of (fun _ k => XS.ladd X84.here hx rfl (hb hby at_279) rfl k) ?_
            show Wlk p.tables e below (T84.setTop (mkF m 280 #[jv q1, sd, iv p3, iv p4, iv p5, iv p6, jv v1, sd, jv v2, sd, jv v3, sd, iv v4, iv v5, iv v6, iv v7, iv v8, iv v9, iv v10, iv v11, iv j12_0, rv b13, rv b22, rv b32, dv v82, sd, jv j84_0, sd, jv (0 : Int64), sd, un, un] [(.long ((0 : Int64) + ((v7.toInt64) * (v4.toInt64))))])) K
            refine Wlk.of (fun _ k => XS.lstore X84.here hx rfl (hb hby at_280) rfl (l' := #[jv q1, sd, iv p3, iv p4, iv p5, iv p6, jv v1, sd, jv v2, sd, jv v3, sd, iv v4, iv v5, iv v6, iv v7, iv v8, iv v9, iv v10, iv v11, iv j12_0, rv b13, rv b22, rv b32, dv v82, sd, jv j84_0, sd, jv ((0 : Int64) + ((v7.toInt64) * (v4.toInt64))), sd, un, un]) rfl k) ?_
            show Wlk p.tables e below (T84.setTop (mkF m 282 #[jv q1, sd, iv p3, iv p4, iv p5, iv p6, jv v1, sd, jv v2, sd, jv v3, sd, iv v4, iv v5, iv v6, iv v7, iv v8, iv v9, iv v10, iv v11, iv j12_0, rv b13, rv b22, rv b32, dv v82, sd, jv j84_0, sd, jv ((0 : Int64) + ((v7.toInt64) * (v4.toInt64))), sd, un, un] [])) K
            exact J85 _ X84 e84 _ (by rw [if_pos hc91])
          · refine Wlk.of (fun _ k => XS.ifYes X84.here hx rfl (pc0 := 267) (pc' := 282) rfl (hb hby at_267) rfl ((if0 _ _).trans (flt hc91).2.2.2) (by decide) (by decide) k) ?_
            show Wlk p.tables e below (T84.setTop (mkF m 282 #[jv q1, sd, iv p3, iv p4, iv p5, iv p6, jv v1, sd, jv v2, sd, jv v3, sd, iv v4, iv v5, iv v6, iv v7, iv v8, iv v9, iv v10, iv v11, iv j12_0, rv b13, rv b22, rv b32, dv v82, sd, jv j84_0, sd, jv (0 : Int64), sd, un, un] [])) K
            exact J85 _ X84 e84 _ (by rw [if_neg hc91])
        by_cases hc92 : j12_0 = (0 : Int32)
        · refine Wlk.of (fun _ k => XS.ifYes X83.here hx rfl (pc0 := 240) (pc' := 262) rfl (hb hby at_240) rfl ((if0 _ _).trans (teq hc92).1) (by decide) (by decide) k) ?_
          show Wlk p.tables e below (T83.setTop (mkF m 262 #[jv q1, sd, iv p3, iv p4, iv p5, iv p6, jv v1, sd, jv v2, sd, jv v3, sd, iv v4, iv v5, iv v6, iv v7, iv v8, iv v9, iv v10, iv v11, iv j12_0, rv b13, rv b22, rv b32, dv v82, sd, jv j83_0, sd, un, un, un, un] [])) K
          exact J84 _ X83 e83 _ (by rw [if_pos hc92])
        · refine Wlk.of (fun _ k => XS.ifNo X83.here hx rfl (hb hby at_240) rfl ((if0 _ _).trans (feq hc92).1) k) ?_
          show Wlk p.tables e below (T83.setTop (mkF m 243 #[jv q1, sd, iv p3, iv p4, iv p5, iv p6, jv v1, sd, jv v2, sd, jv v3, sd, iv v4, iv v5, iv v6, iv v7, iv v8, iv v9, iv v10, iv v11, iv j12_0, rv b13, rv b22, rv b32, dv v82, sd, jv j83_0, sd, un, un, un, un] [])) K
          refine Wlk.of (fun _ k => XS.lload X83.here hx rfl (hb hby at_243) rfl k) ?_
          show Wlk p.tables e below (T83.setTop (mkF m 245 #[jv q1, sd, iv p3, iv p4, iv p5, iv p6, jv v1, sd, jv v2, sd, jv v3, sd, iv v4, iv v5, iv v6, iv v7, iv v8, iv v9, iv v10, iv v11, iv j12_0, rv b13, rv b22, rv b32, dv v82, sd, jv j83_0, sd, un, un, un, un] [(.long v2)])) K
          refine Wlk.of (fun _ k => XS.lload X83.here hx rfl (hb hby at_245) rfl k) ?_
          show Wlk p.tables e below (T83.setTop (mkF m 247 #[jv q1, sd, iv p3, iv p4, iv p5, iv p6, jv v1, sd, jv v2, sd, jv v3, sd, iv v4, iv v5, iv v6, iv v7, iv v8, iv v9, iv v10, iv v11, iv j12_0, rv b13, rv b22, rv b32, dv v82, sd, jv j83_0, sd, un, un, un, un] [(.long v3), (.long v2)])) K
          refine Wlk.of (fun _ k => XS.lcmp X83.here hx rfl (hb hby at_247) rfl k) ?_
          show Wlk p.tables e below (T83.setTop (mkF m 248 #[jv q1, sd, iv p3, iv p4, iv p5, iv p6, jv v1, sd, jv v2, sd, jv v3, sd, iv v4, iv v5, iv v6, iv v7, iv v8, iv v9, iv v10, iv v11, iv j12_0, rv b13, rv b22, rv b32, dv v82, sd, jv j83_0, sd, un, un, un, un] [(.int (lcmpW v2 v3))])) K
          by_cases hc93 : v2 < v3
          · refine Wlk.of (fun _ k => XS.ifNo X83.here hx rfl (hb hby at_248) rfl ((if0 _ _).trans (tlt ((lw_lt _ _).mpr hc93)).2.1) k) ?_
            show Wlk p.tables e below (T83.setTop (mkF m 251 #[jv q1, sd, iv p3, iv p4, iv p5, iv p6, jv v1, sd, jv v2, sd, jv v3, sd, iv v4, iv v5, iv v6, iv v7, iv v8, iv v9, iv v10, iv v11, iv j12_0, rv b13, rv b22, rv b32, dv v82, sd, jv j83_0, sd, un, un, un, un] [])) K
            refine Wlk.of (fun _ k => XS.lload X83.here hx rfl (hb hby at_251) rfl k) ?_
            show Wlk p.tables e below (T83.setTop (mkF m 253 #[jv q1, sd, iv p3, iv p4, iv p5, iv p6, jv v1, sd, jv v2, sd, jv v3, sd, iv v4, iv v5, iv v6, iv v7, iv v8, iv v9, iv v10, iv v11, iv j12_0, rv b13, rv b22, rv b32, dv v82, sd, jv j83_0, sd, un, un, un, un] [(.long j83_0)])) K
            refine Wlk.of (fun _ k => XS.iload X83.here hx rfl (hb hby at_253) rfl k) ?_
            show Wlk p.tables e below (T83.setTop (mkF m 255 #[jv q1, sd, iv p3, iv p4, iv p5, iv p6, jv v1, sd, jv v2, sd, jv v3, sd, iv v4, iv v5, iv v6, iv v7, iv v8, iv v9, iv v10, iv v11, iv j12_0, rv b13, rv b22, rv b32, dv v82, sd, jv j83_0, sd, un, un, un, un] [(.int v7), (.long j83_0)])) K
            refine Wlk.of (fun _ k => XS.i2l X83.here hx rfl (hb hby at_255) rfl k) ?_
            show Wlk p.tables e below (T83.setTop (mkF m 256 #[jv q1, sd, iv p3, iv p4, iv p5, iv p6, jv v1, sd, jv v2, sd, jv v3, sd, iv v4, iv v5, iv v6, iv v7, iv v8, iv v9, iv v10, iv v11, iv j12_0, rv b13, rv b22, rv b32, dv v82, sd, jv j83_0, sd, un, un, un, un] [(.long (v7.toInt64)), (.long j83_0)])) K
            refine Wlk.of (fun _ k => XS.lload X83.here hx rfl (hb hby at_256) rfl k) ?_
            show Wlk p.tables e below (T83.setTop (mkF m 258 #[jv q1, sd, iv p3, iv p4, iv p5, iv p6, jv v1, sd, jv v2, sd, jv v3, sd, iv v4, iv v5, iv v6, iv v7, iv v8, iv v9, iv v10, iv v11, iv j12_0, rv b13, rv b22, rv b32, dv v82, sd, jv j83_0, sd, un, un, un, un] [(.long v3), (.long (v7.toInt64)), (.long j83_0)])) K
            refine Wlk.of (fun _ k => XS.lmul X83.here hx rfl (hb hby at_258) rfl k) ?_
            show Wlk p.tables e below (T83.setTop (mkF m 259 #[jv q1, sd, iv p3, iv p4, iv p5, iv p6, jv v1, sd, jv v2, sd, jv v3, sd, iv v4, iv v5, iv v6, iv v7, iv v8, iv v9, iv v10, iv v11, iv j12_0, rv b13, rv b22, rv b32, dv v82, sd, jv j83_0, sd, un, un, un, un] [(.long ((v7.toInt64) * v3)), (.long j83_0)])) K
            refine Wlk.of (fun _ k => XS.lsub X83.here hx rfl (hb hby at_259) rfl k) ?_
            show Wlk p.tables e below (T83.setTop (mkF m 260 #[jv q1, sd, iv p3, iv p4, iv p5, iv p6, jv v1, sd, jv v2, sd, jv v3, sd, iv v4, iv v5, iv v6, iv v7, iv v8, iv v9, iv v10, iv v11, iv j12_0, rv b13, rv b22, rv b32, dv v82, sd, jv j83_0, sd, un, un, un, un] [(.long (j83_0 - ((v7.toInt64) * v3)))])) K
            refine Wlk.of (fun _ k => XS.lstore X83.here hx rfl (hb hby at_260) rfl (l' := #[jv q1, sd, iv p3, iv p4, iv p5, iv p6, jv v1, sd, jv v2, sd, jv v3, sd, iv v4, iv v5, iv v6, iv v7, iv v8, iv v9, iv v10, iv v11, iv j12_0, rv b13, rv b22, rv b32, dv v82, sd, jv (j83_0 - ((v7.toInt64) * v3)), sd, un, un, un, un]) rfl k) ?_
            show Wlk p.tables e below (T83.setTop (mkF m 262 #[jv q1, sd, iv p3, iv p4, iv p5, iv p6, jv v1, sd, jv v2, sd, jv v3, sd, iv v4, iv v5, iv v6, iv v7, iv v8, iv v9, iv v10, iv v11, iv j12_0, rv b13, rv b22, rv b32, dv v82, sd, jv (j83_0 - ((v7.toInt64) * v3)), sd, un, un, un, un] [])) K
            exact J84 _ X83 e83 _ (by rw [if_neg hc92, if_pos hc93])
          · refine Wlk.of (fun _ k => XS.ifYes X83.here hx rfl (pc0 := 248) (pc' := 262) rfl (hb hby at_248) rfl ((if0 _ _).trans (flt (fun q => hc93 ((lw_lt _ _).mp q))).2.1) (by decide) (by decide) k) ?_
            show Wlk p.tables e below (T83.setTop (mkF m 262 #[jv q1, sd, iv p3, iv p4, iv p5, iv p6, jv v1, sd, jv v2, sd, jv v3, sd, iv v4, iv v5, iv v6, iv v7, iv v8, iv v9, iv v10, iv v11, iv j12_0, rv b13, rv b22, rv b32, dv v82, sd, jv j83_0, sd, un, un, un, un] [])) K
            exact J84 _ X83 e83 _ (by rw [if_neg hc92, if_neg hc93])
      by_cases hc94 : j12_0 = (0 : Int32)
      · refine Wlk.of (fun _ k => XS.ifYes X80.here hx rfl (pc0 := 216) (pc' := 238) rfl (hb hby at_216) rfl ((if0 _ _).trans (teq hc94).1) (by decide) (by decide) k) ?_
        show Wlk p.tables e below (T80.setTop (mkF m 238 #[jv q1, sd, iv p3, iv p4, iv p5, iv p6, jv v1, sd, jv v2, sd, jv v3, sd, iv v4, iv v5, iv v6, iv v7, iv v8, iv v9, iv v10, iv v11, iv j12_0, rv b13, rv b22, rv b32, dv v82, sd, jv (0 : Int64), sd, un, un, un, un] [])) K
        exact J83 _ X80 hh80 _ (by rw [if_pos hc94])
      · refine Wlk.of (fun _ k => XS.ifNo X80.here hx rfl (hb hby at_216) rfl ((if0 _ _).trans (feq hc94).1) k) ?_
        show Wlk p.tables e below (T80.setTop (mkF m 219 #[jv q1, sd, iv p3, iv p4, iv p5, iv p6, jv v1, sd, jv v2, sd, jv v3, sd, iv v4, iv v5, iv v6, iv v7, iv v8, iv v9, iv v10, iv v11, iv j12_0, rv b13, rv b22, rv b32, dv v82, sd, jv (0 : Int64), sd, un, un, un, un] [])) K
        refine Wlk.of (fun _ k => XS.lload X80.here hx rfl (hb hby at_219) rfl k) ?_
        show Wlk p.tables e below (T80.setTop (mkF m 221 #[jv q1, sd, iv p3, iv p4, iv p5, iv p6, jv v1, sd, jv v2, sd, jv v3, sd, iv v4, iv v5, iv v6, iv v7, iv v8, iv v9, iv v10, iv v11, iv j12_0, rv b13, rv b22, rv b32, dv v82, sd, jv (0 : Int64), sd, un, un, un, un] [(.long v2)])) K
        refine Wlk.of (fun _ k => XS.lload X80.here hx rfl (hb hby at_221) rfl k) ?_
        show Wlk p.tables e below (T80.setTop (mkF m 223 #[jv q1, sd, iv p3, iv p4, iv p5, iv p6, jv v1, sd, jv v2, sd, jv v3, sd, iv v4, iv v5, iv v6, iv v7, iv v8, iv v9, iv v10, iv v11, iv j12_0, rv b13, rv b22, rv b32, dv v82, sd, jv (0 : Int64), sd, un, un, un, un] [(.long v1), (.long v2)])) K
        refine Wlk.of (fun _ k => XS.lcmp X80.here hx rfl (hb hby at_223) rfl k) ?_
        show Wlk p.tables e below (T80.setTop (mkF m 224 #[jv q1, sd, iv p3, iv p4, iv p5, iv p6, jv v1, sd, jv v2, sd, jv v3, sd, iv v4, iv v5, iv v6, iv v7, iv v8, iv v9, iv v10, iv v11, iv j12_0, rv b13, rv b22, rv b32, dv v82, sd, jv (0 : Int64), sd, un, un, un, un] [(.int (lcmpW v2 v1))])) K
        by_cases hc95 : v1 < v2
        · refine Wlk.of (fun _ k => XS.ifNo X80.here hx rfl (hb hby at_224) rfl ((if0 _ _).trans (tlt ((lw_gt _ _).mpr hc95)).2.2.2) k) ?_
          show Wlk p.tables e below (T80.setTop (mkF m 227 #[jv q1, sd, iv p3, iv p4, iv p5, iv p6, jv v1, sd, jv v2, sd, jv v3, sd, iv v4, iv v5, iv v6, iv v7, iv v8, iv v9, iv v10, iv v11, iv j12_0, rv b13, rv b22, rv b32, dv v82, sd, jv (0 : Int64), sd, un, un, un, un] [])) K
          refine Wlk.of (fun _ k => XS.lload X80.here hx rfl (hb hby at_227) rfl k) ?_
          show Wlk p.tables e below (T80.setTop (mkF m 229 #[jv q1, sd, iv p3, iv p4, iv p5, iv p6, jv v1, sd, jv v2, sd, jv v3, sd, iv v4, iv v5, iv v6, iv v7, iv v8, iv v9, iv v10, iv v11, iv j12_0, rv b13, rv b22, rv b32, dv v82, sd, jv (0 : Int64), sd, un, un, un, un] [(.long (0 : Int64))])) K
          refine Wlk.of (fun _ k => XS.iload X80.here hx rfl (hb hby at_229) rfl k) ?_
          show Wlk p.tables e below (T80.setTop (mkF m 231 #[jv q1, sd, iv p3, iv p4, iv p5, iv p6, jv v1, sd, jv v2, sd, jv v3, sd, iv v4, iv v5, iv v6, iv v7, iv v8, iv v9, iv v10, iv v11, iv j12_0, rv b13, rv b22, rv b32, dv v82, sd, jv (0 : Int64), sd, un, un, un, un] [(.int v7), (.long (0 : Int64))])) K
          refine Wlk.of (fun _ k => XS.i2l X80.here hx rfl (hb hby at_231) rfl k) ?_
          show Wlk p.tables e below (T80.setTop (mkF m 232 #[jv q1, sd, iv p3, iv p4, iv p5, iv p6, jv v1, sd, jv v2, sd, jv v3, sd, iv v4, iv v5, iv v6, iv v7, iv v8, iv v9, iv v10, iv v11, iv j12_0, rv b13, rv b22, rv b32, dv v82, sd, jv (0 : Int64), sd, un, un, un, un] [(.long (v7.toInt64)), (.long (0 : Int64))])) K
          refine Wlk.of (fun _ k => XS.lload X80.here hx rfl (hb hby at_232) rfl k) ?_
          show Wlk p.tables e below (T80.setTop (mkF m 234 #[jv q1, sd, iv p3, iv p4, iv p5, iv p6, jv v1, sd, jv v2, sd, jv v3, sd, iv v4, iv v5, iv v6, iv v7, iv v8, iv v9, iv v10, iv v11, iv j12_0, rv b13, rv b22, rv b32, dv v82, sd, jv (0 : Int64), sd, un, un, un, un] [(.long v1), (.long (v7.toInt64)), (.long (0 : Int64))])) K
          refine Wlk.of (fun _ k => XS.lmul X80.here hx rfl (hb hby at_234) rfl k) ?_
          show Wlk p.tables e below (T80.setTop (mkF m 235 #[jv q1, sd, iv p3, iv p4, iv p5, iv p6, jv v1, sd, jv v2, sd, jv v3, sd, iv v4, iv v5, iv v6, iv v7, iv v8, iv v9, iv v10, iv v11, iv j12_0, rv b13, rv b22, rv b32, dv v82, sd, jv (0 : Int64), sd, un, un, un, un] [(.long ((v7.toInt64) * v1)), (.long (0 : Int64))])) K
          refine Wlk.of (fun _ k => XS.ladd X80.here hx rfl (hb hby at_235) rfl k) ?_
          show Wlk p.tables e below (T80.setTop (mkF m 236 #[jv q1, sd, iv p3, iv p4, iv p5, iv p6, jv v1, sd, jv v2, sd, jv v3, sd, iv v4, iv v5, iv v6, iv v7, iv v8, iv v9, iv v10, iv v11, iv j12_0, rv b13, rv b22, rv b32, dv v82, sd, jv (0 : Int64), sd, un, un, un, un] [(.long ((0 : Int64) + ((v7.toInt64) * v1)))])) K
          refine Wlk.of (fun _ k => XS.lstore X80.here hx rfl (hb hby at_236) rfl (l' := #[jv q1, sd, iv p3, iv p4, iv p5, iv p6, jv v1, sd, jv v2, sd, jv v3, sd, iv v4, iv v5, iv v6, iv v7, iv v8, iv v9, iv v10, iv v11, iv j12_0, rv b13, rv b22, rv b32, dv v82, sd, jv ((0 : Int64) + ((v7.toInt64) * v1)), sd, un, un, un, un]) rfl k) ?_
          show Wlk p.tables e below (T80.setTop (mkF m 238 #[jv q1, sd, iv p3, iv p4, iv p5, iv p6, jv v1, sd, jv v2, sd, jv v3, sd, iv v4, iv v5, iv v6, iv v7, iv v8, iv v9, iv v10, iv v11, iv j12_0, rv b13, rv b22, rv b32, dv v82, sd, jv ((0 : Int64) + ((v7.toInt64) * v1)), sd, un, un, un, un] [])) K
          exact J83 _ X80 hh80 _ (by rw [if_neg hc94, if_pos hc95])
        · refine Wlk.of (fun _ k => XS.ifYes X80.here hx rfl (pc0 := 224) (pc' := 238) rfl (hb hby at_224) rfl ((if0 _ _).trans (flt (fun q => hc95 ((lw_gt _ _).mp q))).2.2.2) (by decide) (by decide) k) ?_
          show Wlk p.tables e below (T80.setTop (mkF m 238 #[jv q1, sd, iv p3, iv p4, iv p5, iv p6, jv v1, sd, jv v2, sd, jv v3, sd, iv v4, iv v5, iv v6, iv v7, iv v8, iv v9, iv v10, iv v11, iv j12_0, rv b13, rv b22, rv b32, dv v82, sd, jv (0 : Int64), sd, un, un, un, un] [])) K
          exact J83 _ X80 hh80 _ (by rw [if_neg hc94, if_neg hc95])
    by_cases hc96 : j12_0 = (0 : Int32)
    · refine Wlk.of (fun _ k => XS.ifNo X39.here hx rfl (hb hby at_169) rfl ((if0 _ _).trans (teq hc96).2) k) ?_
      show Wlk p.tables e below (T39.setTop (mkF m 172 #[jv q1, sd, iv p3, iv p4, iv p5, iv p6, jv v1, sd, jv v2, sd, jv v3, sd, iv v4, iv v5, iv v6, iv v7, iv v8, iv v9, iv v10, iv v11, iv j12_0, rv b13, rv b22, rv b32, un, un, un, un, un, un, un, un] [])) K
      refine Wlk.of (fun _ k => XS.aload X39.here hx rfl (hb hby at_172) rfl rfl k) ?_
      show Wlk p.tables e below (T39.setTop (mkF m 174 #[jv q1, sd, iv p3, iv p4, iv p5, iv p6, jv v1, sd, jv v2, sd, jv v3, sd, iv v4, iv v5, iv v6, iv v7, iv v8, iv v9, iv v10, iv v11, iv j12_0, rv b13, rv b22, rv b32, un, un, un, un, un, un, un, un] [(.ref b32)])) K
      refine Wlk.of (fun _ k => XS.iconst X39.here hx rfl (hb hby at_174) k) ?_
      show Wlk p.tables e below (T39.setTop (mkF m 175 #[jv q1, sd, iv p3, iv p4, iv p5, iv p6, jv v1, sd, jv v2, sd, jv v3, sd, iv v4, iv v5, iv v6, iv v7, iv v8, iv v9, iv v10, iv v11, iv j12_0, rv b13, rv b22, rv b32, un, un, un, un, un, un, un, un] [(.int (0 : Int32)), (.ref b32)])) K
      have f97 : Exa Z T39.heap b32 "com/example/wardwise/wardwise/solver/LimitPrices" := (A32.keep K39q)
      obtain ⟨v98, T98, L98, X98, q98, st98⟩ := Ctr.virtual (y := (⟨"com/example/wardwise/wardwise/solver/LimitPrices", "priceMinutes", "(Z)V"⟩ : MethodName)) (rmQ l Z a0 hw b32 ((FP.i2d v8)) v1 v3 v4 b13 pri_39 stp_39 lst_39 T39.heap n0 (Nat.le_trans Z0 K51.1) f97 p39_3 p39_4 p39_5 p39_6 p39_7 p39_8 p39_9 p39_10 p39_11 p39_12 ne44 g_b32 g_pri_39) X39 hx hZ rfl hown (wd hw 58 rfl) (wd hw 59 rfl) (notFace_of_selects (args := #[]) (mvT hZ (wd hw 61 rfl))) (wd hw 61 rfl) (wd hw 60 rfl) (wd hw 3 rfl) (wd hw 62 rfl) (by decide) f97 pd_430 (g := (mkF m 175 #[jv q1, sd, iv p3, iv p4, iv p5, iv p6, jv v1, sd, jv v2, sd, jv v3, sd, iv v4, iv v5, iv v6, iv v7, iv v8, iv v9, iv v10, iv v11, iv j12_0, rv b13, rv b22, rv b32, un, un, un, un, un, un, un, un] [(.int (0 : Int32)), (.ref b32)])) rfl (by rw [hml]; rfl) (argsL := [(.int (0 : Int32))]) (rest := []) rfl rfl rfl (W := 0) (by show 2 * 0 + _ ≤ _; exact Nat.le_of_eq rfl) (by decide) (by decide) (hb hby at_175) (by decide) (by decide)
      obtain ⟨rfl, N98q, K98q, p98_0, p98_1, p98_2, p98_3, p98_4, p98_5, p98_6, p98_7, p98_8, p98_9⟩ := q98
      have N99 := Fr.app N40 N98q
      refine Wlk.of (fun _ k => st98 _ k) ?_
      have K100 : Keep h0 T98.heap [] := K51.trans K98q (allS (Or.inr sz_b32) (allS (Or.inr sz_pri_39) all0))
      show Wlk p.tables e below (T98.setTop (mkF m 178 #[jv q1, sd, iv p3, iv p4, iv p5, iv p6, jv v1, sd, jv v2, sd, jv v3, sd, iv v4, iv v5, iv v6, iv v7, iv v8, iv v9, iv v10, iv v11, iv j12_0, rv b13, rv b22, rv b32, un, un, un, un, un, un, un, un] [])) K
      have f101 : Arl Z T98.heap b13 .int [(.int v5), (.int v6)] := ((f38.keep K39q (ninS ne33 nin0)).keep K98q (ninS ne33 (ninS ne41 nin0)))
      have f102 : Arl Z T98.heap b22 .int [(.int (v5 + v10)), (.int (v6 + v11))] := ((f43.keep K39q (ninS ne35 nin0)).keep K98q (ninS ne35 (ninS ne42 nin0)))
      have f103 : Exa Z T98.heap b32 "com/example/wardwise/wardwise/solver/LimitPrices" := (f97.keep K98q)
      have f104 : Arl Z T98.heap stp_39 .double [(.double (0 : UInt64)), (.double (0 : UInt64)), (.double (0 : UInt64)), (.double (0 : UInt64)), (.double (0 : UInt64))] := (p39_13.keep K98q (ninS (Ne.symm ne47) (ninS (Ne.symm p39_15) nin0)))
      have f105 : Arl Z T98.heap lst_39 .int [(.int (0 : Int32)), (.int (0 : Int32)), (.int (0 : Int32)), (.int (0 : Int32)), (.int (0 : Int32))] := (p39_14.keep K98q (ninS (Ne.symm ne50) (ninS (Ne.symm p39_16) nin0)))
      exact J52 _ _ _ (0 : Int32) (by rw [if_pos hc96]) (X98.more (by decide) (by decide)) rfl N99 K100 f101 f102 f103 f104 f105 p98_0 p98_1 p98_2 p98_3 p98_4 p98_5 p98_6 p98_7 p98_8 p98_9
    · refine Wlk.of (fun _ k => XS.ifYes X39.here hx rfl (pc0 := 169) (pc' := 178) rfl (hb hby at_169) rfl ((if0 _ _).trans (feq hc96).2) (by decide) (by decide) k) ?_
      show Wlk p.tables e below (T39.setTop (mkF m 178 #[jv q1, sd, iv p3, iv p4, iv p5, iv p6, jv v1, sd, jv v2, sd, jv v3, sd, iv v4, iv v5, iv v6, iv v7, iv v8, iv v9, iv v10, iv v11, iv j12_0, rv b13, rv b22, rv b32, un, un, un, un, un, un, un, un] [])) K
      have f106 : Arl Z T39.heap b13 .int [(.int v5), (.int v6)] := (f38.keep K39q (ninS ne33 nin0))
      have f107 : Arl Z T39.heap b22 .int [(.int (v5 + v10)), (.int (v6 + v11))] := (f43.keep K39q (ninS ne35 nin0))
      have f108 : Exa Z T39.heap b32 "com/example/wardwise/wardwise/solver/LimitPrices" := (A32.keep K39q)
      exact J52 _ _ _ (1 : Int32) (by rw [if_neg hc96]) (X39.more (by decide) (by decide)) rfl N40 K51 f106 f107 f108 p39_13 p39_14 p39_3 p39_4 p39_5 p39_6 p39_7 p39_8 p39_9 p39_10 p39_11 p39_12
  by_cases hc109 : (((p6.toUInt32 >>> ((16 : Int32) &&& 31).toUInt32).toInt32) &&& (1 : Int32)) = (0 : Int32)
  · refine Wlk.of (fun _ k => XS.ifNo X0.here hx rfl (hb hby at_101) rfl ((if0 _ _).trans (teq hc109).2) k) ?_
    show Wlk p.tables e below (s₁.setTop (mkF m 104 #[jv q1, sd, iv p3, iv p4, iv p5, iv p6, jv v1, sd, jv v2, sd, jv v3, sd, iv v4, iv v5, iv v6, iv v7, iv v8, iv v9, iv v10, iv v11, un, un, un, un, un, un, un, un, un, un, un, un] [])) K
    refine Wlk.of (fun _ k => XS.iconst X0.here hx rfl (hb hby at_104) k) ?_
    show Wlk p.tables e below (s₁.setTop (mkF m 105 #[jv q1, sd, iv p3, iv p4, iv p5, iv p6, jv v1, sd, jv v2, sd, jv v3, sd, iv v4, iv v5, iv v6, iv v7, iv v8, iv v9, iv v10, iv v11, un, un, un, un, un, un, un, un, un, un, un, un] [(.int (1 : Int32))])) K
    refine Wlk.of (fun _ k => XS.goto X0.here hx rfl (pc0 := 105) (pc' := 109) rfl (hb hby at_105) (by decide) (by decide) k) ?_
    show Wlk p.tables e below (s₁.setTop (mkF m 109 #[jv q1, sd, iv p3, iv p4, iv p5, iv p6, jv v1, sd, jv v2, sd, jv v3, sd, iv v4, iv v5, iv v6, iv v7, iv v8, iv v9, iv v10, iv v11, un, un, un, un, un, un, un, un, un, un, un, un] [(.int (1 : Int32))])) K
    exact J12 _ X0 e0 _ (by rw [if_pos hc109])
  · refine Wlk.of (fun _ k => XS.ifYes X0.here hx rfl (pc0 := 101) (pc' := 108) rfl (hb hby at_101) rfl ((if0 _ _).trans (feq hc109).2) (by decide) (by decide) k) ?_
    show Wlk p.tables e below (s₁.setTop (mkF m 108 #[jv q1, sd, iv p3, iv p4, iv p5, iv p6, jv v1, sd, jv v2, sd, jv v3, sd, iv v4, iv v5, iv v6, iv v7, iv v8, iv v9, iv v10, iv v11, un, un, un, un, un, un, un, un, un, un, un, un] [])) K
    refine Wlk.of (fun _ k => XS.iconst X0.here hx rfl (hb hby at_108) k) ?_
    show Wlk p.tables e below (s₁.setTop (mkF m 109 #[jv q1, sd, iv p3, iv p4, iv p5, iv p6, jv v1, sd, jv v2, sd, jv v3, sd, iv v4, iv v5, iv v6, iv v7, iv v8, iv v9, iv v10, iv v11, un, un, un, un, un, un, un, un, un, un, un, un] [(.int (0 : Int32))])) K
    exact J12 _ X0 e0 _ (by rw [if_neg hc109])
set_option maxRecDepth 65536 in
set_option maxHeartbeats 40000000 in
theorem comes_1 {Post : Tables → Env → Array Value → State → Outcome → State → Prop} (hpost : ∀ tb e args s v u, (limb_1_1.after args s (.returned v) u = true ∧ limb_1_2.after args s (.returned v) u = true ∧ True) → FrameEnd s (.returned v) u (Jvm.fieldLocs frame_1_writes args s ++ Jvm.arrayLocs frame_1_arrays args s ++ Jvm.staticLocs frame_1_statics s) 24 128 → Post tb e args s (.returned v) u) :
    ArmFor flags0 classFile x code maxLocals ret World_1 tables_1 room_1 Calls_1 rest_1 Pre_1 Post := by
  intro l hfl _ _ p e ha hc hk s m args below hf hA hF happ hP
  obtain ⟨hcalls, hrest, hpre⟩ := hP
  obtain ⟨-, -, -, hnamed, -, -, -, hat⟩ := (Spec.applies_iff hf).mp happ
  obtain ⟨hg, hn⟩ := and_e (Cond.before_iff.mp (show (Jvm.Cond.and given_1 narrow_1).before args s = true from hpre))
  obtain ⟨g1, g2⟩ := and_e hg
  obtain ⟨g3, g4⟩ := and_e g2
  obtain ⟨g5, g6⟩ := and_e g4
  obtain ⟨g7, g8⟩ := and_e g6
  obtain ⟨g9, g10⟩ := and_e g8
  obtain ⟨w0, w1, w2, w3, w4, rfl⟩ : ∃ w0 w1 w2 w3 w4 : Value, args = #[w0, w1, w2, w3, w4] := by
    have hs : args.size = 5 := by simpa [Cond.value, given_1] using g1
    obtain ⟨L⟩ := args
    match L, hs with
    | [w0, w1, w2, w3, w4], _ => exact ⟨w0, w1, w2, w3, w4, rfl⟩
  have hw := fun d (hd : d ∈ tables_1) => atoms_spec (ws := Jvm.Cond.code x code maxLocals ret :: tables_1) hat d (List.mem_cons_of_mem _ hd)
  have hfit : Fit s := fun {y c} hc i hi => by
    obtain ⟨ha, rfl⟩ := Array.getElem?_eq_some_iff.mp hc
    have q := List.all_eq_true.mp ((Array.all_eq_true_iff_forall_mem.mp hF) _ (Array.getElem_mem ha)) i (List.mem_range.mpr hi)
    simpa [Array.getElem?_eq_getElem hi] using q
  obtain ⟨i0, ei0⟩ := isL_v g3
  obtain rfl : w0 = (.long i0) := Option.some.inj ei0
  obtain ⟨i1, ei1⟩ := is_v g5
  obtain rfl : w1 = (.int i1) := Option.some.inj ei1
  obtain ⟨i2, ei2⟩ := is_v g7
  obtain rfl : w2 = (.int i2) := Option.some.inj ei2
  obtain ⟨i3, ei3⟩ := is_v g9
  obtain rfl : w3 = (.int i3) := Option.some.inj ei3
  obtain ⟨i4, ei4⟩ := is_v g10
  obtain rfl : w4 = (.int i4) := Option.some.inj ei4
  obtain ⟨n, o, h1, h2, h3, _, L, rfl, ⟨rfl, N⟩, hq⟩ := rm0 l s _ hw tables_1 i0 i1 i2 i3 i4  s.heap s.heap.size (Nat.le_refl _)  p e ha hc hk s m _ below hf ((Spec.applies_iff_loose hf).mp happ).1 ⟨rfl, State.Warmed39.refl s, rfl⟩ trivial
  refine ⟨n, _, h1, h2, h3, hpost _ _ _ _ _ _ ⟨Cond.after_iff.mpr rfl, Cond.after_iff.mpr (eq_i res_at (Term.int_eval (1)) rfl), trivial⟩ ⟨hq.1, hq.2.1, (hq.2.2.sift fun y hy => Or.inr (N y hy)).mono (by decide) (by decide)⟩⟩
theorem main_1_1 : Claimed_1_1 := comes_1 fun _ _ _ _ _ _ h hF => ⟨h.1, hF⟩
theorem main_1_2 : Claimed_1_2 := comes_1 fun _ _ _ _ _ _ h hF => ⟨h.2.1, hF⟩
end Jvm.Pilot.@@N@@
namespace Jvm.Pilot.@@N@@
open Jvm Jvm.ClassFile Sem Op Lib Jvm.Free Jvm.Stand Jvm.Pilot.@@N@@.Jvm.D
/-! MADE BY PROGRAM (witnessworld.py) out of the Statement's table words and the real class files: 17 classes; the members and pool entries that the words name. The judged class is class 1, her method 1. -/
namespace start1
open Jvm.ClassFile
def u (s : String) : CpInfo := .utf8 (stringToUtf16 s)
/-- a pool by its gaps: so many unusable entries, then the entry; so many at the end -/
def gap : Nat → List CpInfo → List CpInfo
  | 0, r => r
  | n + 1, r => .unusable :: gap n r
def poolList (es : List (Nat × CpInfo)) (last : Nat) : List CpInfo := es.foldr (fun e r => gap e.1 (e.2 :: r)) (gap last [])
def pool (es : List (Nat × CpInfo)) (last : Nat) : Array CpInfo := ⟨poolList es last⟩
def fileOf (pool : Array CpInfo) (this : Nat) (attrs : Array Attribute := #[]) (ms : Array MethodInfo := #[]) (fl : Nat := 33) (sup : Nat := 0) (ifs : Array Nat := #[]) (fds : Array FieldInfo := #[]) : ClassFile where
  minorVersion := 0
  majorVersion := 65
  constantPool := pool
  accessFlags := fl
  thisClass := this
  superClass := sup
  interfaces := ifs
  fields := fds
  methods := ms
  attributes := attrs
def plain (name : String) (sup : Option ClassId) : Class where
  name := name
  kind := .ordinary
  loader := none
  accessFlags := 33
  super := sup
  interfaces := #[]
  cf := none
  fields := #[]
  methods := #[]
  instanceTypes := #[]
  staticTypes := #[]
  resolved := #[]
  callSites := []
  init := .initialized
  statics := none
  mirror := none

def pool0 : Array CpInfo := pool [(5, u "<init>"), (0, u "()V"), (1, .class_ 10), (1, u "java/lang/Object")] 113

def k0c0 : Code := { maxStack := 0, maxLocals := 1, code := object_method_1_code, exceptionTable := #[], attributes := #[] }
def k0m0 : Method := { name := "<init>", desc := "()V", sig := { parameters := [], returnType := none }, accessFlags := 1, code := some k0c0 }
/-- java/lang/Object -/
def k0 : Class := { plain "java/lang/Object" none with
  accessFlags := 33
  interfaces := #[]
  cf := some (fileOf pool0 8 #[] #[{ accessFlags := 1, nameIndex := 5, descriptorIndex := 6, attributes := #[] }] 33 0 #[] #[])
  fields := #[]
  methods := #[k0m0]
  instanceTypes := #[]
  staticTypes := #[]
  resolved := Array.replicate 124 none
  statics := none }

def pool1 : Array CpInfo := pool [(2, .class_ 4), (1, u "java/lang/Object"), (0, u "<init>"), (0, u "()V"), (0, .class_ 8), (0, u "com/example/wardwise/wardwise/solver/LimitPrices"), (0, .methodref 7 10), (0, .nameAndType 5 11), (0, u "(DJJI[I)V"), (0, .methodref 7 13), (0, .nameAndType 14 15), (0, u "priceMinutes"), (0, u "(Z)V"), (0, .double 4616189618054758400), (1, .methodref 7 19), (0, .nameAndType 20 21), (0, u "startSteps"), (0, u "(D)V"), (0, .methodref 7 23), (0, .nameAndType 24 25), (0, u "step"), (0, u "(JI[I)V"), (0, .methodref 7 27), (0, .nameAndType 28 29), (0, u "ofLimits"), (0, u "()D"), (0, .class_ 31), (0, u "com/example/wardwise/wardwise/solver/LimitPricesOfLimitsPinLaw"), (2, u "law"), (0, u "(JIIII)Z")] 5

def k1m0 : Method := { name := "<init>", desc := "()V", sig := { parameters := [], returnType := none }, accessFlags := 1, code := none }
def k1c1 : Code := { maxStack := 10, maxLocals := 32, code := code, exceptionTable := #[], attributes := #[] }
def k1m1 : Method := { name := "law", desc := "(JIIII)Z", sig := { parameters := [.long, .int, .int, .int, .int], returnType := some .boolean }, accessFlags := 9, code := some k1c1 }
/-- com/example/wardwise/wardwise/solver/LimitPricesOfLimitsPinLaw -/
def k1 : Class := { plain "com/example/wardwise/wardwise/solver/LimitPricesOfLimitsPinLaw" (some 0) with
  accessFlags := 49
  interfaces := #[]
  cf := some (fileOf pool1 30 #[] #[{ accessFlags := 1, nameIndex := 5, descriptorIndex := 6, attributes := #[] }, { accessFlags := 9, nameIndex := 34, descriptorIndex := 35, attributes := #[] }] 49 2 #[] #[])
  fields := #[]
  methods := #[k1m0, k1m1]
  instanceTypes := #[]
  staticTypes := #[]
  resolved := Array.replicate 41 none
  statics := none }

def pool2 : Array CpInfo := pool [(1, .methodref 2 3), (0, .class_ 4), (0, .nameAndType 5 6), (0, u "java/lang/Object"), (0, u "<init>"), (0, u "()V"), (0, .fieldref 8 9), (0, .class_ 10), (0, .nameAndType 11 12), (0, u "com/example/wardwise/wardwise/solver/LimitPrices"), (0, u "pricesMinutes"), (0, u "Z"), (0, .fieldref 8 14), (0, .nameAndType 15 16), (0, u "minuteScale"), (0, u "D"), (0, .fieldref 8 18), (0, .nameAndType 19 20), (0, u "maxMinutes"), (0, u "J"), (0, .fieldref 8 22), (0, .nameAndType 23 20), (0, u "minMinutes"), (0, .fieldref 8 25), (0, .nameAndType 26 27), (0, u "maxWeekends"), (0, u "I"), (0, .fieldref 8 29), (0, .nameAndType 30 31), (0, u "limits"), (0, u "[I"), (0, .fieldref 8 33), (0, .nameAndType 34 35), (0, u "price"), (0, u "[D"), (0, .fieldref 8 37), (0, .nameAndType 38 35), (0, u "stepSize"), (0, .fieldref 8 40), (0, .nameAndType 41 31), (0, u "lastSide"), (1, .class_ 45), (1, u "java/lang/Math"), (0, u "max"), (1, .double 4598175219545276416), (1, .methodref 8 51), (0, .nameAndType 52 53), (0, u "move"), (0, u "(II)V"), (0, .methodref 55 56), (0, .class_ 57), (0, .nameAndType 58 59), (0, u "java/lang/Integer"), (0, u "signum"), (0, u "(I)I"), (0, .double 4609434218613702656), (1, .double 4602678819172646912), (1, .methodref 43 65), (0, .nameAndType 46 66), (0, u "(DD)D"), (2, u "(DJJI[I)V"), (10, u "ABOVE"), (2, u "BELOW"), (1, u "WEEKEND"), (1, u "FIRST_LIMIT"), (1, u "GROWTH"), (0, u "SHRINK"), (0, u "FIRST_STEP"), (2, u "priceMinutes"), (0, u "(Z)V"), (8, u "ofLimits"), (0, u "()D"), (5, u "startSteps"), (0, u "(D)V"), (0, u "step"), (0, u "(JI[I)V")] 5

def k2c0 : Code := { maxStack := 3, maxLocals := 9, code := prog_41_method_1_code, exceptionTable := #[], attributes := #[] }
def k2m0 : Method := { name := "<init>", desc := "(DJJI[I)V", sig := { parameters := [.double, .long, .long, .int, (.array .int)], returnType := none }, accessFlags := 0, code := some k2c0 }
def k2c1 : Code := { maxStack := 4, maxLocals := 2, code := prog_41_method_2_code, exceptionTable := #[], attributes := #[] }
def k2m1 : Method := { name := "priceMinutes", desc := "(Z)V", sig := { parameters := [.boolean], returnType := none }, accessFlags := 0, code := some k2c1 }
def k2c2 : Code := { maxStack := 6, maxLocals := 4, code := prog_41_method_6_code, exceptionTable := #[], attributes := #[] }
def k2m2 : Method := { name := "ofLimits", desc := "()D", sig := { parameters := [], returnType := some .double }, accessFlags := 0, code := some k2c2 }
def k2c3 : Code := { maxStack := 6, maxLocals := 4, code := prog_41_method_11_code, exceptionTable := #[], attributes := #[] }
def k2m3 : Method := { name := "startSteps", desc := "(D)V", sig := { parameters := [.double], returnType := none }, accessFlags := 0, code := some k2c3 }
def k2c4 : Code := { maxStack := 6, maxLocals := 6, code := prog_41_method_12_code, exceptionTable := #[], attributes := #[] }
def k2m4 : Method := { name := "step", desc := "(JI[I)V", sig := { parameters := [.long, .int, (.array .int)], returnType := none }, accessFlags := 0, code := some k2c4 }
def k2c5 : Code := { maxStack := 10, maxLocals := 3, code := prog_41_method_13_code, exceptionTable := #[], attributes := #[] }
def k2m5 : Method := { name := "move", desc := "(II)V", sig := { parameters := [.int, .int], returnType := none }, accessFlags := 2, code := some k2c5 }
/-- com/example/wardwise/wardwise/solver/LimitPrices -/
def k2 : Class := { plain "com/example/wardwise/wardwise/solver/LimitPrices" (some 0) with
  accessFlags := 48
  interfaces := #[]
  cf := some (fileOf pool2 8 #[] #[{ accessFlags := 0, nameIndex := 5, descriptorIndex := 69, attributes := #[] }, { accessFlags := 0, nameIndex := 94, descriptorIndex := 95, attributes := #[] }, { accessFlags := 0, nameIndex := 104, descriptorIndex := 105, attributes := #[] }, { accessFlags := 0, nameIndex := 111, descriptorIndex := 112, attributes := #[] }, { accessFlags := 0, nameIndex := 113, descriptorIndex := 114, attributes := #[] }, { accessFlags := 2, nameIndex := 52, descriptorIndex := 53, attributes := #[] }] 48 2 #[] #[{ accessFlags := 26, nameIndex := 80, descriptorIndex := 27, attributes := #[] }, { accessFlags := 26, nameIndex := 83, descriptorIndex := 27, attributes := #[] }, { accessFlags := 26, nameIndex := 85, descriptorIndex := 27, attributes := #[] }, { accessFlags := 26, nameIndex := 87, descriptorIndex := 27, attributes := #[] }, { accessFlags := 26, nameIndex := 89, descriptorIndex := 16, attributes := #[] }, { accessFlags := 26, nameIndex := 90, descriptorIndex := 16, attributes := #[] }, { accessFlags := 26, nameIndex := 91, descriptorIndex := 16, attributes := #[] }, { accessFlags := 18, nameIndex := 15, descriptorIndex := 16, attributes := #[] }, { accessFlags := 18, nameIndex := 19, descriptorIndex := 20, attributes := #[] }, { accessFlags := 18, nameIndex := 23, descriptorIndex := 20, attributes := #[] }, { accessFlags := 18, nameIndex := 26, descriptorIndex := 27, attributes := #[] }, { accessFlags := 18, nameIndex := 30, descriptorIndex := 31, attributes := #[] }, { accessFlags := 2, nameIndex := 11, descriptorIndex := 12, attributes := #[] }, { accessFlags := 18, nameIndex := 34, descriptorIndex := 35, attributes := #[] }, { accessFlags := 18, nameIndex := 38, descriptorIndex := 35, attributes := #[] }, { accessFlags := 18, nameIndex := 41, descriptorIndex := 31, attributes := #[] }])
  fields := #[{ name := "ABOVE", type := .int, accessFlags := 26, slot := 0, constantValue := 0 }, { name := "BELOW", type := .int, accessFlags := 26, slot := 1, constantValue := 0 }, { name := "WEEKEND", type := .int, accessFlags := 26, slot := 2, constantValue := 0 }, { name := "FIRST_LIMIT", type := .int, accessFlags := 26, slot := 3, constantValue := 0 }, { name := "GROWTH", type := .double, accessFlags := 26, slot := 4, constantValue := 0 }, { name := "SHRINK", type := .double, accessFlags := 26, slot := 5, constantValue := 0 }, { name := "FIRST_STEP", type := .double, accessFlags := 26, slot := 6, constantValue := 0 }, { name := "minuteScale", type := .double, accessFlags := 18, slot := 0, constantValue := 0 }, { name := "maxMinutes", type := .long, accessFlags := 18, slot := 1, constantValue := 0 }, { name := "minMinutes", type := .long, accessFlags := 18, slot := 2, constantValue := 0 }, { name := "maxWeekends", type := .int, accessFlags := 18, slot := 3, constantValue := 0 }, { name := "limits", type := (.array .int), accessFlags := 18, slot := 4, constantValue := 0 }, { name := "pricesMinutes", type := .boolean, accessFlags := 2, slot := 5, constantValue := 0 }, { name := "price", type := (.array .double), accessFlags := 18, slot := 6, constantValue := 0 }, { name := "stepSize", type := (.array .double), accessFlags := 18, slot := 7, constantValue := 0 }, { name := "lastSide", type := (.array .int), accessFlags := 18, slot := 8, constantValue := 0 }]
  methods := #[k2m0, k2m1, k2m2, k2m3, k2m4, k2m5]
  instanceTypes := #[.double, .long, .long, .int, (.array .int), .boolean, (.array .double), (.array .double), (.array .int)]
  staticTypes := #[.int, .int, .int, .int, .double, .double, .double]
  resolved := Array.replicate 120 none
  statics := none }

def pool3 : Array CpInfo := pool [(1, .class_ 2), (0, u "java/io/Serializable"), (0, .class_ 4), (0, u "java/lang/Object")] 2

/-- java/io/Serializable -/
def k3 : Class := { plain "java/io/Serializable" (some 0) with
  accessFlags := 1537
  interfaces := #[]
  cf := some (fileOf pool3 1 #[] #[] 1537 3 #[] #[])
  fields := #[]
  methods := #[]
  instanceTypes := #[]
  staticTypes := #[]
  resolved := Array.replicate 7 none
  statics := none }

def pool4 : Array CpInfo := pool [(2, .class_ 4), (1, u "java/lang/Object"), (0, u "<init>"), (0, u "()V"), (1, .class_ 10), (1, u "java/lang/Number"), (2, .class_ 14), (0, u "java/io/Serializable"), (0, u "serialVersionUID"), (0, u "J")] 20

def k4m0 : Method := { name := "<init>", desc := "()V", sig := { parameters := [], returnType := none }, accessFlags := 1, code := none }
/-- java/lang/Number -/
def k4 : Class := { plain "java/lang/Number" (some 0) with
  accessFlags := 1057
  interfaces := #[3]
  cf := some (fileOf pool4 8 #[] #[{ accessFlags := 1, nameIndex := 5, descriptorIndex := 6, attributes := #[] }] 1057 2 #[13] #[{ accessFlags := 26, nameIndex := 15, descriptorIndex := 16, attributes := #[] }])
  fields := #[{ name := "serialVersionUID", type := .long, accessFlags := 26, slot := 0, constantValue := 0 }]
  methods := #[k4m0]
  instanceTypes := #[]
  staticTypes := #[.long]
  resolved := Array.replicate 37 none
  statics := none }

def pool5 : Array CpInfo := pool [(1, .class_ 2), (0, u "java/lang/Comparable"), (0, .class_ 4), (0, u "java/lang/Object")] 7

/-- java/lang/Comparable -/
def k5 : Class := { plain "java/lang/Comparable" (some 0) with
  accessFlags := 1537
  interfaces := #[]
  cf := some (fileOf pool5 1 #[] #[] 1537 3 #[] #[])
  fields := #[]
  methods := #[]
  instanceTypes := #[]
  staticTypes := #[]
  resolved := Array.replicate 12 none
  statics := none }

def pool6 : Array CpInfo := pool [(1, .class_ 2), (0, u "java/lang/constant/Constable"), (0, .class_ 4), (0, u "java/lang/Object")] 6

/-- java/lang/constant/Constable -/
def k6 : Class := { plain "java/lang/constant/Constable" (some 0) with
  accessFlags := 1537
  interfaces := #[]
  cf := some (fileOf pool6 1 #[] #[] 1537 3 #[] #[])
  fields := #[]
  methods := #[]
  instanceTypes := #[]
  staticTypes := #[]
  resolved := Array.replicate 11 none
  statics := none }

def pool7 : Array CpInfo := pool [(1, .class_ 2), (0, u "java/lang/constant/ConstantDesc"), (0, .class_ 4), (0, u "java/lang/Object")] 32

/-- java/lang/constant/ConstantDesc -/
def k7 : Class := { plain "java/lang/constant/ConstantDesc" (some 0) with
  accessFlags := 1537
  interfaces := #[]
  cf := some (fileOf pool7 1 #[] #[] 1537 3 #[] #[])
  fields := #[]
  methods := #[]
  instanceTypes := #[]
  staticTypes := #[]
  resolved := Array.replicate 37 none
  statics := none }

def pool8 : Array CpInfo := pool [(1, .class_ 2), (0, u "java/lang/Integer"), (16, u "digits"), (0, u "[C"), (33, u "(I)I"), (30, u "DigitOnes"), (0, u "[B"), (2, u "DigitTens"), (99, .class_ 190), (0, u "java/lang/Integer$IntegerCache"), (3, u "I"), (8, .class_ 204), (0, u "java/lang/Number"), (2, u "value"), (94, u "TYPE"), (0, u "Ljava/lang/Class;"), (0, .class_ 305), (0, u "java/lang/Comparable"), (0, .class_ 307), (0, u "java/lang/constant/Constable"), (0, .class_ 309), (0, u "java/lang/constant/ConstantDesc"), (0, u "MIN_VALUE"), (1, u "MAX_VALUE"), (3, u "SIZE"), (1, u "BYTES"), (1, u "serialVersionUID"), (0, u "J"), (104, u "signum")] 26

def k8c0 : Code := { maxStack := 3, maxLocals := 1, code := jdk_33_method_56_code, exceptionTable := #[], attributes := #[] }
def k8m0 : Method := { name := "signum", desc := "(I)I", sig := { parameters := [.int], returnType := some .int }, accessFlags := 9, code := some k8c0 }
/-- java/lang/Integer -/
def k8 : Class := { plain "java/lang/Integer" (some 4) with
  accessFlags := 49
  interfaces := #[5, 6, 7]
  cf := some (fileOf pool8 1 #[.nestMembers #[189]] #[{ accessFlags := 9, nameIndex := 426, descriptorIndex := 54, attributes := #[] }] 49 203 #[304, 306, 308] #[{ accessFlags := 25, nameIndex := 310, descriptorIndex := 194, attributes := #[] }, { accessFlags := 25, nameIndex := 312, descriptorIndex := 194, attributes := #[] }, { accessFlags := 25, nameIndex := 302, descriptorIndex := 303, attributes := #[] }, { accessFlags := 24, nameIndex := 19, descriptorIndex := 20, attributes := #[] }, { accessFlags := 24, nameIndex := 89, descriptorIndex := 86, attributes := #[] }, { accessFlags := 24, nameIndex := 85, descriptorIndex := 86, attributes := #[] }, { accessFlags := 18, nameIndex := 207, descriptorIndex := 194, attributes := #[] }, { accessFlags := 25, nameIndex := 316, descriptorIndex := 194, attributes := #[] }, { accessFlags := 25, nameIndex := 318, descriptorIndex := 194, attributes := #[] }, { accessFlags := 26, nameIndex := 320, descriptorIndex := 321, attributes := #[] }])
  fields := #[{ name := "MIN_VALUE", type := .int, accessFlags := 25, slot := 0, constantValue := 0 }, { name := "MAX_VALUE", type := .int, accessFlags := 25, slot := 1, constantValue := 0 }, { name := "TYPE", type := (.object "java/lang/Class"), accessFlags := 25, slot := 2, constantValue := 0 }, { name := "digits", type := (.array .char), accessFlags := 24, slot := 3, constantValue := 0 }, { name := "DigitTens", type := (.array .byte), accessFlags := 24, slot := 4, constantValue := 0 }, { name := "DigitOnes", type := (.array .byte), accessFlags := 24, slot := 5, constantValue := 0 }, { name := "value", type := .int, accessFlags := 18, slot := 0, constantValue := 0 }, { name := "SIZE", type := .int, accessFlags := 25, slot := 6, constantValue := 0 }, { name := "BYTES", type := .int, accessFlags := 25, slot := 7, constantValue := 0 }, { name := "serialVersionUID", type := .long, accessFlags := 26, slot := 8, constantValue := 0 }]
  methods := #[k8m0]
  instanceTypes := #[.int]
  staticTypes := #[.int, .int, (.object "java/lang/Class"), (.array .char), (.array .byte), (.array .byte), .int, .int, .long]
  resolved := Array.replicate 453 none
  statics := none }

def pool9 : Array CpInfo := pool [(1, .class_ 2), (0, u "java/lang/Math"), (1, .class_ 6), (1, u "java/lang/Object"), (0, u "<init>"), (0, u "()V"), (43, u "(DD)D"), (45, .class_ 100), (1, u "java/lang/Math$RandomNumberGeneratorHolder"), (71, u "negativeZeroFloatBits"), (0, u "J"), (2, u "negativeZeroDoubleBits"), (21, u "max"), (46, u "$assertionsDisabled"), (0, u "Z"), (91, u "twoToTheDoubleScaleDown"), (0, u "D"), (4, u "twoToTheDoubleScaleUp"), (9, u "E"), (3, u "PI"), (2, u "TAU"), (2, u "DEGREES_TO_RADIANS"), (0, u "RADIANS_TO_DEGREES")] 94

def k9m0 : Method := { name := "<init>", desc := "()V", sig := { parameters := [], returnType := none }, accessFlags := 2, code := none }
def k9c1 : Code := { maxStack := 4, maxLocals := 4, code := jdk_29_method_68_code, exceptionTable := #[], attributes := #[] }
def k9m1 : Method := { name := "max", desc := "(DD)D", sig := { parameters := [.double, .double], returnType := some .double }, accessFlags := 9, code := some k9c1 }
/-- java/lang/Math -/
def k9 : Class := { plain "java/lang/Math" (some 0) with
  accessFlags := 49
  interfaces := #[]
  cf := some (fileOf pool9 1 #[.nestMembers #[98]] #[{ accessFlags := 2, nameIndex := 7, descriptorIndex := 8, attributes := #[] }, { accessFlags := 9, nameIndex := 198, descriptorIndex := 52, attributes := #[] }] 49 4 #[] #[{ accessFlags := 25, nameIndex := 354, descriptorIndex := 339, attributes := #[] }, { accessFlags := 25, nameIndex := 358, descriptorIndex := 339, attributes := #[] }, { accessFlags := 25, nameIndex := 361, descriptorIndex := 339, attributes := #[] }, { accessFlags := 26, nameIndex := 364, descriptorIndex := 339, attributes := #[] }, { accessFlags := 26, nameIndex := 365, descriptorIndex := 339, attributes := #[] }, { accessFlags := 26, nameIndex := 172, descriptorIndex := 173, attributes := #[] }, { accessFlags := 26, nameIndex := 176, descriptorIndex := 173, attributes := #[] }, { accessFlags := 8, nameIndex := 344, descriptorIndex := 339, attributes := #[] }, { accessFlags := 8, nameIndex := 338, descriptorIndex := 339, attributes := #[] }, { accessFlags := 4120, nameIndex := 245, descriptorIndex := 246, attributes := #[] }])
  fields := #[{ name := "E", type := .double, accessFlags := 25, slot := 0, constantValue := 0 }, { name := "PI", type := .double, accessFlags := 25, slot := 1, constantValue := 0 }, { name := "TAU", type := .double, accessFlags := 25, slot := 2, constantValue := 0 }, { name := "DEGREES_TO_RADIANS", type := .double, accessFlags := 26, slot := 3, constantValue := 0 }, { name := "RADIANS_TO_DEGREES", type := .double, accessFlags := 26, slot := 4, constantValue := 0 }, { name := "negativeZeroFloatBits", type := .long, accessFlags := 26, slot := 5, constantValue := 0 }, { name := "negativeZeroDoubleBits", type := .long, accessFlags := 26, slot := 6, constantValue := 0 }, { name := "twoToTheDoubleScaleUp", type := .double, accessFlags := 8, slot := 7, constantValue := 0 }, { name := "twoToTheDoubleScaleDown", type := .double, accessFlags := 8, slot := 8, constantValue := 0 }, { name := "$assertionsDisabled", type := .boolean, accessFlags := 4120, slot := 9, constantValue := 0 }]
  methods := #[k9m0, k9m1]
  instanceTypes := #[]
  staticTypes := #[.double, .double, .double, .double, .double, .long, .long, .double, .double, .boolean]
  resolved := Array.replicate 460 none
  statics := none }

def pool10 : Array CpInfo := pool [(1, u "java/lang/Cloneable"), (0, .class_ 1), (0, u "java/lang/Object"), (0, .class_ 3)] 3

/-- java/lang/Cloneable -/
def k10 : Class := { plain "java/lang/Cloneable" (some 0) with
  accessFlags := 1537
  interfaces := #[]
  cf := some (fileOf pool10 2 #[] #[] 1537 4 #[] #[])
  fields := #[]
  methods := #[]
  instanceTypes := #[]
  staticTypes := #[]
  resolved := Array.replicate 8 none
  statics := none }

/-- the primitive byte -/
def k11 : Class := { plain "byte" none with kind := .primitive 'B', accessFlags := 0x411 }
/-- [B -/
def k12 : Class := { plain "[B" (some 0) with kind := .array 11 .byte, interfaces := #[10, 3], accessFlags := 1041 }

/-- the primitive double -/
def k13 : Class := { plain "double" none with kind := .primitive 'D', accessFlags := 0x411 }
/-- [D -/
def k14 : Class := { plain "[D" (some 0) with kind := .array 13 .double, interfaces := #[10, 3], accessFlags := 1041 }

/-- the primitive int -/
def k15 : Class := { plain "int" none with kind := .primitive 'I', accessFlags := 0x411 }
/-- [I -/
def k16 : Class := { plain "[I" (some 0) with kind := .array 15 .int, interfaces := #[10, 3], accessFlags := 1041 }

def heap : Heap := #[]
def classes : Array Class := #[k0, k1, k2, k3, k4, k5, k6, k7, k8, k9, k10, k11, k12, k13, k14, k15, k16]
def interned : List (Array UInt16 × Addr) := []
def slotsUsed : Nat := 0
def theMethod : MethodId := ⟨1, 1⟩
def args0 : Array Value := #[.long 5, .int 3, .int 4, .int 6, .int 9]
def aboutOver (below : List Frame) : State where
  vm := { classes := classes, interned := interned.toArray }
  heap := heap
  slotsUsed := slotsUsed
  threads := #[{ frames := .invoking theMethod args0 :: below }]
def below0 : List Frame := [.native { method := ⟨0, 0⟩, args := #[] }]
def about1 : State := aboutOver below0
def p0 : Program := .bare "" "" ""
def e0 : Env := launch0.env 0 0 0
theorem w_frames : about1.frames = Frame.invoking theMethod args0 :: below0 := rfl
set_option maxRecDepth 65536 in
theorem w_args : argsFit about1.vm theMethod args0 = true := by decide +kernel
set_option maxRecDepth 65536 in
theorem w_heap : heapFits about1 = true := by decide +kernel
set_option maxRecDepth 65536 in
theorem w_runnable : about1.curStatus? = some .runnable := by decide +kernel
set_option maxRecDepth 65536 in
theorem w_alone : about1.alone = true := by decide +kernel
set_option maxRecDepth 65536 in
theorem w_named : about1.methodNamed? x = some theMethod := by decide +kernel
set_option maxRecDepth 65536 in
theorem w_hears : about1.hears theMethod below0 = true := by decide +kernel
set_option maxRecDepth 65536 in
theorem w_ripe : about1.ripe theMethod args0 below0 = true := by decide +kernel
theorem w_running : about1.status = .running := rfl
set_option maxRecDepth 65536 in
theorem w_room : about1.hasRoom e0.platform room_1 = true :=
  launch0.hasRoom_least _ room_1 (by decide +kernel) (by decide +kernel) (by decide +kernel) (by decide +kernel) (by decide +kernel) (by decide +kernel)
theorem allAtoms_all (ts : List Jvm.Cond) (a : Array Jvm.Value) (st : Jvm.State) : (allAtoms ts).before a st = ts.all (fun c => c.before a st) := by
  induction ts with
  | nil => rfl
  | cons c t ih =>
    show (Jvm.Cond.and c (allAtoms t)).before a st = _
    rw [Jvm.Cond.before_and, ih, List.all_cons]
def words1 : List Jvm.Cond := Jvm.Cond.code x code maxLocals ret :: tables_1
/-- a 'code' word, met by the world's own term for the bytes: nothing is compared byte by byte -/
theorem code_word {y : MethodName} {bytes : ByteArray} {mx : Nat} {rt : Option FieldType} {a : Array Value} {s : State} {m : MethodId} {meth : Method} {c : Code} (h1 : s.methodNamed? y = some m) (h2 : s.vm.method? m = some meth) (h3 : meth.code = some c) (h4 : c.code = bytes)
    (h5 : (c.maxLocals == mx && c.exceptionTable.isEmpty && decide (c.maxStack ≤ mostOperands) && decide (meth.sig.returnType = rt) && !meth.locks && decide (parseMethodDescriptor y.desc = some meth.sig)) = true) : (Jvm.Cond.code y bytes mx rt).before a s = true := by
  simp only [Bool.and_eq_true, beq_iff_eq, Bool.not_eq_true', decide_eq_true_eq] at h5
  obtain ⟨⟨⟨⟨⟨g1, g2⟩, g3⟩, g4⟩, g5⟩, g6⟩ := h5
  simp [Cond.before, Cond.holds, Cond.value, h1, h2, h3, h4, g1, g2, g3, g4, g5, g6]
def isCode : Jvm.Cond → Bool
  | .code _ _ _ _ => true
  | _ => false
theorem all_split {L : List Jvm.Cond} {P : Jvm.Cond → Bool} (h1 : L.all (fun c => isCode c || P c) = true) (h2 : ∀ c ∈ L.filter isCode, P c = true) : L.all P = true := by
  refine List.all_eq_true.mpr fun c hc => ?_
  have h := List.all_eq_true.mp h1 c hc
  rcases Bool.eq_false_or_eq_true (isCode c) with hi | hi
  · exact h2 c (List.mem_filter.mpr ⟨hc, hi⟩)
  · simpa [hi] using h
set_option maxRecDepth 65536 in
theorem w_c0 : (Jvm.Cond.code x code maxLocals ret).before args0 about1 = true := code_word (m := ⟨1, 1⟩) (meth := k1m1) (c := k1c1) (by decide +kernel) rfl rfl rfl (by decide +kernel)
set_option maxRecDepth 65536 in
theorem w_c1 : (Jvm.Cond.code ({ cls := "com/example/wardwise/wardwise/solver/LimitPrices", name := "<init>", desc := "(DJJI[I)V" } : Jvm.MethodName) prog_41_method_1_code (9 : Nat) (Option.none : Option Jvm.ClassFile.FieldType)).before args0 about1 = true := code_word (m := ⟨2, 0⟩) (meth := k2m0) (c := k2c0) (by decide +kernel) rfl rfl rfl (by decide +kernel)
set_option maxRecDepth 65536 in
theorem w_c2 : (Jvm.Cond.code ({ cls := "java/lang/Object", name := "<init>", desc := "()V" } : Jvm.MethodName) object_method_1_code (1 : Nat) (Option.none : Option Jvm.ClassFile.FieldType)).before args0 about1 = true := code_word (m := ⟨0, 0⟩) (meth := k0m0) (c := k0c0) (by decide +kernel) rfl rfl rfl (by decide +kernel)
set_option maxRecDepth 65536 in
theorem w_c3 : (Jvm.Cond.code ({ cls := "com/example/wardwise/wardwise/solver/LimitPrices", name := "startSteps", desc := "(D)V" } : Jvm.MethodName) prog_41_method_11_code (4 : Nat) (Option.none : Option Jvm.ClassFile.FieldType)).before args0 about1 = true := code_word (m := ⟨2, 3⟩) (meth := k2m3) (c := k2c3) (by decide +kernel) rfl rfl rfl (by decide +kernel)
set_option maxRecDepth 65536 in
theorem w_c4 : (Jvm.Cond.code ({ cls := "com/example/wardwise/wardwise/solver/LimitPrices", name := "step", desc := "(JI[I)V" } : Jvm.MethodName) prog_41_method_12_code (6 : Nat) (Option.none : Option Jvm.ClassFile.FieldType)).before args0 about1 = true := code_word (m := ⟨2, 4⟩) (meth := k2m4) (c := k2c4) (by decide +kernel) rfl rfl rfl (by decide +kernel)
set_option maxRecDepth 65536 in
theorem w_c5 : (Jvm.Cond.code ({ cls := "com/example/wardwise/wardwise/solver/LimitPrices", name := "move", desc := "(II)V" } : Jvm.MethodName) prog_41_method_13_code (3 : Nat) (Option.none : Option Jvm.ClassFile.FieldType)).before args0 about1 = true := code_word (m := ⟨2, 5⟩) (meth := k2m5) (c := k2c5) (by decide +kernel) rfl rfl rfl (by decide +kernel)
set_option maxRecDepth 65536 in
theorem w_c6 : (Jvm.Cond.code ({ cls := "java/lang/Integer", name := "signum", desc := "(I)I" } : Jvm.MethodName) jdk_33_method_56_code (1 : Nat) (Option.some Jvm.ClassFile.FieldType.int)).before args0 about1 = true := code_word (m := ⟨8, 0⟩) (meth := k8m0) (c := k8c0) (by decide +kernel) rfl rfl rfl (by decide +kernel)
set_option maxRecDepth 65536 in
theorem w_c7 : (Jvm.Cond.code ({ cls := "com/example/wardwise/wardwise/solver/LimitPrices", name := "ofLimits", desc := "()D" } : Jvm.MethodName) prog_41_method_6_code (4 : Nat) (Option.some Jvm.ClassFile.FieldType.double)).before args0 about1 = true := code_word (m := ⟨2, 2⟩) (meth := k2m2) (c := k2c2) (by decide +kernel) rfl rfl rfl (by decide +kernel)
set_option maxRecDepth 65536 in
theorem w_c8 : (Jvm.Cond.code ({ cls := "java/lang/Math", name := "max", desc := "(DD)D" } : Jvm.MethodName) jdk_29_method_68_code (4 : Nat) (Option.some Jvm.ClassFile.FieldType.double)).before args0 about1 = true := code_word (m := ⟨9, 1⟩) (meth := k9m1) (c := k9c1) (by decide +kernel) rfl rfl rfl (by decide +kernel)
set_option maxRecDepth 65536 in
theorem w_c9 : (Jvm.Cond.code ({ cls := "com/example/wardwise/wardwise/solver/LimitPrices", name := "priceMinutes", desc := "(Z)V" } : Jvm.MethodName) prog_41_method_2_code (2 : Nat) (Option.none : Option Jvm.ClassFile.FieldType)).before args0 about1 = true := code_word (m := ⟨2, 1⟩) (meth := k2m1) (c := k2c1) (by decide +kernel) rfl rfl rfl (by decide +kernel)
def codes1 : List Jvm.Cond := [Jvm.Cond.code x code maxLocals ret, Jvm.Cond.code ({ cls := "com/example/wardwise/wardwise/solver/LimitPrices", name := "<init>", desc := "(DJJI[I)V" } : Jvm.MethodName) prog_41_method_1_code (9 : Nat) (Option.none : Option Jvm.ClassFile.FieldType), Jvm.Cond.code ({ cls := "java/lang/Object", name := "<init>", desc := "()V" } : Jvm.MethodName) object_method_1_code (1 : Nat) (Option.none : Option Jvm.ClassFile.FieldType), Jvm.Cond.code ({ cls := "com/example/wardwise/wardwise/solver/LimitPrices", name := "startSteps", desc := "(D)V" } : Jvm.MethodName) prog_41_method_11_code (4 : Nat) (Option.none : Option Jvm.ClassFile.FieldType), Jvm.Cond.code ({ cls := "com/example/wardwise/wardwise/solver/LimitPrices", name := "step", desc := "(JI[I)V" } : Jvm.MethodName) prog_41_method_12_code (6 : Nat) (Option.none : Option Jvm.ClassFile.FieldType), Jvm.Cond.code ({ cls := "com/example/wardwise/wardwise/solver/LimitPrices", name := "move", desc := "(II)V" } : Jvm.MethodName) prog_41_method_13_code (3 : Nat) (Option.none : Option Jvm.ClassFile.FieldType), Jvm.Cond.code ({ cls := "java/lang/Integer", name := "signum", desc := "(I)I" } : Jvm.MethodName) jdk_33_method_56_code (1 : Nat) (Option.some Jvm.ClassFile.FieldType.int), Jvm.Cond.code ({ cls := "com/example/wardwise/wardwise/solver/LimitPrices", name := "ofLimits", desc := "()D" } : Jvm.MethodName) prog_41_method_6_code (4 : Nat) (Option.some Jvm.ClassFile.FieldType.double), Jvm.Cond.code ({ cls := "java/lang/Math", name := "max", desc := "(DD)D" } : Jvm.MethodName) jdk_29_method_68_code (4 : Nat) (Option.some Jvm.ClassFile.FieldType.double), Jvm.Cond.code ({ cls := "com/example/wardwise/wardwise/solver/LimitPrices", name := "priceMinutes", desc := "(Z)V" } : Jvm.MethodName) prog_41_method_2_code (2 : Nat) (Option.none : Option Jvm.ClassFile.FieldType)]
set_option maxRecDepth 65536 in
theorem codes_eq : words1.filter isCode = codes1 := rfl
theorem w_codes : ∀ c ∈ words1.filter isCode, c.before args0 about1 = true := by
  rw [codes_eq]
  intro c hc
  simp only [codes1, List.mem_cons, List.not_mem_nil, or_false] at hc
  rcases hc with rfl | rfl | rfl | rfl | rfl | rfl | rfl | rfl | rfl | rfl
  · exact w_c0
  · exact w_c1
  · exact w_c2
  · exact w_c3
  · exact w_c4
  · exact w_c5
  · exact w_c6
  · exact w_c7
  · exact w_c8
  · exact w_c9
set_option maxRecDepth 65536 in
theorem w_t1 : (words1.take 24).all (fun c => isCode c || c.before args0 about1) = true := by decide +kernel
set_option maxRecDepth 65536 in
theorem w_t2 : ((words1.drop 24).take 24).all (fun c => isCode c || c.before args0 about1) = true := by decide +kernel
set_option maxRecDepth 65536 in
theorem w_t3 : ((words1.drop 24).drop 24).all (fun c => isCode c || c.before args0 about1) = true := by decide +kernel
theorem w_tables : (allAtoms (Jvm.Cond.code x code maxLocals ret :: tables_1)).before args0 about1 = true := by
  rw [allAtoms_all]
  show words1.all (fun c => c.before args0 about1) = true
  refine all_split ?_ w_codes
  rw [← List.take_append_drop 24 words1, List.all_append, w_t1, ← List.take_append_drop 24 (words1.drop 24), List.all_append, w_t2, w_t3]
  rfl
set_option maxRecDepth 65536 in
theorem w_case : (Jvm.Cond.and given_1 narrow_1).before args0 about1 = true := by decide +kernel
theorem w_applies : (headSpec (Jvm.Cond.code x code maxLocals ret :: tables_1) room_1).applies x e0.platform about1 = true :=
  (Spec.applies_iff w_frames).mpr ⟨w_running, w_runnable, w_alone, w_named, w_hears, w_ripe, w_room, w_tables⟩
theorem atStart : AtStart classFile x code maxLocals ret World_1 tables_1 room_1 Calls_1 rest_1 Pre_1 launch0 p0 e0 about1 theMethod args0 below0 :=
  ⟨lists_1, trivial, launch0.admits_env _ _ _, launch0.least_env, fairChoices_fair.cas, fairChoices_fair.clock, w_frames, w_args, w_heap, w_applies, trivial, trivial, w_case⟩
end start1
theorem witness_1 : WitnessClaimed_1 := ⟨start1.p0, start1.e0, start1.about1, start1.theMethod, start1.args0, start1.below0, start1.atStart⟩
end Jvm.Pilot.@@N@@
