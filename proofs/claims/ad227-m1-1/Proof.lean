import JvmDerived
import JvmDerived.Pilot.@@N@@Statement
import JvmDerived.Pilot.@@N@@Code
set_option linter.unusedVariables false
set_option linter.unusedSimpArgs false
namespace Jvm.OwnKit
open Sem ClassFile Op Lib Jvm.Stand Jvm.Free Jvm.LawKit Jvm.RoadKit
abbrev jv (x : Int64) : Slot := .val (.long x)
abbrev dv (x : UInt64) : Slot := .val (.double x)
abbrev nv : Slot := .val .null
abbrev un : Slot := .unset
abbrev sd : Slot := .second
theorem wd {ws : List Jvm.Cond} {a0 : Array Value} {Z : State} (hw : ∀ d ∈ ws, d.before a0 Z = true) (i : Nat) {d : Jvm.Cond} (h : ws[i]? = some d) : d.before a0 Z = true := hw _ (List.mem_of_getElem? h)
/-! ## the walk, backwards: from S the run comes to an end that K speaks of -/
def Wlk (tb : Tables) (e : Env) (below : List Frame) (S : State) (K : State → Outcome → Prop) : Prop := ∃ s₂ o, Steps tb e below S s₂ ∧ K s₂ o
section Wlks
variable {tb : Tables} {e : Env} {below : List Frame} {S S' : State} {K : State → Outcome → Prop}
theorem Wlk.of (f : ∀ t, Steps tb e below S' t → Steps tb e below S t) (h : Wlk tb e below S' K) : Wlk tb e below S K := by
  obtain ⟨t, o, h1, h2⟩ := h; exact ⟨t, o, f t h1, h2⟩
end Wlks
/-! ## a body's contract -/
def Ctr (l : Launch) (Z : State) (h0 : Heap) (y : MethodName) (bytes : ByteArray) (maxL : Nat) (ret : Option FieldType) (ws : List Jvm.Cond) (rm : Room) (as' : Array Value) (Q : Option Value → Heap → List Loc → Prop) : Prop :=
  MetFree l y (head1 (Jvm.Cond.code y bytes maxL ret :: ws) rm) (fun a U => a = as' ∧ Z.Warmed39 U.vm ∧ U.heap = h0) (fun _ _ _ _ _ => True) (fun _ U o U' => ∃ v L, o = .returned v ∧ Q v U'.heap L ∧ FrameEnd U o U' L rm.cells rm.slots)
/-- what the end of a body's walk must show -/
def Fin (p : Program) (l : Launch) (e : Env) (rm : Room) (s : State) (m : MethodId) (as' : Array Value) (below : List Frame) (meth : Method) (c : Code) (ret : Option FieldType) (Q : Option Value → Heap → List Loc → Prop) (K : State → Outcome → Prop) : Prop :=
  ∀ {T : State} {locs : List Loc} {cells slots : Nat} {F : JFrame} (v : Option Value), Stand p l e rm s m as' below meth c T locs cells slots → (ret = none → v = none) →
    (∀ fs, (∀ (f : JFrame) (acts : List Action), f.method = m → f.locked = none → f.entered = [] → (doReturn e (T.setTop f) acts v).1 = T.setFrames fs) → Steps p.tables e below (T.setTop F) (T.setFrames fs)) →
    Q v T.heap locs → cells ≤ rm.cells → slots ≤ rm.slots → Wlk p.tables e below (T.setTop F) K
theorem Ctr.make {l : Launch} {Z : State} {h0 : Heap} {y : MethodName} {bytes : ByteArray} {maxL : Nat} {ret : Option FieldType} {ws : List Jvm.Cond} {rm : Room} {as' : Array Value} {Q : Option Value → Heap → List Loc → Prop} (hpn : plainFor y = true)
    (H : ∀ (p : Program) (e : Env) (s : State) (m : MethodId) (below : List Frame) (meth : Method) (c : Code) (s₁ : State) (K : State → Outcome → Prop), meth.sig.returnType = ret → c.maxLocals = maxL → p.tables.exec = Jvm.exec → c.code = bytes → s.vm.findClass y.cls = some m.cls → meth.name = y.name → Z.Warmed39 s.vm →
      Stand p l e rm s m as' below meth c s₁ [] 0 0 → s₁.heap = h0 → Fin p l e rm s m as' below meth c ret Q K → Wlk p.tables e below (s₁.setTop (entryFrame m as' maxL)) K) : Ctr l Z h0 y bytes maxL ret ws rm as' Q := by
  refine MetFree.of_bodySF hpn hisR ?_
  intro p e s m args below meth c s₁ Bd hml hP hK
  obtain ⟨rfl, hZ, hh⟩ := hP
  refine H p e s m below meth c s₁ (fun s₂ o => s₂.status = .running ∧ Ended s₂ below o ∧ ∃ v L, o = .returned v ∧ Q v s₂.heap L ∧ FrameEnd s o s₂ L rm.cells rm.slots) Bd.returns hml Bd.exec Bd.bytes (findClass_of_methodNamed Bd.named) (name_of_methodNamed Bd.named Bd.method).1 hZ (Stand.of_body Bd) (by rw [← hh, Bd.state]; rfl) ?_
  intro T locs cells slots F v X hv hst hq hc hs
  obtain ⟨fs, hr, hrun, hended, hW, hsame⟩ := X.leave (v := v) (fun h => hv (Bd.returns ▸ h)) Bd.notSynchronized
  exact ⟨_, _, hst fs hr, hrun, hended, v, locs, rfl, hq, ⟨_, rfl⟩, hW, hsame.mono hc hs⟩
section Calls
variable {p : Program} {l : Launch} {e : Env} {R : Room} {s : State} {m : MethodId} {args : Array Value} {below : List Frame} {meth : Method} {c : Code} {T : State} {locs : List Loc} {cells slots : Nat} {Z : State} {a0 : Array Value} {h : Heap}
variable {y z : MethodName} {bytes : ByteArray} {maxL : Nat} {ret : Option FieldType} {rm : Room} {as' : Array Value} {Q : Option Value → Heap → List Loc → Prop}
theorem Ctr.static (M : Ctr l Z h y bytes maxL ret [] rm as' Q) (X : Stand p l e R s m args below meth c T locs cells slots) (hx : p.tables.exec = Jvm.exec) (hZ : Z.Warmed39 s.vm) (eT : T.heap = h) {own : String} {index : Nat} (hown : s.vm.findClass own = some m.cls)
    (wl : (Jvm.Cond.methodLink own index y).before a0 Z = true) (wt : (Jvm.Cond.static y).before a0 Z = true) (wi : (Jvm.Cond.initialized y.cls).before a0 Z = true) (wc : (Jvm.Cond.code y bytes maxL ret).before a0 Z = true) (hy : y.cls ≠ "java/lang/invoke/MethodHandle" ∧ y.cls ≠ "java/lang/invoke/VarHandle")
    {ps : List FieldType} {rt : Option FieldType} (hpd : parseMethodDescriptor y.desc = some ⟨ps, rt⟩) {g : JFrame} (hg : g.method = m) (hsize : g.locals.size = c.maxLocals) {argsL rest : List Value} (ha : argsL.toArray = as') (hlen : argsL.length = ps.length) (hstack : g.stack = argsL.reverse ++ rest)
    {W : Nat} (hW : 2 * g.monitorRoom + (rest.map fun v => v.category).sum ≤ W) (hf : rm.frames + 1 ≤ R.frames) (hl : W + (maxL + 11) + rm.locals ≤ R.locals) (hd : decode c.code g.pc = .ok (.invokestatic index, 3)) (hc : cells + rm.cells ≤ R.cells) (hs : slots + rm.slots ≤ R.slots) :
    ∃ (v : Option Value) (T' : State) (L : List Loc), Stand p l e R s m args below meth c T' (locs ++ L) (cells + rm.cells) (slots + rm.slots) ∧ Q v T'.heap L ∧ ∀ target, Steps p.tables e below (T'.setTop { g with pc := g.pc + 3, stack := v.toList ++ rest }) target → Steps p.tables e below (T.setTop g) target := by
  obtain ⟨v, _, ⟨T', L, k, n⟩, -, X', ⟨Lc, hQ, l1, y1, z1⟩, st⟩ := Jvm.LawKit.callS X hx hown (mvT hZ wl) (mvT hZ wt) (mvT hZ wi) (mvT hZ wc) hy (backOf (W := W) M hZ wc wi hf hl) hg hsize (argsL := argsL) (rest := rest) (lenOf hpd hlen) hstack hW hd (fun _ _ => ⟨ha, eT, hc, hs⟩)
  dsimp only [Pt.U, Pt.locs, Pt.cells, Pt.slots] at X' l1 y1 z1 st hQ
  subst l1 y1 z1
  exact ⟨v, T', Lc, X', hQ, st⟩
theorem Ctr.special (M : Ctr l Z h y bytes maxL none [] rm as' Q) (X : Stand p l e R s m args below meth c T locs cells slots) (hx : p.tables.exec = Jvm.exec) (hZ : Z.Warmed39 s.vm) (eT : T.heap = h) {own : String} {index : Nat} (hown : s.vm.findClass own = some m.cls) (hy1 : y.name = "<init>")
    (wl : (Jvm.Cond.methodLink own index y).before a0 Z = true) (wt : (Jvm.Cond.instanceMethod y).before a0 Z = true) (wi : (Jvm.Cond.initialized y.cls).before a0 Z = true) (wc : (Jvm.Cond.code y bytes maxL none).before a0 Z = true) (hy : y.cls ≠ "java/lang/invoke/MethodHandle" ∧ y.cls ≠ "java/lang/invoke/VarHandle")
    {ps : List FieldType} {rt : Option FieldType} (hpd : parseMethodDescriptor y.desc = some ⟨ps, rt⟩) {g : JFrame} (hg : g.method = m) (hsize : g.locals.size = c.maxLocals) {a : Addr} {argsL rest : List Value} (ha : (.ref a :: argsL).toArray = as') (hlen : argsL.length = ps.length) (hstack : g.stack = argsL.reverse ++ .ref a :: rest)
    {W : Nat} (hW : 2 * g.monitorRoom + (rest.map fun v => v.category).sum ≤ W) (hf : rm.frames + 1 ≤ R.frames) (hl : W + (maxL + 11) + rm.locals ≤ R.locals) (hd : decode c.code g.pc = .ok (.invokespecial index, 3)) (hc : cells + rm.cells ≤ R.cells) (hs : slots + rm.slots ≤ R.slots) :
    ∃ (v : Option Value) (T' : State) (L : List Loc), Stand p l e R s m args below meth c T' (locs ++ L) (cells + rm.cells) (slots + rm.slots) ∧ Q v T'.heap L ∧ ∀ target, Steps p.tables e below (T'.setTop { g with pc := g.pc + 3, stack := v.toList ++ rest }) target → Steps p.tables e below (T.setTop g) target := by
  obtain ⟨v, _, ⟨T', L, k, n⟩, -, X', ⟨Lc, hQ, l1, y1, z1⟩, st⟩ := X.specialBack hx hy1 hown (mvT hZ wl) (mvT hZ wt) (mvT hZ wc) hy (backOf (W := W) M hZ wc wi hf hl) hg hsize (Steps.refl _) (a := a) (argsL := argsL) (rest := rest) (lenOf hpd hlen) hstack hW hd (fun _ _ => ⟨ha, eT, hc, hs⟩)
  dsimp only [Pt.U, Pt.locs, Pt.cells, Pt.slots] at X' l1 y1 z1 st hQ
  subst l1 y1 z1
  exact ⟨v, T', Lc, X', hQ, fun target k => st.trans k⟩
theorem Ctr.virtual (M : Ctr l Z h z bytes maxL ret [] rm as' Q) (X : Stand p l e R s m args below meth c T locs cells slots) (hx : p.tables.exec = Jvm.exec) (hZ : Z.Warmed39 s.vm) (eT : T.heap = h) {own C : String} {index : Nat} (hown : s.vm.findClass own = some m.cls)
    (wl : (Jvm.Cond.methodLink own index y).before a0 Z = true) (wd : (Jvm.Cond.declares y).before a0 Z = true) (hnf : NotFace s y) (wsel : (Jvm.Cond.selects C y z).before a0 Z = true) (wt : (Jvm.Cond.instanceMethod z).before a0 Z = true) (wi : (Jvm.Cond.initialized z.cls).before a0 Z = true) (wc : (Jvm.Cond.code z bytes maxL ret).before a0 Z = true) (hy : y.cls ≠ "java/lang/invoke/MethodHandle" ∧ y.cls ≠ "java/lang/invoke/VarHandle")
    {a : Addr} (E : Exa Z h a C) {ps : List FieldType} {rt : Option FieldType} (hpd : parseMethodDescriptor y.desc = some ⟨ps, rt⟩) {g : JFrame} (hg : g.method = m) (hsize : g.locals.size = c.maxLocals) {argsL rest : List Value} (ha : (.ref a :: argsL).toArray = as') (hlen : argsL.length = ps.length) (hstack : g.stack = argsL.reverse ++ .ref a :: rest)
    {W : Nat} (hW : 2 * g.monitorRoom + (rest.map fun v => v.category).sum ≤ W) (hf : rm.frames + 1 ≤ R.frames) (hl : W + (maxL + 11) + rm.locals ≤ R.locals) (hd : decode c.code g.pc = .ok (.invokevirtual index, 3)) (hc : cells + rm.cells ≤ R.cells) (hs : slots + rm.slots ≤ R.slots) :
    ∃ (v : Option Value) (T' : State) (L : List Loc), Stand p l e R s m args below meth c T' (locs ++ L) (cells + rm.cells) (slots + rm.slots) ∧ Q v T'.heap L ∧ ∀ target, Steps p.tables e below (T'.setTop { g with pc := g.pc + 3, stack := v.toList ++ rest }) target → Steps p.tables e below (T.setTop g) target := by
  obtain ⟨cq, kq, qa, qb, qc⟩ := isOf hZ eT E
  obtain ⟨v, _, ⟨T', L, k, n⟩, -, X', ⟨Lc, hQ, l1, y1, z1⟩, st⟩ := X.virtualBack hx hown (mvT hZ wl) (mvT hZ wd) hnf (mvT hZ wsel) (mvT hZ wt) hy (backOf (W := W) M hZ wc wi hf hl) qa qc hg hsize (Steps.refl _) (argsL := argsL) (rest := rest) (lenOf hpd hlen) hstack hW hd (fun _ _ => ⟨ha, eT, hc, hs⟩)
  dsimp only [Pt.U, Pt.locs, Pt.cells, Pt.slots] at X' l1 y1 z1 st hQ
  subst l1 y1 z1
  exact ⟨v, T', Lc, X', hQ, fun target k => st.trans k⟩
theorem Ctr.priv (M : Ctr l Z h y bytes maxL ret [] rm as' Q) (X : Stand p l e R s m args below meth c T locs cells slots) (hx : p.tables.exec = Jvm.exec) (hZ : Z.Warmed39 s.vm) (eT : T.heap = h) {own : String} {index n : Nat} (hown : s.vm.findClass own = some m.cls)
    (wl : (Jvm.Cond.methodLink own index y).before a0 Z = true) (wt : (Jvm.Cond.instanceMethod y).before a0 Z = true) (wp : (Jvm.Cond.privateMethod y).before a0 Z = true) (win : (Jvm.Cond.instantiable y.cls n).before a0 Z = true) (wi : (Jvm.Cond.initialized y.cls).before a0 Z = true) (wc : (Jvm.Cond.code y bytes maxL ret).before a0 Z = true) (hy : y.cls ≠ "java/lang/invoke/MethodHandle" ∧ y.cls ≠ "java/lang/invoke/VarHandle")
    {C : String} {a : Addr} (E : Exa Z h a C) {ps : List FieldType} {rt : Option FieldType} (hpd : parseMethodDescriptor y.desc = some ⟨ps, rt⟩) {g : JFrame} (hg : g.method = m) (hsize : g.locals.size = c.maxLocals) {argsL rest : List Value} (ha : (.ref a :: argsL).toArray = as') (hlen : argsL.length = ps.length) (hstack : g.stack = argsL.reverse ++ .ref a :: rest)
    {W : Nat} (hW : 2 * g.monitorRoom + (rest.map fun v => v.category).sum ≤ W) (hf : rm.frames + 1 ≤ R.frames) (hl : W + (maxL + 11) + rm.locals ≤ R.locals) (hd : decode c.code g.pc = .ok (.invokevirtual index, 3)) (hc : cells + rm.cells ≤ R.cells) (hs : slots + rm.slots ≤ R.slots) :
    ∃ (v : Option Value) (T' : State) (L : List Loc), Stand p l e R s m args below meth c T' (locs ++ L) (cells + rm.cells) (slots + rm.slots) ∧ Q v T'.heap L ∧ ∀ target, Steps p.tables e below (T'.setTop { g with pc := g.pc + 3, stack := v.toList ++ rest }) target → Steps p.tables e below (T.setTop g) target := by
  obtain ⟨cq, q, q'⟩ := E.cell
  obtain ⟨ck, k, i1, i2, i3, i4, -⟩ := Cond.instantiable_spec (mvT (args := args) hZ win)
  have hni : k.isInterface = false := by cases hk : k.isInterface <;> simp [hk] at i4 ⊢
  have hpr := Cond.privateMethod_at (mvP (args := args) hZ wp)
  obtain ⟨v, _, ⟨T', L, k, n⟩, -, X', ⟨Lc, hQ, l1, y1, z1⟩, st⟩ := X.privateBack hx hown (mvT hZ wl) (mvT hZ wt) (selects_self_of_private i1 i2 hni hpr (mvT hZ wt) hy) hpr (mvT hZ wc) hy (backOf (W := W) M hZ wc wi hf hl) hg hsize (Steps.refl _) (a := a) (by rw [eT]; exact q) q' (argsL := argsL) (rest := rest) (lenOf hpd hlen) hstack hW hd (fun _ _ => ⟨ha, eT, hc, hs⟩)
  dsimp only [Pt.U, Pt.locs, Pt.cells, Pt.slots] at X' l1 y1 z1 st hQ
  subst l1 y1 z1
  exact ⟨v, T', Lc, X', hQ, fun target k => st.trans k⟩
/-- a static call that a payer of the library answers, and that leaves all as it was -/
theorem paidS (X : Stand p l e R s m args below meth c T locs cells slots) (hx : p.tables.exec = Jvm.exec) (hZ : Z.Warmed39 s.vm) (eT : T.heap = h) {own : String} {index : Nat} (hown : s.vm.findClass own = some m.cls)
    (wl : (Jvm.Cond.methodLink own index y).before a0 Z = true) (wt : (Jvm.Cond.static y).before a0 Z = true) (wi : (Jvm.Cond.initialized y.cls).before a0 Z = true) (wc : (Jvm.Cond.code y bytes maxL ret).before a0 Z = true) (hy : y.cls ≠ "java/lang/invoke/MethodHandle" ∧ y.cls ≠ "java/lang/invoke/VarHandle")
    {W : Nat} {Pre : Pt → Array Value → Prop} {Post : Pt → Array Value → Option Value → Pt → Prop} (hK : Back l R p e below s args y 3 W Pre Post)
    {ps : List FieldType} {rt : Option FieldType} (hpd : parseMethodDescriptor y.desc = some ⟨ps, rt⟩) {g : JFrame} (hg : g.method = m) (hsize : g.locals.size = c.maxLocals) {argsL rest : List Value} (hlen : argsL.length = ps.length) (hstack : g.stack = argsL.reverse ++ rest)
    (hW : 2 * g.monitorRoom + (rest.map fun v => v.category).sum ≤ W) (hd : decode c.code g.pc = .ok (.invokestatic index, 3)) (hpre : ∀ U : State, U.heap = h → Pre ⟨U, locs, cells, slots⟩ argsL.toArray) {val : Value} (hpost : ∀ A v B, Post A argsL.toArray v B → v = some val ∧ pureAt A B) :
    ∃ T', Stand p l e R s m args below meth c T' locs cells slots ∧ T'.heap = h ∧ ∀ target, Steps p.tables e below (T'.setTop { g with pc := g.pc + 3, stack := val :: rest }) target → Steps p.tables e below (T.setTop g) target := by
  obtain ⟨v, vm1, ⟨T', L, k, n⟩, -, X', hP, st⟩ := Jvm.LawKit.callS X hx hown (mvT hZ wl) (mvT hZ wt) (mvT hZ wi) (mvT hZ wc) hy hK hg hsize (argsL := argsL) (rest := rest) (lenOf hpd hlen) hstack hW hd (fun vm1 _ => hpre _ eT)
  obtain ⟨rfl, q1, q2, q3, q4⟩ := hpost _ _ _ hP
  dsimp only [Pt.U, Pt.locs, Pt.cells, Pt.slots] at X' q1 q2 q3 q4 st
  subst q2 q3 q4
  exact ⟨T', X', by rw [q1]; exact eT, st⟩
end Calls
/-! ## an array by the list of what it holds -/
def Arl (Z : State) (h : Heap) (a : Addr) (ty : FieldType) (vs : List Value) : Prop := ∃ c : Cell, Arr Z h a c ty ∧ c.slots.toList = vs ∧ vs.length < 2 ^ 31
section Arls
variable {p : Program} {l : Launch} {e : Env} {R : Room} {s : State} {m : MethodId} {args : Array Value} {below : List Frame} {meth : Method} {c : Code} {T : State} {locs : List Loc} {cells slots : Nat} {Z : State} {a0 : Array Value} {h h' h0 : Heap}
variable {a b : Addr} {ty : FieldType} {vs : List Value} {v : Value} {sl : Nat} {ws : List Addr}
theorem Arl.lt (F : Arl Z h a ty vs) : a < h.size := by obtain ⟨c, A, -⟩ := F; exact A.lt
theorem Arl.ext (F : Arl Z h a ty vs) (E : Ext h h') : Arl Z h' a ty vs := by obtain ⟨c, A, r⟩ := F; exact ⟨c, A.ext E, r⟩
theorem Arl.other (F : Arl Z h b ty vs) (W : Wr h h' a sl v) (q : b ≠ a) : Arl Z h' b ty vs := by obtain ⟨c, A, r⟩ := F; exact ⟨c, A.other W q, r⟩
theorem Arl.keep (F : Arl Z h a ty vs) (K : Keep h h' ws) (q : a ∉ ws) : Arl Z h' a ty vs := by obtain ⟨c, A, r⟩ := F; exact ⟨c, ⟨K.2.1 a c A.1 q, A.2⟩, r⟩
theorem Arl.wr (F : Arl Z h a ty vs) (W : Wr h h' a sl v) : Arl Z h' a ty (vs.set sl v) := by
  obtain ⟨c, A, e, q⟩ := F
  exact ⟨c.setSlot sl v, A.same W, by rw [← e]; simp [Cell.setSlot], by simpa using q⟩
theorem Arl.inb {c : Cell} {j : Int32} {i : Nat} (e : c.slots.toList = vs) (hj : j.toNatClampNeg = i) (h0 : ¬ j < 0) (hi : i < vs.length) : ¬ (j < 0 ∨ c.slots.size ≤ j.toNatClampNeg) := by
  subst hj e
  rintro (q | q)
  · exact h0 q
  · simp at hi; omega
theorem Arl.at {c : Cell} {j : Int32} {i : Nat} (e : c.slots.toList = vs) (hj : j.toNatClampNeg = i) (hv : vs[i]? = some v) : c.slots[j.toNatClampNeg]? = some v := by
  subst hj e; simpa using hv
theorem some_lt {i : Nat} (hv : vs[i]? = some v) : i < vs.length := (List.getElem?_eq_some_iff.mp hv).1
theorem newL (X : Stand p l e R s m args below meth c T locs cells slots) (hx : p.tables.exec = Jvm.exec) (hZ : Z.Warmed39 s.vm) {aty : ArrayType} (w : (Jvm.Cond.arrayClass (newarray.typeOf aty)).before a0 Z = true) (eT : T.heap = h) {g : JFrame} (hg : g.method = m) (hd : decode c.code g.pc = .ok (.newarray aty, 2)) {n : Int32} {rest : List Value} (hs : g.stack = .int n :: rest)
    (hn : ¬ n < 0) {cap : Nat} (hcap : n.toNatClampNeg = cap) (hb : cap * 8 ≤ 536870912) (hc : cells + 1 ≤ R.cells) (hl : slots + cap ≤ R.slots) :
    ∃ T' h', Stand p l e R s m args below meth c T' locs (cells + 1) (slots + cap) ∧ T'.heap = h' ∧ Ext h h' ∧ Arl Z h' h.size (newarray.typeOf aty) (List.replicate cap (defaultValue (newarray.typeOf aty))) ∧
      ∀ target, Steps p.tables e below (T'.setTop { g with pc := g.pc + 2, stack := .ref h.size :: rest }) target → Steps p.tables e below (T.setTop g) target := by
  obtain ⟨T', h', cA, X', e', E, A, st⟩ := newP X hx hZ w eT hg hd hs hn (cap := cap) (Nat.le_of_eq hcap) hb hc hl
  refine ⟨T', h', X', e', E, ⟨_, A, by simp [newA, hcap], ?_⟩, st⟩
  have := (back32 hn).2
  rw [List.length_replicate]; omega
theorem lenL (X : Stand p l e R s m args below meth c T locs cells slots) (hx : p.tables.exec = Jvm.exec) (hZ : Z.Warmed39 s.vm) (eT : T.heap = h) (F : Arl Z h a ty vs) {n : Int32} (hn : vs.length.toInt32 = n) {g : JFrame} (hg : g.method = m) {rest : List Value} (hs : g.stack = .ref a :: rest) (hd : decode c.code g.pc = .ok (.arraylength, 1)) (target : State)
    (k : Steps p.tables e below (T.setTop { g with pc := g.pc + 1, stack := .int n :: rest }) target) : Steps p.tables e below (T.setTop g) target := by
  obtain ⟨cl, A, e1, q⟩ := F
  have q2 : cl.slots.size.toInt32 = n := by rw [← hn, ← e1]; simp
  exact X.arraylength hx (by rw [eT]; exact A.1) (State.isArrayOf_alike hZ.alike A.2.1) hg hs hd target (by rw [q2]; exact k)
theorem ldD (X : Stand p l e R s m args below meth c T locs cells slots) (hx : p.tables.exec = Jvm.exec) (hZ : Z.Warmed39 s.vm) (eT : T.heap = h) (F : Arl Z h a .double vs) {j : Int32} {i : Nat} (hj : j.toNatClampNeg = i) (h0 : ¬ j < 0) (hv : vs[i]? = some v) {g : JFrame} (hg : g.method = m) {rest : List Value} (hs : g.stack = .int j :: .ref a :: rest) (hd : decode c.code g.pc = .ok (.daload, 1)) (target : State)
    (k : Steps p.tables e below (T.setTop { g with pc := g.pc + 1, stack := v :: rest }) target) : Steps p.tables e below (T.setTop g) target := by
  obtain ⟨cl, A, e1, q⟩ := F
  exact X.daload hx (by rw [eT]; exact A.1) (State.isArrayOf_alike hZ.alike A.2.1) A.2.2 (Arl.inb e1 hj h0 (some_lt hv)) (Arl.at e1 hj hv) hg hs hd target k
theorem ldI (X : Stand p l e R s m args below meth c T locs cells slots) (hx : p.tables.exec = Jvm.exec) (hZ : Z.Warmed39 s.vm) (eT : T.heap = h) (F : Arl Z h a .int vs) {j : Int32} {i : Nat} (hj : j.toNatClampNeg = i) (h0 : ¬ j < 0) (hv : vs[i]? = some v) {g : JFrame} (hg : g.method = m) {rest : List Value} (hs : g.stack = .int j :: .ref a :: rest) (hd : decode c.code g.pc = .ok (.iaload, 1)) (target : State)
    (k : Steps p.tables e below (T.setTop { g with pc := g.pc + 1, stack := v :: rest }) target) : Steps p.tables e below (T.setTop g) target := by
  obtain ⟨cl, A, e1, q⟩ := F
  exact X.iaload hx (by rw [eT]; exact A.1) (State.isArrayOf_alike hZ.alike A.2.1) A.2.2 (Arl.inb e1 hj h0 (some_lt hv)) (Arl.at e1 hj hv) hg hs hd target k
theorem ldJ (X : Stand p l e R s m args below meth c T locs cells slots) (hx : p.tables.exec = Jvm.exec) (hZ : Z.Warmed39 s.vm) (eT : T.heap = h) (F : Arl Z h a .long vs) {j : Int32} {i : Nat} (hj : j.toNatClampNeg = i) (h0 : ¬ j < 0) (hv : vs[i]? = some v) {g : JFrame} (hg : g.method = m) {rest : List Value} (hs : g.stack = .int j :: .ref a :: rest) (hd : decode c.code g.pc = .ok (.laload, 1)) (target : State)
    (k : Steps p.tables e below (T.setTop { g with pc := g.pc + 1, stack := v :: rest }) target) : Steps p.tables e below (T.setTop g) target := by
  obtain ⟨cl, A, e1, q⟩ := F
  exact X.laload hx (by rw [eT]; exact A.1) (State.isArrayOf_alike hZ.alike A.2.1) A.2.2 (Arl.inb e1 hj h0 (some_lt hv)) (Arl.at e1 hj hv) hg hs hd target k
theorem ldZ (X : Stand p l e R s m args below meth c T locs cells slots) (hx : p.tables.exec = Jvm.exec) (hZ : Z.Warmed39 s.vm) (eT : T.heap = h) (F : Arl Z h a .boolean vs) {j : Int32} {i : Nat} (hj : j.toNatClampNeg = i) (h0 : ¬ j < 0) (hv : vs[i]? = some v) {g : JFrame} (hg : g.method = m) {rest : List Value} (hs : g.stack = .int j :: .ref a :: rest) (hd : decode c.code g.pc = .ok (.baload, 1)) (target : State)
    (k : Steps p.tables e below (T.setTop { g with pc := g.pc + 1, stack := v :: rest }) target) : Steps p.tables e below (T.setTop g) target := by
  obtain ⟨cl, A, e1, q⟩ := F
  exact X.baloadBooleans hx (by rw [eT]; exact A.1) (State.isArrayOf_alike hZ.alike A.2.1) A.2.2 (Arl.inb e1 hj h0 (some_lt hv)) (Arl.at e1 hj hv) hg hs hd target k
theorem ldR (X : Stand p l e R s m args below meth c T locs cells slots) (hx : p.tables.exec = Jvm.exec) (hZ : Z.Warmed39 s.vm) (eT : T.heap = h) (F : Arl Z h a ty vs) (hty : ty.isReference = true) {j : Int32} {i : Nat} (hj : j.toNatClampNeg = i) (h0 : ¬ j < 0) (hv : vs[i]? = some v) {g : JFrame} (hg : g.method = m) {rest : List Value} (hs : g.stack = .int j :: .ref a :: rest) (hd : decode c.code g.pc = .ok (.aaload, 1)) (target : State)
    (k : Steps p.tables e below (T.setTop { g with pc := g.pc + 1, stack := v :: rest }) target) : Steps p.tables e below (T.setTop g) target := by
  obtain ⟨cl, A, e1, q⟩ := F
  exact X.aaload hx (by rw [eT]; exact A.1) (State.isArrayOf_alike hZ.alike A.2.1) hty A.2.2 (Arl.inb e1 hj h0 (some_lt hv)) (Arl.at e1 hj hv) hg hs hd target k
theorem stDl (X : Stand p l e R s m args below meth c T locs cells slots) (hx : p.tables.exec = Jvm.exec) (hZ : Z.Warmed39 s.vm) (eT : T.heap = h) (F : Arl Z h a .double vs) {j : Int32} {i : Nat} {x : UInt64} (hj : j.toNatClampNeg = i) (h0 : ¬ j < 0) (hi : i < vs.length) {g : JFrame} (hg : g.method = m) {rest : List Value} (hs : g.stack = .double x :: .int j :: .ref a :: rest) (hd : decode c.code g.pc = .ok (.dastore, 1)) :
    ∃ T' h', Stand p l e R s m args below meth c T' (locs ++ [⟨a, i⟩]) cells slots ∧ T'.heap = h' ∧ Wr h h' a i (.double x) ∧ Arl Z h' a .double (vs.set i (.double x)) ∧ ∀ target, Steps p.tables e below (T'.setTop { g with pc := g.pc + 1, stack := rest }) target → Steps p.tables e below (T.setTop g) target := by
  have F0 := F
  obtain ⟨cl, A, e1, q⟩ := F
  obtain ⟨T', h', X', e', W, st⟩ := stD X hx hZ eT A (Arl.inb e1 hj h0 hi) hg hs hd
  subst hj
  exact ⟨T', h', X', e', W, F0.wr W, st⟩
theorem stIl (X : Stand p l e R s m args below meth c T locs cells slots) (hx : p.tables.exec = Jvm.exec) (hZ : Z.Warmed39 s.vm) (eT : T.heap = h) (F : Arl Z h a .int vs) {j : Int32} {i : Nat} {x : Int32} (hj : j.toNatClampNeg = i) (h0 : ¬ j < 0) (hi : i < vs.length) {g : JFrame} (hg : g.method = m) {rest : List Value} (hs : g.stack = .int x :: .int j :: .ref a :: rest) (hd : decode c.code g.pc = .ok (.iastore, 1)) :
    ∃ T' h', Stand p l e R s m args below meth c T' (locs ++ [⟨a, i⟩]) cells slots ∧ T'.heap = h' ∧ Wr h h' a i (.int x) ∧ Arl Z h' a .int (vs.set i (.int x)) ∧ ∀ target, Steps p.tables e below (T'.setTop { g with pc := g.pc + 1, stack := rest }) target → Steps p.tables e below (T.setTop g) target := by
  have F0 := F
  obtain ⟨cl, A, e1, q⟩ := F
  obtain ⟨T', h', X', e', W, st⟩ := stI X hx hZ eT A (Arl.inb e1 hj h0 hi) hg hs hd
  subst hj
  exact ⟨T', h', X', e', W, F0.wr W, st⟩
theorem stJl (X : Stand p l e R s m args below meth c T locs cells slots) (hx : p.tables.exec = Jvm.exec) (hZ : Z.Warmed39 s.vm) (eT : T.heap = h) (F : Arl Z h a .long vs) {j : Int32} {i : Nat} {x : Int64} (hj : j.toNatClampNeg = i) (h0 : ¬ j < 0) (hi : i < vs.length) {g : JFrame} (hg : g.method = m) {rest : List Value} (hs : g.stack = .long x :: .int j :: .ref a :: rest) (hd : decode c.code g.pc = .ok (.lastore, 1)) :
    ∃ T' h', Stand p l e R s m args below meth c T' (locs ++ [⟨a, i⟩]) cells slots ∧ T'.heap = h' ∧ Wr h h' a i (.long x) ∧ Arl Z h' a .long (vs.set i (.long x)) ∧ ∀ target, Steps p.tables e below (T'.setTop { g with pc := g.pc + 1, stack := rest }) target → Steps p.tables e below (T.setTop g) target := by
  have F0 := F
  obtain ⟨cl, A, e1, q⟩ := F
  obtain ⟨T', h', X', e', W, st⟩ := stJ X hx hZ eT A (Arl.inb e1 hj h0 hi) hg hs hd
  subst hj
  exact ⟨T', h', X', e', W, F0.wr W, st⟩
theorem stZl (X : Stand p l e R s m args below meth c T locs cells slots) (hx : p.tables.exec = Jvm.exec) (hZ : Z.Warmed39 s.vm) (eT : T.heap = h) (F : Arl Z h a .boolean vs) {j : Int32} {i : Nat} {x : Int32} (hn : nar .boolean x = x) (hj : j.toNatClampNeg = i) (h0 : ¬ j < 0) (hi : i < vs.length) {g : JFrame} (hg : g.method = m) {rest : List Value} (hs : g.stack = .int x :: .int j :: .ref a :: rest) (hd : decode c.code g.pc = .ok (.bastore, 1)) :
    ∃ T' h', Stand p l e R s m args below meth c T' (locs ++ [⟨a, i⟩]) cells slots ∧ T'.heap = h' ∧ Wr h h' a i (.int x) ∧ Arl Z h' a .boolean (vs.set i (.int x)) ∧ ∀ target, Steps p.tables e below (T'.setTop { g with pc := g.pc + 1, stack := rest }) target → Steps p.tables e below (T.setTop g) target := by
  have F0 := F
  obtain ⟨cl, A, e1, q⟩ := F
  obtain ⟨T', h', X', e', W, st⟩ := stZ X hx hZ eT A (Arl.inb e1 hj h0 hi) hg hs hd
  rw [hn] at W
  subst hj
  exact ⟨T', h', X', e', W, F0.wr W, st⟩
theorem Arv.arl {k : ClassId} {n : Int32} {d : Value} (F : Arv Z h a k ty n vs d) (hl : vs.length = n.toNatClampNeg) : Arl Z h a ty vs := by
  obtain ⟨c, A, -, S, q, H, -⟩ := F
  refine ⟨c, A, ?_, by rw [hl]; exact (back32 q).2⟩
  refine List.ext_getElem? fun i => ?_
  rw [Array.getElem?_toList]
  by_cases hi : i < c.slots.size
  · rw [H i hi, List.getD_eq_getElem?_getD, List.getElem?_eq_getElem (by omega)]; simp
  · rw [Array.getElem?_eq_none (by omega), List.getElem?_eq_none (by omega)]
theorem gridL (X : Stand p l e R s m args below meth c T locs cells slots) (hx : p.tables.exec = Jvm.exec) (hZ : Z.Warmed39 s.vm) {own C ad : String} {index : Nat} (hown : s.vm.findClass own = some m.cls) (hC : (FieldType.array ty).toString = C) (had : "[" ++ C = ad)
    (w1 : (Jvm.Cond.classLink own index ad).before a0 Z = true) (w2 : (Jvm.Cond.arrayOver (.array ty)).before a0 Z = true) (w3 : (Jvm.Cond.arrayClass ty).before a0 Z = true) (eT : T.heap = h) {g : JFrame} (hg : g.method = m) (hd : decode c.code g.pc = .ok (.multianewarray index 2, 4)) {n k : Int32} {rest : List Value} (hs : g.stack = .int k :: .int n :: rest)
    (hn : ¬ n < 0) (hk : ¬ k < 0) {N cap : Nat} (hN : n.toNatClampNeg = N) (hcap : k.toNatClampNeg = cap) (hb : cap * 8 ≤ 536870912) (hb1 : N ≤ 1000) (hdf : fits ty (defaultValue ty) = true) (hdd : (defaultValue ty).isDefault = true) (hc : cells + (1 + N) ≤ R.cells) (hl : slots + (N + N * cap) ≤ R.slots) :
    ∃ (T' : State) (h' : Heap), Stand p l e R s m args below meth c T' locs (cells + (1 + N)) (slots + (N + N * cap)) ∧ T'.heap = h' ∧ Ext h h' ∧ Arl Z h' h.size (.array ty) ((List.range N).map fun j => .ref (h.size + 1 + j)) ∧
      (∀ j, j < N → Arl Z h' (h.size + 1 + j) ty (List.replicate cap (defaultValue ty))) ∧
      ∀ target, Steps p.tables e below (T'.setTop { g with pc := g.pc + 4, stack := .ref h.size :: rest }) target → Steps p.tables e below (T.setTop g) target := by
  obtain ⟨T', h', cA, comp, X', e', E, A, -, -, I, st⟩ := gridM X hx hZ hown hC had w1 w2 w3 eT hg hd hs hn hk hN rfl (Nat.le_of_eq hcap) hb hb1 hdf hdd hc hl
  refine ⟨T', h', X', e', E, ?_, fun j hj => ?_, st⟩
  · have := Arv.arl A (by simp [hN])
    rw [List.map_map] at this
    exact this
  · obtain ⟨AI, -⟩ := I j (h.size + 1 + j) (by simp [hj])
    refine ⟨_, AI, by simp [newA, hcap], ?_⟩
    have := (back32 hk).2
    rw [List.length_replicate]; omega
end Arls
end Jvm.OwnKit
namespace Jvm.OwnKit
open Jvm.FP Jvm.FP.Core
/-! ## dyadic doubles: a is the number i / 2^k -/
def shf (k : Int) : Datum → Datum
  | .nan => .nan
  | .inf s => .inf s
  | .fin s c q => .fin s c (q + k)
def Dy (i : Int) (k : Int) (a : UInt64) : Prop := Whole i (shf k (val64 a))
theorem shf_zero (d : Datum) : shf 0 d = d := by cases d <;> simp [shf]
theorem shf_shf (j k : Int) (d : Datum) : shf j (shf k d) = shf (k + j) d := by cases d <;> simp [shf]; omega
theorem shf_neg (k : Int) (x : Datum) : shf k (negate x) = negate (shf k x) := by cases x <;> rfl
theorem inU_shf (c : Nat) (q e k : Int) : inUnits c (q + k) (e + k) = inUnits c q e := by
  unfold inUnits; rw [show q + k - (e + k) = q - e by omega]
theorem shf_sum (k : Int) (x y : Datum) : shf k (exactSum x y) = exactSum (shf k x) (shf k y) := by
  cases x <;> cases y
  case fin.fin s c q t d r =>
    have hm : min (q + k) (r + k) = min q r + k := by omega
    simp only [shf, exactSum, hm, sumUnits, inU_shf]
  case inf.inf s t => by_cases h : s = t <;> simp [shf, exactSum, h]
  all_goals rfl
theorem shf_prod (k j : Int) (x y : Datum) : shf (k + j) (exactProduct x y) = exactProduct (shf k x) (shf j y) := by
  cases x <;> cases y
  case fin.fin s c q t d r => simp only [shf, exactProduct]; congr 1; omega
  case inf.fin s t d r => by_cases h : d = 0 <;> simp [shf, exactProduct, h]
  case fin.inf s c q t => by_cases h : c = 0 <;> simp [shf, exactProduct, h]
  all_goals rfl
theorem shf_order (k : Int) (x y : Datum) : order (shf k x) (shf k y) = order x y := by
  cases x <;> cases y
  case fin.fin s c q t d r =>
    have hm : min (q + k) (r + k) = min q r + k := by omega
    simp only [shf, order, hm, inU_shf]
  all_goals rfl
/-- a number of at most 53 digits at a middling exponent is rounded to itself -/
theorem whole_exact {s : Bool} {n : Nat} {k : Int} (hn : n < 2 ^ 53) (h1 : -900 ≤ k) (h2 : k ≤ 1000) : Whole (signed s n) (shf k (round b64 (.fin s n (-k)))) := by
  have q1 : b64.qmin = -1074 := by decide
  have q2 : b64.qmax = 971 := by decide
  obtain ⟨c', q', e1, e2⟩ := round_exact good_b64 s (c := n) (q := -k) (by exact hn) (by omega) (by omega)
  have hf := round_fits good_b64 (.fin s n (-k))
  rw [e1] at hf
  have g1 := hf.2.1
  rw [e1]
  show signed s (c' * 2 ^ (q' + k).toNat) = signed s n * ((2 ^ (-(q' + k)).toNat : Nat) : Int)
  rw [← signed_mul]
  congr 1
  unfold inUnits at e2
  rw [q1] at e2 g1
  refine Nat.eq_of_mul_eq_mul_right (Nat.two_pow_pos ((-k - -1074).toNat)) ?_
  refine Nat.eq_of_mul_eq_mul_right (Nat.two_pow_pos ((q' - -1074).toNat)) ?_
  have hx : (q' + k).toNat + (-k - -1074).toNat = (-(q' + k)).toNat + (q' - -1074).toNat := by omega
  calc c' * 2 ^ (q' + k).toNat * 2 ^ (-k - -1074).toNat * 2 ^ (q' - -1074).toNat
      = (c' * 2 ^ (q' - -1074).toNat) * 2 ^ ((q' + k).toNat + (-k - -1074).toNat) := by rw [Nat.pow_add]; ac_rfl
    _ = (n * 2 ^ (-k - -1074).toNat) * 2 ^ ((-(q' + k)).toNat + (q' - -1074).toNat) := by rw [e2, hx]
    _ = n * 2 ^ (-(q' + k)).toNat * 2 ^ (-k - -1074).toNat * 2 ^ (q' - -1074).toNat := by rw [Nat.pow_add]; ac_rfl
theorem signed_abs {s : Bool} {i : Int} (h : i ≠ 0 → s = decide (i < 0)) : signed s i.natAbs = i := by
  by_cases hi : i = 0
  · subst hi; exact signed_zero s
  · rw [h hi]; unfold signed; by_cases q : i < 0 <;> simp [q] <;> omega
theorem dy_round {i k : Int} {d : Datum} (hi : i.natAbs < 2 ^ 53) (h1 : -900 ≤ k) (h2 : k ≤ 1000) (h : Whole i (shf k d)) : Whole i (shf k (round b64 d)) := by
  cases d with
  | nan => exact h.elim
  | inf => exact h.elim
  | fin s c q =>
    have hw : Whole i (.fin s c (q + k)) := h
    have ha := whole_natAbs hw
    have e : round b64 (.fin s c q) = round b64 (.fin s i.natAbs (-k)) := by
      refine roundRatio_congr (by decide) (by decide) ?_
      rw [show (q - -k).toNat = (q + k).toNat by omega, show (-k - q).toNat = (-(q + k)).toNat by omega]
      simpa using ha
    rw [e]
    have := whole_exact (s := s) (k := k) hi h1 h2
    rw [signed_abs (fun hn => whole_sign hw hn)] at this
    exact this
section Dys
variable {i j k k' : Int} {a b : UInt64}
theorem Dy.fin (h : Dy i k a) : ∃ s c q, val64 a = .fin s c q := by
  unfold Dy at h
  cases hv : val64 a with
  | nan => rw [hv] at h; exact h.elim
  | inf s => rw [hv] at h; exact h.elim
  | fin s c q => exact ⟨s, c, q, rfl⟩
theorem Dy.nn (h : Dy i k a) : Jvm.Free.Fl.NoNaN64 a := by
  obtain ⟨s, c, q, e⟩ := h.fin
  refine Jvm.Free.Fl.val64_no.mpr ?_
  rw [e]; nofun
theorem Dy.l2d {a : Int64} (h : a.toInt.natAbs < 2 ^ 53) : Dy a.toInt 0 (FP.l2d a) := by
  unfold Dy; rw [shf_zero]; exact l2d_int (Nat.le_of_lt h)
theorem Dy.i2d (a : Int32) : Dy a.toInt 0 (FP.i2d a) := by
  unfold Dy; rw [shf_zero]; exact i2d_int a
theorem Dy.add (ha : Dy i k a) (hb : Dy j k b) (h : (i + j).natAbs < 2 ^ 53) (h1 : -900 ≤ k) (h2 : k ≤ 1000) : Dy (i + j) k (FP.dadd a b) := by
  show Whole (i + j) (shf k (val64 (Core.dadd a b)))
  rw [val64_dadd]
  refine dy_round h h1 h2 ?_
  rw [shf_sum]; exact whole_sum ha hb
theorem Dy.sub (ha : Dy i k a) (hb : Dy j k b) (h : (i - j).natAbs < 2 ^ 53) (h1 : -900 ≤ k) (h2 : k ≤ 1000) : Dy (i - j) k (FP.dsub a b) := by
  show Whole (i - j) (shf k (val64 (Core.dsub a b)))
  rw [val64_dsub]
  refine dy_round h h1 h2 ?_
  rw [shf_sum, shf_neg]; exact whole_sum ha (whole_negate hb)
theorem Dy.mul (ha : Dy i k a) (hb : Dy j k' b) (h : (i * j).natAbs < 2 ^ 53) (h1 : -900 ≤ k + k') (h2 : k + k' ≤ 1000) : Dy (i * j) (k + k') (FP.dmul a b) := by
  show Whole (i * j) (shf (k + k') (val64 (Core.dmul a b)))
  rw [val64_dmul]
  refine dy_round h h1 h2 ?_
  rw [shf_prod]; exact whole_product ha hb
theorem Dy.cmp (ha : Dy i k a) (hb : Dy j k b) : FP.dcmp a b = some (compare i j) := by
  show order (val64 a) (val64 b) = _
  rw [← shf_order k]; exact order_whole ha hb
theorem Dy.up (ha : Dy i k a) (n : Nat) : Dy (i * ((2 ^ n : Nat) : Int)) (k + n) a := by
  obtain ⟨s, c, q, e⟩ := ha.fin
  unfold Dy at ha ⊢
  rw [e] at ha ⊢
  have h : signed s (c * 2 ^ (q + k).toNat) = i * ((2 ^ (-(q + k)).toNat : Nat) : Int) := ha
  show signed s (c * 2 ^ (q + (k + n)).toNat) = i * ((2 ^ n : Nat) : Int) * ((2 ^ (-(q + (k + n))).toNat : Nat) : Int)
  have p : ((2 ^ (-(q + k)).toNat : Nat) : Int) ≠ 0 := by have := Nat.two_pow_pos (-(q + k)).toNat; omega
  refine Int.eq_of_mul_eq_mul_right p ?_
  have hx : (q + (k + n)).toNat + (-(q + k)).toNat = (q + k).toNat + (n + (-(q + (k + n))).toNat) := by omega
  calc signed s (c * 2 ^ (q + (k + n)).toNat) * ((2 ^ (-(q + k)).toNat : Nat) : Int)
      = signed s (c * 2 ^ ((q + (k + n)).toNat + (-(q + k)).toNat)) := by rw [← signed_mul, Nat.pow_add, Nat.mul_assoc]
    _ = signed s (c * 2 ^ (q + k).toNat) * ((2 ^ (n + (-(q + (k + n))).toNat) : Nat) : Int) := by rw [hx, Nat.pow_add, ← Nat.mul_assoc, signed_mul]
    _ = i * ((2 ^ n : Nat) : Int) * ((2 ^ (-(q + (k + n))).toNat : Nat) : Int) * ((2 ^ (-(q + k)).toNat : Nat) : Int) := by rw [h, Nat.pow_add, Int.natCast_mul]; ac_rfl
/-- the quotient of two dyadic numbers, rounded -/
theorem Dy.quot (ha : Dy i k a) (hb : Dy j k' b) (hj : j ≠ 0) : ∃ s, (i ≠ 0 → s = (decide (i < 0) != decide (j < 0))) ∧ val64 (FP.ddiv a b) = roundRatio b64 s i.natAbs j.natAbs (k' - k) := by
  obtain ⟨s, c, q, e⟩ := ha.fin
  obtain ⟨t, d, r, e'⟩ := hb.fin
  unfold Dy at ha hb
  rw [e] at ha; rw [e'] at hb
  have wa : Whole i (.fin s c (q + k)) := ha
  have wb : Whole j (.fin t d (r + k')) := hb
  have hd : d ≠ 0 := fun h0 => hj ((whole_zero wb).mp h0)
  refine ⟨s != t, fun hi => by rw [whole_sign wa hi, whole_sign wb hj], ?_⟩
  show val64 (Core.ddiv a b) = _
  rw [val64_ddiv, e, e']
  simp only [quotient, if_neg hd]
  refine roundRatio_congr (by omega) (by omega) ?_
  have na := whole_natAbs wa
  have nb := whole_natAbs wb
  have p : 0 < 2 ^ (r + k').toNat * 2 ^ (-(q + k)).toNat := Nat.mul_pos (Nat.two_pow_pos _) (Nat.two_pow_pos _)
  refine Nat.eq_of_mul_eq_mul_right (Nat.mul_pos (Nat.two_pow_pos (q + k).toNat) (Nat.two_pow_pos (-(r + k')).toNat)) ?_
  have hx : (q - r - (k' - k)).toNat + (-(q + k)).toNat + (r + k').toNat = (k' - k - (q - r)).toNat + ((q + k).toNat + (-(r + k')).toNat) := by omega
  calc c * j.natAbs * 2 ^ (q - r - (k' - k)).toNat * (2 ^ (q + k).toNat * 2 ^ (-(r + k')).toNat)
      = (c * 2 ^ (q + k).toNat) * (j.natAbs * 2 ^ (-(r + k')).toNat) * 2 ^ (q - r - (k' - k)).toNat := by ac_rfl
    _ = (i.natAbs * 2 ^ (-(q + k)).toNat) * (d * 2 ^ (r + k').toNat) * 2 ^ (q - r - (k' - k)).toNat := by rw [na, nb]
    _ = i.natAbs * d * 2 ^ ((q - r - (k' - k)).toNat + (-(q + k)).toNat + (r + k').toNat) := by rw [Nat.pow_add, Nat.pow_add]; ac_rfl
    _ = i.natAbs * d * 2 ^ (k' - k - (q - r)).toNat * (2 ^ (q + k).toNat * 2 ^ (-(r + k')).toNat) := by rw [hx, Nat.pow_add, Nat.pow_add]; ac_rfl
theorem Dy.div (ha : Dy (i * j) k a) (hb : Dy j k' b) (hj : j ≠ 0) (h : i.natAbs < 2 ^ 53) (h1 : -900 ≤ k - k') (h2 : k - k' ≤ 1000) : Dy i (k - k') (FP.ddiv a b) := by
  obtain ⟨s, hs, e⟩ := ha.quot hb hj
  unfold Dy
  rw [e]
  have e2 : roundRatio b64 s (i * j).natAbs j.natAbs (k' - k) = round b64 (.fin s i.natAbs (-(k - k'))) := by
    refine roundRatio_congr (by omega) (by decide) ?_
    rw [show k' - k - -(k - k') = 0 by omega, show -(k - k') - (k' - k) = 0 by omega, Int.natAbs_mul]
    simp
  rw [e2]
  have := whole_exact (s := s) (n := i.natAbs) (k := k - k') h h1 h2
  rw [signed_abs (fun hn => ?_)] at this
  · exact this
  · rw [hs (Int.mul_ne_zero hn hj)]
    rcases Int.lt_or_gt_of_ne hn with p | p <;> rcases Int.lt_or_gt_of_ne hj with q | q
    · have := Int.mul_pos_of_neg_of_neg p q
      simp [p, q, show ¬ i * j < 0 by omega]
    · have := Int.mul_neg_of_neg_of_pos p q
      simp [p, this, show ¬ j < 0 by omega]
    · have := Int.mul_neg_of_pos_of_neg p q
      simp [q, this, show ¬ i < 0 by omega]
    · have := Int.mul_pos p q
      simp [show ¬ i * j < 0 by omega, show ¬ j < 0 by omega, show ¬ i < 0 by omega]
end Dys
end Jvm.OwnKit
namespace Jvm.OwnKit
open Jvm.FP Jvm.FP.Core
section More
variable {i j k k' : Int} {a b : UInt64}
theorem Dy.cast (ha : Dy i k a) (h1 : i = j) (h2 : k = k') : Dy j k' a := by subst h1 h2; exact ha
theorem Dy.divp (ha : Dy i k a) (n : Nat) (hb : Dy ((2 ^ n : Nat) : Int) 0 b) (h : i.natAbs < 2 ^ 53) (h1 : -900 ≤ k + n) (h2 : k + n ≤ 1000) : Dy i (k + n) (FP.ddiv a b) := by
  have p := Nat.two_pow_pos n
  have := Dy.div (k := k + n) (k' := 0) (ha.up n) hb (by omega) h (by omega) (by omega)
  exact this.cast rfl (by omega)
theorem Dy.lit {a : UInt64} {s : Bool} {c : Nat} {q : Int} (e : val64 a = .fin s c q) (h : signed s (c * 2 ^ (q + k).toNat) = i * ((2 ^ (-(q + k)).toNat : Nat) : Int)) : Dy i k a := by
  unfold Dy; rw [e]; exact h
/-- a quotient of middling numbers and its 2^n-th part -/
theorem round_part {s : Bool} {A B n : Nat} (hA : 0 < A) (hB : 0 < B) (lA : A < 2 ^ 100) (lB : B < 2 ^ 100) (hn : n ≤ 100) : ∃ c q, roundRatio b64 s A B 0 = .fin s c q ∧ roundRatio b64 s A B (-(n : Int)) = .fin s c (q - n) := by
  have q1 : b64.qmin = -1074 := by decide
  have q2 : b64.qmax = 971 := by decide
  have hp : (b64.p : Int) - 1 = 52 := by decide
  have a1 : A.log2 < 100 := (Nat.log2_lt (by omega)).mpr lA
  have b1 : B.log2 < 100 := (Nat.log2_lt (by omega)).mpr lB
  have hl : -101 ≤ leading A B ∧ leading A B ≤ 100 := by
    unfold leading; dsimp only; split <;> omega
  have e1 : quantum b64 A B 0 = leading A B - 52 := by unfold quantum; rw [q1, hp]; omega
  have e2 : quantum b64 A B (-(n : Int)) = leading A B - 52 - n := by unfold quantum; rw [q1, hp]; omega
  have z : ¬ A = 0 := by omega
  unfold roundRatio
  rw [if_neg z, if_neg z, e1, e2]
  generalize leading A B = L at hl
  have u1 : unitsNum A (-(n : Int)) (L - 52 - n) = unitsNum A 0 (L - 52) := by unfold unitsNum; congr 2; omega
  have u2 : unitsDen B (-(n : Int)) (L - 52 - n) = unitsDen B 0 (L - 52) := by unfold unitsDen; congr 2; omega
  unfold roundAt
  rw [u1, u2]
  generalize nearest _ _ = c
  unfold settle bound
  by_cases hc : c < 2 ^ b64.p
  · rw [if_pos hc, if_pos hc, if_pos (by omega), if_pos (by omega)]
    exact ⟨_, _, rfl, rfl⟩
  · rw [if_neg hc, if_neg hc, if_pos (by omega), if_pos (by omega)]
    exact ⟨_, _, rfl, by congr 1; omega⟩
/-- (x / y) / 2^n where x / y is rounded once: the same as the rounding of x / (y * 2^n) -/
theorem div_part {x y w : UInt64} {A B : Int} {n : Nat} {got : UInt64} (hx : Dy A 0 x) (hy : Dy B 0 y) (hw : Dy ((2 ^ n : Nat) : Int) 0 w) (hA : 0 < A) (hB : 0 < B) (lA : A < 2 ^ 100) (lB : B < 2 ^ 100) (hn : n ≤ 100)
    {s0 : Bool} (hs : s0 = false) (hg : val64 got = roundRatio b64 s0 A.natAbs B.natAbs (-(n : Int))) : got = FP.ddiv (FP.ddiv x y) w ∧ val64 (FP.ddiv x y) ≠ .nan ∧ val64 got ≠ .nan := by
  subst hs
  obtain ⟨s, h1, h2⟩ := hx.quot hy (by omega)
  have hs : s = false := by rw [h1 (by omega)]; simp [show ¬ A < 0 by omega, show ¬ B < 0 by omega]
  subst hs
  obtain ⟨c, q, e1, e2⟩ := round_part (s := false) (A := A.natAbs) (B := B.natAbs) (n := n) (by omega) (by omega) (by omega) (by omega) hn
  have hf : Core.fits b64 (.fin false c (q - n)) := by rw [← e2]; exact roundRatio_fits good_b64 _ _ (by omega) _
  rw [show (0 : Int) - 0 = 0 by omega, e1] at h2
  rw [e2] at hg
  obtain ⟨t, d, r, ew⟩ := hw.fin
  have ww : Whole ((2 ^ n : Nat) : Int) (.fin t d (r + 0)) := by unfold Dy at hw; rw [ew] at hw; exact hw
  have p := Nat.two_pow_pos n
  have pz : ((2 ^ n : Nat) : Int) ≠ 0 := Int.natCast_ne_zero.mpr (Nat.ne_of_gt p)
  have ht : t = false := by rw [whole_sign ww pz]; exact decide_eq_false (Int.not_lt.mpr (Int.natCast_nonneg (2 ^ n)))
  subst ht
  have hd : d ≠ 0 := fun h0 => pz ((whole_zero ww).mp h0)
  have nw := whole_natAbs ww
  have hq : val64 (FP.ddiv (FP.ddiv x y) w) = .fin false c (q - n) := by
    show val64 (Core.ddiv _ _) = _
    rw [val64_ddiv, h2, ew]
    simp only [quotient, if_neg hd]
    refine roundRatio_exact good_b64 (by omega) hf ?_
    rw [show q - r - (q - n) = n - r by omega, show q - n - (q - r) = r - n by omega]
    rw [Int.natAbs_natCast, Int.add_zero] at nw
    refine Nat.eq_of_mul_eq_mul_right (Nat.two_pow_pos r.toNat) ?_
    have hx : (n - r : Int).toNat + r.toNat = (r - n : Int).toNat + (n + (-r).toNat) := by omega
    calc c * 2 ^ (n - r : Int).toNat * 2 ^ r.toNat = c * 2 ^ ((n - r : Int).toNat + r.toNat) := by rw [Nat.pow_add, Nat.mul_assoc]
      _ = c * 2 ^ (r - n : Int).toNat * (2 ^ n * 2 ^ (-r).toNat) := by rw [hx, Nat.pow_add, Nat.pow_add, Nat.mul_assoc]
      _ = c * d * 2 ^ (r - n : Int).toNat * 2 ^ r.toNat := by rw [← nw]; ac_rfl
  refine ⟨val64_inj (by rw [hg]; nofun) (by rw [hg, hq]), by rw [h2]; nofun, by rw [hg]; nofun⟩
end More
end Jvm.OwnKit
namespace Jvm.OwnKit
open Jvm.FP Jvm.FP.Core
section Pow
variable {i j k k' : Int} {a b : UInt64}
theorem whole_up {d : Datum} {n : Nat} : Whole i (shf k d) ↔ Whole (i * ((2 ^ n : Nat) : Int)) (shf (k + n) d) := by
  cases d with
  | nan => exact Iff.rfl
  | inf => exact Iff.rfl
  | fin s c q =>
    show signed s (c * 2 ^ (q + k).toNat) = i * ((2 ^ (-(q + k)).toNat : Nat) : Int) ↔ signed s (c * 2 ^ (q + (k + n)).toNat) = i * ((2 ^ n : Nat) : Int) * ((2 ^ (-(q + (k + n))).toNat : Nat) : Int)
    have p : ((2 ^ (-(q + k)).toNat : Nat) : Int) ≠ 0 := by have := Nat.two_pow_pos (-(q + k)).toNat; omega
    have p2 : ((2 ^ (n + (-(q + (k + n))).toNat) : Nat) : Int) ≠ 0 := by have := Nat.two_pow_pos (n + (-(q + (k + n))).toNat); omega
    have hx : (q + (k + n)).toNat + (-(q + k)).toNat = (q + k).toNat + (n + (-(q + (k + n))).toNat) := by omega
    have e1 : signed s (c * 2 ^ (q + (k + n)).toNat) * ((2 ^ (-(q + k)).toNat : Nat) : Int) = signed s (c * 2 ^ (q + k).toNat) * ((2 ^ (n + (-(q + (k + n))).toNat) : Nat) : Int) := by
      rw [← signed_mul, ← signed_mul, Nat.mul_assoc, ← Nat.pow_add, Nat.mul_assoc, ← Nat.pow_add, hx]
    have e2 : i * ((2 ^ n : Nat) : Int) * ((2 ^ (-(q + (k + n))).toNat : Nat) : Int) * ((2 ^ (-(q + k)).toNat : Nat) : Int) = i * ((2 ^ (-(q + k)).toNat : Nat) : Int) * ((2 ^ (n + (-(q + (k + n))).toNat) : Nat) : Int) := by
      rw [Nat.pow_add, Int.natCast_mul]; ac_rfl
    constructor
    · intro h
      refine Int.eq_of_mul_eq_mul_right p ?_
      rw [e1, e2, h]
    · intro h
      refine Int.eq_of_mul_eq_mul_right p2 ?_
      rw [← e1, ← e2, h]
theorem Dy.down {n : Nat} (ha : Dy (i * ((2 ^ n : Nat) : Int)) (k + n) a) : Dy i k a := whole_up.mpr ha
/-- times a power of two -/
theorem Dy.mulp (ha : Dy i k a) (n : Nat) (hb : Dy ((2 ^ n : Nat) : Int) 0 b) (h : i.natAbs < 2 ^ 53) (h1 : -900 ≤ k - n) (h2 : k - n ≤ 1000) : Dy i (k - n) (FP.dmul a b) := by
  show Whole i (shf (k - n) (val64 (Core.dmul a b)))
  rw [val64_dmul]
  refine dy_round h h1 h2 ?_
  rw [whole_up (n := n), show k - n + n = k + 0 by omega, shf_prod]
  exact whole_product ha hb
end Pow
end Jvm.OwnKit
namespace Jvm.OwnKit
theorem and64 (x m : Int64) (hm : 0 ≤ m.toInt) : 0 ≤ (x &&& m).toInt ∧ (x &&& m).toInt ≤ m.toInt := by
  have h : (x &&& m).toBitVec.toNat ≤ m.toBitVec.toNat := by rw [Int64.toBitVec_and, BitVec.toNat_and]; exact Nat.and_le_right
  have e : ∀ y : Int64, y.toInt = y.toBitVec.toInt := fun _ => rfl
  rw [e] at hm ⊢
  rw [e m]
  rw [BitVec.toInt_eq_toNat_cond] at hm ⊢
  rw [BitVec.toInt_eq_toNat_cond]
  have l1 := m.toBitVec.isLt
  have l2 := (x &&& m).toBitVec.isLt
  split at hm <;> split <;> omega
theorem and32 (x m : Int32) (hm : 0 ≤ m.toInt) : 0 ≤ (x &&& m).toInt ∧ (x &&& m).toInt ≤ m.toInt := by
  have h : (x &&& m).toBitVec.toNat ≤ m.toBitVec.toNat := by rw [Int32.toBitVec_and, BitVec.toNat_and]; exact Nat.and_le_right
  have e : ∀ y : Int32, y.toInt = y.toBitVec.toInt := fun _ => rfl
  rw [e] at hm ⊢
  rw [e m]
  rw [BitVec.toInt_eq_toNat_cond] at hm ⊢
  rw [BitVec.toInt_eq_toNat_cond]
  have l1 := m.toBitVec.isLt
  have l2 := (x &&& m).toBitVec.isLt
  split at hm <;> split <;> omega
end Jvm.OwnKit
namespace Jvm.OwnKit
open Jvm.Free.BdW Jvm.RoadKit
/-! ## leading zeros, by the logarithm -/
theorem toI32 (x : Int32) : x.toInt = if 2 * x.toBitVec.toNat < 2 ^ 32 then (x.toBitVec.toNat : Int) else (x.toBitVec.toNat : Int) - ((2 ^ 32 : Nat) : Int) := BitVec.toInt_eq_toNat_cond x.toBitVec
theorem toI64 (x : Int64) : x.toInt = if 2 * x.toBitVec.toNat < 2 ^ 64 then (x.toBitVec.toNat : Int) else (x.toBitVec.toNat : Int) - ((2 ^ 64 : Nat) : Int) := BitVec.toInt_eq_toNat_cond x.toBitVec
theorem ush_nat {x sh : Int32} {n k : Nat} (hx : x.toInt = n) (hk : (sh &&& 31).toUInt32.toNat % 32 = k) : (ush x sh).toInt = ((n >>> k : Nat) : Int) := by
  have hn : x.toBitVec.toNat = n ∧ n < 2 ^ 31 := by
    rw [toI32] at hx; have := x.toBitVec.isLt; split at hx <;> omega
  have e : (ush x sh).toBitVec.toNat = n >>> k := by
    show (x.toUInt32 >>> (sh &&& 31).toUInt32).toNat = _
    rw [UInt32.toNat_shiftRight, hk]
    show x.toBitVec.toNat >>> k = _
    rw [hn.1]
  have l : n >>> k ≤ n := Nat.shiftRight_le n k
  rw [toI32, e]
  rw [if_pos (by omega)]
theorem log2_shift {n k : Nat} (h : k ≤ n.log2) (h0 : n ≠ 0) : (n >>> k).log2 = n.log2 - k ∧ n >>> k ≠ 0 := by
  have a1 : 2 ^ n.log2 ≤ n := Nat.log2_self_le h0
  have a2 : n < 2 ^ (n.log2 + 1) := Nat.lt_log2_self
  generalize n.log2 = L at *
  rw [Nat.shiftRight_eq_div_pow]
  have e1 : 2 ^ (L - k) * 2 ^ k = 2 ^ L := by rw [← Nat.pow_add]; congr 1; omega
  have e2 : 2 ^ (L - k + 1) * 2 ^ k = 2 ^ (L + 1) := by rw [← Nat.pow_add]; congr 1; omega
  have b1 : 2 ^ (L - k) ≤ n / 2 ^ k := by rw [Nat.le_div_iff_mul_le (Nat.two_pow_pos _), e1]; exact a1
  have b2 : n / 2 ^ k < 2 ^ (L - k + 1) := by rw [Nat.div_lt_iff_lt_mul (Nat.two_pow_pos _), e2]; exact a2
  have z : n / 2 ^ k ≠ 0 := by have := Nat.two_pow_pos (L - k); omega
  exact ⟨(Nat.log2_eq_iff z).mpr ⟨b1, b2⟩, z⟩
/-- what a block of the search keeps -/
def NJ (L B : Nat) (q : Int32 × Int32) : Prop := ∃ n d : Nat, q.1.toInt = n ∧ q.2.toInt = d ∧ n ≠ 0 ∧ n < 2 ^ B ∧ d ≤ 31 ∧ n.log2 + 31 = L + d
theorem blk_step {L s : Nat} {lim sh dn : Int32} {q : Int32 × Int32} (h : NJ L (s + s) q) (hL : L ≤ 30) (h1 : lim.toInt = ((2 ^ s : Nat) : Int)) (h2 : (sh &&& 31).toUInt32.toNat % 32 = s) (h3 : dn.toInt = -(s : Int)) : NJ L s (blk lim sh dn q) := by
  obtain ⟨n, d, e1, e2, n0, nb, d31, hl⟩ := h
  unfold blk
  by_cases c : q.1 < lim
  · rw [if_pos c]
    rw [Int32.lt_iff_toInt_lt, e1, h1] at c
    exact ⟨n, d, e1, e2, n0, by omega, d31, hl⟩
  · rw [if_neg c]
    rw [Int32.lt_iff_toInt_lt, e1, h1] at c
    have c' : 2 ^ s ≤ n := by omega
    have hs : s ≤ n.log2 := (Nat.le_log2 n0).mpr c'
    have hd : s ≤ d := by omega
    obtain ⟨g1, g2⟩ := log2_shift hs n0
    refine ⟨n >>> s, d - s, ush_nat e1 h2, ?_, g2, ?_, by omega, by omega⟩
    · show (q.2 + dn).toInt = _
      rw [Int32.toInt_add, e2, h3, Int.bmod_eq_of_le (by omega) (by omega)]
      omega
    · rw [Nat.shiftRight_eq_div_pow, Nat.div_lt_iff_lt_mul (Nat.two_pow_pos _), ← Nat.pow_add]; exact nb
theorem nlz32_pos {i : Int32} {n : Nat} (e : i.toInt = n) (h0 : n ≠ 0) : (nlz32 i).toInt = 31 - (n.log2 : Int) := by
  have hb : n < 2 ^ 31 := by have := Int32.toInt_lt i; omega
  have hL : n.log2 ≤ 30 := by have := (Nat.log2_lt h0).mpr hb; omega
  have J0 : NJ n.log2 (16 + 16) (i, 31) := ⟨n, 31, e, rfl, h0, by omega, by decide, by omega⟩
  have J1 := blk_step (lim := 65536) (sh := 16) (dn := -16) J0 hL rfl (by decide) rfl
  have J2 := blk_step (s := 8) (lim := 256) (sh := 8) (dn := -8) J1 hL rfl (by decide) rfl
  have J3 := blk_step (s := 4) (lim := 16) (sh := 4) (dn := -4) J2 hL rfl (by decide) rfl
  have J4 := blk_step (s := 2) (lim := 4) (sh := 2) (dn := -2) J3 hL rfl (by decide) rfl
  have hp : i > 0 := by show (0 : Int32) < i; rw [Int32.lt_iff_toInt_lt, e]; show (0 : Int) < n; omega
  unfold nlz32
  rw [if_pos hp]
  generalize blk 4 2 (-2) (blk 16 4 (-4) (blk 256 8 (-8) (blk 65536 16 (-16) (i, 31)))) = q at J4
  obtain ⟨m, d, e1, e2, m0, mb, d31, hl⟩ := J4
  have u := ush_nat (sh := 1) e1 (k := 1) (by decide)
  have lm : m.log2 = m >>> 1 := by
    rcases (show m = 1 ∨ m = 2 ∨ m = 3 by omega) with rfl | rfl | rfl <;> decide
  rw [Int32.toInt_sub, e2, u, Int.bmod_eq_of_le (by omega) (by omega)]
  omega
theorem nlz64_pos {v : Int64} {n : Nat} (e : v.toInt = n) (h0 : n ≠ 0) : (nlz64 v).toInt = 63 - (n.log2 : Int) := by
  have hb : v.toBitVec.toNat = n ∧ n < 2 ^ 63 := by rw [toI64] at e; have := v.toBitVec.isLt; split at e <;> omega
  have eh : (hi32 v).toBitVec.toNat = n >>> 32 := by
    show ((v.toUInt64 >>> ((32 : Int32) &&& 0x3f).toInt64.toUInt64).toBitVec.signExtend 32).toNat = _
    have z : (v.toUInt64 >>> ((32 : Int32) &&& 0x3f).toInt64.toUInt64).toNat = n >>> 32 := by
      rw [UInt64.toNat_shiftRight]
      show v.toBitVec.toNat >>> 32 = _
      rw [hb.1]
    have z2 : n >>> 32 < 2 ^ 31 := by rw [Nat.shiftRight_eq_div_pow]; omega
    rw [BitVec.signExtend_eq_setWidth_of_le _ (by decide), BitVec.toNat_setWidth]
    show (v.toUInt64 >>> ((32 : Int32) &&& 0x3f).toInt64.toUInt64).toNat % 2 ^ 32 = _
    rw [z]; omega
  have z2 : n >>> 32 < 2 ^ 31 := by rw [Nat.shiftRight_eq_div_pow]; omega
  have ehi : (hi32 v).toInt = ((n >>> 32 : Nat) : Int) := by rw [toI32, eh, if_pos (by omega)]
  unfold nlz64
  by_cases c : hi32 v = 0
  · rw [if_pos c]
    have c0 : n >>> 32 = 0 := by rw [c] at ehi; have : (0 : Int32).toInt = 0 := rfl; omega
    have cb : n < 2 ^ 32 := by rw [Nat.shiftRight_eq_div_pow] at c0; omega
    have el : v.toInt32.toBitVec.toNat = n := by
      show (v.toBitVec.signExtend 32).toNat = _
      rw [BitVec.signExtend_eq_setWidth_of_le _ (by decide), BitVec.toNat_setWidth, hb.1]; omega
    by_cases p : n < 2 ^ 31
    · have ei : v.toInt32.toInt = n := by rw [toI32, el, if_pos (by omega)]
      have r := nlz32_pos ei h0
      have l0 : n.log2 < 31 := (Nat.log2_lt h0).mpr p
      rw [Int32.toInt_add, r, show (32 : Int32).toInt = 32 from rfl, Int.bmod_eq_of_le (by omega) (by omega)]
      omega
    · have ei : v.toInt32.toInt < 0 := by rw [toI32, el, if_neg (by omega)]; omega
      have r : nlz32 v.toInt32 = 0 := by
        unfold nlz32
        rw [if_neg, if_neg]
        · intro q; rw [q] at ei; exact absurd ei (by decide)
        · intro q; have q' : (0 : Int32) < v.toInt32 := q; rw [Int32.lt_iff_toInt_lt] at q'; have : (0 : Int32).toInt = 0 := rfl; omega
      have l1 : n.log2 = 31 := (Nat.log2_eq_iff h0).mpr ⟨by omega, cb⟩
      rw [r, l1]; decide
  · rw [if_neg c]
    have c0 : n >>> 32 ≠ 0 := fun q => c (Int32.toInt_inj.mp (by rw [ehi, q]; rfl))
    have c1 : 32 ≤ n.log2 := (Nat.le_log2 h0).mpr (by rw [Nat.shiftRight_eq_div_pow] at c0; omega)
    have r := nlz32_pos ehi c0
    have l1 := (log2_shift c1 h0).1
    rw [r, l1]; omega
end Jvm.OwnKit
namespace Jvm.Pilot.@@N@@
open Jvm Jvm.ClassFile Sem Op Lib Jvm.Free Jvm.Stand Jvm.LawKit Jvm.RoadKit Jvm.OwnKit Bundle Jvm.Pilot.@@N@@.Jvm.D

open Jvm.Free.BdW
def own_zero : Nat → Int64 := fun _ => 0
def own_vs (f : Nat → Int64) : List Value := (List.range 7296).map fun i => .long (f i)
def own_upd (f : Nat → Int64) (i : Nat) (v : Int64) : Nat → Int64 := fun j => if j = i then v else f j
def own_ind (i j : Nat) : Int64 := if j = i then 1 else 0
def own_inc (f : Nat → Int64) (i : Nat) : Nat → Int64 := fun j => f j + own_ind i j
theorem own_len (f : Nat → Int64) : (own_vs f).length = 7296 := by simp [own_vs]
theorem own_len32 {f : Nat → Int64} : (own_vs f).length.toInt32 = (7296 : Int32) := by rw [own_len]; rfl
theorem own_get {f : Nat → Int64} {i : Nat} (h : i < 7296) : (own_vs f)[i]? = some (.long (f i)) := by simp [own_vs, h]
theorem own_lt {f : Nat → Int64} {i : Nat} (h : i < 7296) : i < (own_vs f).length := by rw [own_len]; exact h
theorem own_new : own_vs own_zero = List.replicate 7296 (.long (0 : Int64)) := by
  refine List.ext_getElem? fun i => ?_
  by_cases h : i < 7296
  · rw [own_get h, List.getElem?_replicate_of_lt h]; rfl
  · rw [List.getElem?_eq_none (by rw [own_len]; omega), List.getElem?_eq_none (by rw [List.length_replicate]; omega)]
theorem own_set {f : Nat → Int64} {i : Nat} {v : Int64} : (own_vs f).set i (.long v) = own_vs (own_upd f i v) := by
  refine List.ext_getElem? fun j => ?_
  rw [List.getElem?_set]
  by_cases h : j < 7296
  · rw [own_get h, own_get h, own_len]
    unfold own_upd
    by_cases q : i = j
    · subst q; simp [h]
    · rw [if_neg q, if_neg (Ne.symm q)]
  · rw [List.getElem?_eq_none (l := own_vs (own_upd f i v)) (by rw [own_len]; omega), List.getElem?_eq_none (l := own_vs f) (by rw [own_len]; omega), own_len]
    by_cases q : i = j
    · subst q; simp [h]
    · rw [if_neg q]
theorem own_incE (f : Nat → Int64) (i : Nat) : own_upd f i (f i + (1 : Int64)) = own_inc f i := by
  funext j
  unfold own_upd own_inc own_ind
  by_cases q : j = i
  · subst q; simp
  · rw [if_neg q, if_neg q, Int64.add_zero]
/-! the place of a value -/
def own_pos (x : Int64) : Int64 := if (0 : Int64) < x then x else (0 : Int64)
def own_sh0 (m : Int64) : Int32 := ((63 : Int32) - (nlz64 m)) - (7 : Int32)
def own_sh (m : Int64) : Int32 := if (0 : Int32) < own_sh0 m then own_sh0 m else (0 : Int32)
def own_ixm (m : Int64) (sh : Int32) : Int32 := ((sh <<< ((7 : Int32) &&& 31)) + (((m.toUInt64 >>> (sh &&& 0x3f).toInt64.toUInt64).toInt64).toInt32))
def own_ix (x : Int64) : Int32 := own_ixm (own_pos x) (own_sh (own_pos x))
theorem own_ixm_b {m : Int64} {sh : Int32} {n d : Nat} (e : m.toInt = n) (es : sh.toInt = d) (hd : d ≤ 55) (hn : n >>> d < 256) : (own_ixm m sh).toInt = d * 128 + ((n >>> d : Nat) : Int) := by
  have hb : m.toBitVec.toNat = n ∧ n < 2 ^ 63 := by rw [toI64] at e; have := m.toBitVec.isLt; split at e <;> omega
  have hs : sh = Int32.ofNat d := by
    apply Int32.toInt_inj.mp
    rw [es, Int32.toInt_ofNat_of_lt (by omega)]
  have hk : (sh &&& 0x3f).toInt64.toUInt64.toNat % 64 = d := by
    rw [hs]
    have : ∀ i : Fin 56, ((Int32.ofNat i.1) &&& 0x3f).toInt64.toUInt64.toNat % 64 = i.1 := by decide +kernel
    exact this ⟨d, by omega⟩
  have e1 : (m.toUInt64 >>> (sh &&& 0x3f).toInt64.toUInt64).toInt64.toBitVec.toNat = n >>> d := by
    show (m.toUInt64 >>> (sh &&& 0x3f).toInt64.toUInt64).toNat = _
    rw [UInt64.toNat_shiftRight, hk]
    show m.toBitVec.toNat >>> d = _
    rw [hb.1]
  have e2 : (m.toUInt64 >>> (sh &&& 0x3f).toInt64.toUInt64).toInt64.toInt = ((n >>> d : Nat) : Int) := by rw [toI64, e1, if_pos (by omega)]
  have e3 : ((m.toUInt64 >>> (sh &&& 0x3f).toInt64.toUInt64).toInt64).toInt32.toInt = ((n >>> d : Nat) : Int) := by rw [FP.Core.int64_toInt32 (by omega) (by omega), e2]
  have e4 : (sh <<< ((7 : Int32) &&& 31)).toInt = d * 128 := by
    rw [shlm (x := sh) (k := 7) (m := 128) (by decide), Int32.toInt_mul, es, show (128 : Int32).toInt = 128 from rfl, Int.bmod_eq_of_le (by omega) (by omega)]
  unfold own_ixm
  rw [Int32.toInt_add, e4, e3, Int.bmod_eq_of_le (by omega) (by omega)]
theorem own_ixb (x : Int64) : ¬ own_ix x < (0 : Int32) ∧ (own_ix x).toNatClampNeg < 7296 := by
  obtain ⟨n, hn⟩ : ∃ n : Nat, (own_pos x).toInt = n := by
    refine ⟨(own_pos x).toInt.toNat, ?_⟩
    have : 0 ≤ (own_pos x).toInt := by
      unfold own_pos
      by_cases q : (0 : Int64) < x
      · rw [if_pos q]; rw [Int64.lt_iff_toInt_lt] at q; have : (0 : Int64).toInt = 0 := rfl; omega
      · rw [if_neg q]; decide
    omega
  unfold own_ix
  generalize own_pos x = m at hn
  have key : ∃ r : Nat, (own_ixm m (own_sh m)).toInt = r ∧ r < 7296 := by
    by_cases h0 : n = 0
    · subst h0
      have hm : m = 0 := Int64.toInt_inj.mp hn
      subst hm
      exact ⟨0, by decide, by decide⟩
    · have hb : n < 2 ^ 63 := by have := Int64.toInt_lt m; omega
      have hL : n.log2 ≤ 62 := by have := (Nat.log2_lt h0).mpr hb; omega
      have e0 : (own_sh0 m).toInt = (n.log2 : Int) - 7 := by
        unfold own_sh0
        rw [Int32.toInt_sub, Int32.toInt_sub, nlz64_pos hn h0, show (63 : Int32).toInt = 63 from rfl, show (7 : Int32).toInt = 7 from rfl, Int.bmod_eq_of_le (n := 63 - (63 - (n.log2 : Int))) (by omega) (by omega), Int.bmod_eq_of_le (by omega) (by omega)]
        omega
      have z0 : (0 : Int32).toInt = 0 := rfl
      have a2 : n < 2 ^ (n.log2 + 1) := Nat.lt_log2_self
      by_cases c : (0 : Int32) < own_sh0 m
      · have es : (own_sh m).toInt = ((n.log2 - 7 : Nat) : Int) := by
          unfold own_sh; rw [if_pos c, e0]; rw [Int32.lt_iff_toInt_lt, e0, z0] at c; omega
        rw [Int32.lt_iff_toInt_lt, e0, z0] at c
        have hs : n >>> (n.log2 - 7) < 256 := by
          rw [Nat.shiftRight_eq_div_pow, Nat.div_lt_iff_lt_mul (Nat.two_pow_pos _), show (256 : Nat) = 2 ^ 8 by decide, ← Nat.pow_add, show 8 + (n.log2 - 7) = n.log2 + 1 by omega]; exact a2
        have r := own_ixm_b hn es (by omega) hs
        exact ⟨(n.log2 - 7) * 128 + n >>> (n.log2 - 7), by rw [r]; simp, by omega⟩
      · have es : (own_sh m).toInt = ((0 : Nat) : Int) := by unfold own_sh; rw [if_neg c]; rfl
        rw [Int32.lt_iff_toInt_lt, e0, z0] at c
        have hs : n >>> 0 < 256 := by
          have : 2 ^ (n.log2 + 1) ≤ 2 ^ 8 := Nat.pow_le_pow_right (by decide) (by omega)
          show n < 256; omega
        have r := own_ixm_b hn es (by omega) hs
        exact ⟨n >>> 0, by rw [r]; simp, by omega⟩
  obtain ⟨r, e, hr⟩ := key
  constructor
  · rw [Int32.lt_iff_toInt_lt, e]; have : (0 : Int32).toInt = 0 := rfl; omega
  · rw [Int32.toNatClampNeg, e]; omega
def own_in (x : Int64) : Nat := (own_ix x).toNatClampNeg

def own_mix (f g : Nat → Int64) (n : Nat) : Nat → Int64 := fun j => if j < n then f j + g j else f j
def own_sum (f g : Nat → Int64) : Nat → Int64 := fun j => f j + g j
theorem own_mix0 (f g : Nat → Int64) : own_mix f g 0 = f := by funext j; simp [own_mix]
theorem own_mixS (f g : Nat → Int64) (n : Nat) : own_upd (own_mix f g n) n ((own_mix f g n n) + (g n)) = own_mix f g (n + 1) := by
  funext j
  unfold own_upd own_mix
  by_cases q : j = n
  · subst q; simp
  · rw [if_neg q]
    by_cases r : j < n
    · rw [if_pos r, if_pos (by omega)]
    · rw [if_neg r, if_neg (by omega)]
theorem own_mixE (f g : Nat → Int64) : own_vs (own_mix f g 7296) = own_vs (own_sum f g) := by
  refine List.map_congr_left fun i hi => ?_
  have : i < 7296 := List.mem_range.mp hi
  simp [own_mix, own_sum, this]
theorem own_i {n : Nat} (h : n < 7297) : (Int32.ofNat n).toInt = n := Int32.toInt_ofNat_of_lt (by omega)
theorem own_nat {n : Nat} (h : n < 7296) : (Int32.ofNat n).toNatClampNeg = n := by rw [Int32.toNatClampNeg, own_i (by omega)]; omega
theorem own_nneg {n : Nat} (h : n < 7296) : ¬ Int32.ofNat n < (0 : Int32) := by rw [Int32.lt_iff_toInt_lt, own_i (by omega)]; have : (0 : Int32).toInt = 0 := rfl; omega
theorem own_ltN {n : Nat} (h : n < 7296) : Int32.ofNat n < (7296 : Int32) := by rw [Int32.lt_iff_toInt_lt, own_i (by omega), show (7296 : Int32).toInt = 7296 from rfl]; omega
theorem own_succ (n : Nat) : Int32.ofNat n + (1 : Int32) = Int32.ofNat (n + 1) := by rw [Int32.ofNat_add]; rfl
def own_S (f : Nat → Int64) : Nat → Int64
  | 0 => f 0
  | n + 1 => own_S f n + f (n + 1)
def own_rank (tt : Int64) (p : Int32) : Int64 := (((tt / (100 : Int64)) * (p.toInt64)) + ((((tt - tt / (100 : Int64) * (100 : Int64)) * (p.toInt64)) + (99 : Int64)) / (100 : Int64)))
def own_ps0 (i : Int32) : Int32 := ((i >>> ((7 : Int32) &&& 31)) - (1 : Int32))
def own_ps (i : Int32) : Int32 := if (0 : Int32) < own_ps0 i then own_ps0 i else (0 : Int32)
def own_pv (i : Int32) (sh : Int32) : UInt64 := (FP.dadd (FP.l2d (((i - (sh <<< ((7 : Int32) &&& 31))).toInt64) <<< (sh &&& 0x3f).toInt64)) (FP.ddiv (FP.l2d (((1 : Int64) <<< (sh &&& 0x3f).toInt64) - (1 : Int64))) (4611686018427387904 : UInt64)))
theorem own_pn (x y : Int64) : Fl.NoNaN64 (FP.ddiv (FP.l2d x) (4611686018427387904 : UInt64)) ∧ Fl.NoNaN64 (FP.dadd (FP.l2d y) (FP.ddiv (FP.l2d x) (4611686018427387904 : UInt64))) := by
  have h := Fl.ddiv_out (a := FP.l2d x) (b := 4611686018427387904) (Fl.l2d_fin x).noNaN (by unfold Fl.Fin64; decide) (by unfold Fl.Nz64; decide)
  refine ⟨h, ?_⟩
  rw [show FP.dadd (FP.l2d y) (FP.ddiv (FP.l2d x) (4611686018427387904 : UInt64)) = FP.dadd (FP.ddiv (FP.l2d x) (4611686018427387904 : UInt64)) (FP.l2d y) from FP.Core.dadd_comm _ _]
  exact Fl.dadd_out h (Fl.l2d_fin y)

theorem own_S0 (n : Nat) : own_S own_zero n = 0 := by
  induction n with
  | zero => rfl
  | succ n ih => show own_S own_zero n + 0 = 0; rw [ih]; rfl
theorem own_Sinc (f : Nat → Int64) (i n : Nat) : own_S (own_inc f i) n = own_S f n + (if i ≤ n then 1 else 0) := by
  induction n with
  | zero =>
    show f 0 + own_ind i 0 = f 0 + _
    unfold own_ind
    by_cases q : i = 0
    · subst q; rfl
    · rw [if_neg (Ne.symm q), if_neg (by omega)]
  | succ n ih =>
    show own_S (own_inc f i) n + (f (n + 1) + own_ind i (n + 1)) = own_S f n + f (n + 1) + _
    rw [ih]
    unfold own_ind
    by_cases q : n + 1 = i
    · rw [if_pos q, if_neg (by omega), if_pos (by omega), Int64.add_zero, Int64.add_assoc]
    · rw [if_neg q, Int64.add_zero]
      by_cases r : i ≤ n
      · rw [if_pos r, if_pos (by omega), Int64.add_assoc, Int64.add_comm 1, ← Int64.add_assoc]
      · rw [if_neg r, if_neg (by omega), Int64.add_zero, Int64.add_zero]
theorem own_sumI (f g : Nat → Int64) (i : Nat) : own_sum f (own_inc g i) = own_inc (own_sum f g) i := by
  funext j; show f j + (g j + own_ind i j) = f j + g j + own_ind i j; rw [Int64.add_assoc]
theorem own_sumZ (f : Nat → Int64) : own_sum f own_zero = f := by funext j; show f j + 0 = f j; exact Int64.add_zero _
theorem own_all {v8 v9 v10 : Int32} {x y z : Nat} {fa fb1 fb2 fc1 fc2 fc3 : Nat → Int64} {ta tb1 tb2 tc1 tc2 tc3 : Int64} (hx : x < 7296) (hy : y < 7296) (hz : z < 7296) (hne : ¬ (v8 = (0 : Int32) ∧ v9 = (0 : Int32) ∧ v10 = (0 : Int32)))
    (a1 : fa = if v8 = (0 : Int32) then own_zero else (own_inc own_zero x)) (c1 : fc1 = if v8 = (0 : Int32) then own_zero else (own_inc own_zero x)) (b1 : fb1 = if v9 = (0 : Int32) then own_zero else (own_inc own_zero y)) (c2 : fc2 = if v9 = (0 : Int32) then fc1 else (own_inc fc1 y)) (b2 : fb2 = if v10 = (0 : Int32) then fb1 else (own_inc fb1 z)) (c3 : fc3 = if v10 = (0 : Int32) then fc2 else (own_inc fc2 z))
    (t1 : ta = if v8 = (0 : Int32) then (0 : Int64) else ((0 : Int64) + (1 : Int64))) (u1 : tc1 = if v8 = (0 : Int32) then (0 : Int64) else ((0 : Int64) + (1 : Int64))) (s1 : tb1 = if v9 = (0 : Int32) then (0 : Int64) else ((0 : Int64) + (1 : Int64))) (u2 : tc2 = if v9 = (0 : Int32) then tc1 else (tc1 + (1 : Int64))) (s2 : tb2 = if v10 = (0 : Int32) then tb1 else (tb1 + (1 : Int64))) (u3 : tc3 = if v10 = (0 : Int32) then tc2 else (tc2 + (1 : Int64))) :
    own_sum fa fb2 = fc3 ∧ ta + tb2 = tc3 ∧ own_S fc3 7295 = tc3 ∧ (tc3 = 1 ∨ tc3 = 2 ∨ tc3 = 3) := by
  subst c3 c2 c1 b2 b1 a1 u3 u2 u1 s2 s1 t1
  by_cases q8 : v8 = (0 : Int32) <;> by_cases q9 : v9 = (0 : Int32) <;> by_cases q10 : v10 = (0 : Int32)
  · exact absurd ⟨q8, q9, q10⟩ hne
  all_goals
    simp only [q8, q9, q10, if_true, if_false, own_sumI, own_sumZ, own_Sinc, own_S0, show x ≤ 7295 by omega, show y ≤ 7295 by omega, show z ≤ 7295 by omega]
    decide
theorem own_rk : ∀ i : Fin 100, ¬ (1 : Int64) < own_rank 1 (Int32.ofNat (i.1 + 1)) ∧ ¬ (2 : Int64) < own_rank 2 (Int32.ofNat (i.1 + 1)) ∧ ¬ (3 : Int64) < own_rank 3 (Int32.ofNat (i.1 + 1)) := by decide +kernel
theorem own_pct {w v : Int32} (e : (1 : Int32) + ((w &&& (2147483647 : Int32)) % (100 : Int32)) = v) : ∃ i : Fin 100, v = Int32.ofNat (i.1 + 1) := by
  have h := and32 w (2147483647 : Int32) (by decide)
  obtain ⟨p, -⟩ := c_irem (w &&& (2147483647 : Int32)) 100 100 rfl
  have r := p h.1
  have hv : v.toInt = 1 + (w &&& (2147483647 : Int32)).toInt % 100 := by
    rw [← e, Int32.toInt_add, r, show (1 : Int32).toInt = 1 from rfl, Int.bmod_eq_of_le (by omega) (by omega)]
  refine ⟨⟨v.toInt.toNat - 1, by omega⟩, ?_⟩
  apply Int32.toInt_inj.mp
  rw [Int32.toInt_ofNat_of_lt (by show v.toInt.toNat - 1 + 1 < _; omega)]
  show v.toInt = ((v.toInt.toNat - 1 + 1 : Nat) : Int)
  omega
theorem own_least {P : Nat → Prop} [DecidablePred P] (m : Nat) : P m → ∃ N, N ≤ m ∧ P N ∧ ∀ n, n < N → ¬ P n := by
  induction m using Nat.strongRecOn with
  | _ m ih =>
    intro h
    by_cases q : ∃ n, n < m ∧ P n
    · obtain ⟨n, hn, hp⟩ := q
      obtain ⟨N, h1, h2, h3⟩ := ih n hn hp
      exact ⟨N, by omega, h2, h3⟩
    · exact ⟨m, Nat.le_refl _, h, fun n hn hp => q ⟨n, hn, hp⟩⟩
theorem own_stop {f : Nat → Int64} {t : Int64} {w v : Int32} (e : (1 : Int32) + ((w &&& (2147483647 : Int32)) % (100 : Int32)) = v) (hS : own_S f 7295 = t) (ht : t = 1 ∨ t = 2 ∨ t = 3) : ¬ t = (0 : Int64) ∧ ∃ N, N < 7296 ∧ ¬ own_S f N < own_rank t v ∧ ∀ n, n < N → own_S f n < own_rank t v := by
  obtain ⟨i, rfl⟩ := own_pct e
  have k := own_rk i
  have h : ¬ own_S f 7295 < own_rank t (Int32.ofNat (i.1 + 1)) := by
    rw [hS]
    rcases ht with rfl | rfl | rfl
    · exact k.1
    · exact k.2.1
    · exact k.2.2
  refine ⟨by rcases ht with rfl | rfl | rfl <;> decide, ?_⟩
  obtain ⟨N, h1, h2, h3⟩ := own_least (P := fun n => ¬ own_S f n < own_rank t (Int32.ofNat (i.1 + 1))) 7295 h
  exact ⟨N, by omega, h2, fun n hn => Decidable.of_not_not (h3 n hn)⟩
theorem d4_0 : decode jdk_29_method_66_code 0 = .ok (.lload_n 0, 1) := by decide +kernel
theorem d4_1 : decode jdk_29_method_66_code 1 = .ok (.lload_n 2, 1) := by decide +kernel
theorem d4_2 : decode jdk_29_method_66_code 2 = .ok (.lcmp, 1) := by decide +kernel
theorem d4_3 : decode jdk_29_method_66_code 3 = .ok (.ifCond .lt 7, 3) := by decide +kernel
theorem d4_6 : decode jdk_29_method_66_code 6 = .ok (.lload_n 0, 1) := by decide +kernel
theorem d4_7 : decode jdk_29_method_66_code 7 = .ok (.goto 4, 3) := by decide +kernel
theorem d4_10 : decode jdk_29_method_66_code 10 = .ok (.lload_n 2, 1) := by decide +kernel
theorem d4_11 : decode jdk_29_method_66_code 11 = .ok (.lreturn, 1) := by decide +kernel
theorem ef_rmXJ (m : MethodId) (u : Int64) (w : Int64) : entryFrame m #[(.long u), (.long w)] 4 = mkF m 0 #[jv u, sd, jv w, sd] [] := by first | (simp [entryFrame, mkF, argsToLocals, Value.category]; done) | rfl
def Q_rmXJ (Z : State) (u : Int64) (w : Int64) (h0 : Heap) (n0 : Nat) (v : Option Value) (h : Heap) (L : List Loc) : Prop := v = (some (.long (if u < w then w else u))) ∧ Fr n0 L ∧ h = h0
set_option maxRecDepth 65536 in
set_option maxHeartbeats 40000000 in
theorem rmXJ (l : Launch) (Z : State) (a0 : Array Value) (hw : ∀ d ∈ tables_1, d.before a0 Z = true) (u : Int64) (w : Int64) (h0 : Heap) (n0 : Nat) (Z0 : n0 ≤ h0.size) :
    Ctr l Z h0 (⟨"java/lang/Math", "max", "(JJ)J"⟩ : MethodName) jdk_29_method_66_code 4 (some .long) [] ({ frames := 0, cells := 0, slots := 0, locals := 0 } : Room) #[(.long u), (.long w)] (Q_rmXJ Z u w h0 n0) := by
  refine Ctr.make (Jvm.Free.JP.mathPlain rfl (by decide +kernel)) fun p e s m below meth c s₁ K hret hml hx hby hown hnm hZ X0 e0 hK => ?_
  have hown : s.vm.findClass "java/lang/Math" = some m.cls := hown
  have N0 := Fr.nil n0
  have K0 : Keep h0 h0 [] := Keep.refl _ _
  refine Wlk.of (fun _ k => castTop (ef_rmXJ m u w) k) ?_
  show Wlk p.tables e below (s₁.setTop (mkF m 0 #[jv u, sd, jv w, sd] [])) K
  refine Wlk.of (fun _ k => XS.lloadN X0.here hx rfl (hb hby d4_0) rfl k) ?_
  show Wlk p.tables e below (s₁.setTop (mkF m 1 #[jv u, sd, jv w, sd] [(.long u)])) K
  refine Wlk.of (fun _ k => XS.lloadN X0.here hx rfl (hb hby d4_1) rfl k) ?_
  show Wlk p.tables e below (s₁.setTop (mkF m 2 #[jv u, sd, jv w, sd] [(.long w), (.long u)])) K
  refine Wlk.of (fun _ k => XS.lcmp X0.here hx rfl (hb hby d4_2) rfl k) ?_
  show Wlk p.tables e below (s₁.setTop (mkF m 3 #[jv u, sd, jv w, sd] [(.int (lcmpW u w))])) K
  by_cases hc1 : u < w
  · refine Wlk.of (fun _ k => XS.ifYes X0.here hx rfl (pc0 := 3) (pc' := 10) rfl (hb hby d4_3) rfl ((if0 _ _).trans (tlt ((lw_lt _ _).mpr hc1)).1) (by decide) (by decide) k) ?_
    show Wlk p.tables e below (s₁.setTop (mkF m 10 #[jv u, sd, jv w, sd] [])) K
    refine Wlk.of (fun _ k => XS.lloadN X0.here hx rfl (hb hby d4_10) rfl k) ?_
    show Wlk p.tables e below (s₁.setTop (mkF m 11 #[jv u, sd, jv w, sd] [(.long w)])) K
    refine hK (some (.long w)) X0 (fun q => by cases q) (fun fs hr => retOut X0 hx hret rfl (Or.inr (Or.inl ⟨rfl, rfl, _, rfl⟩)) (hb hby d4_11) hr) ?_ (by decide) (by decide)
    rw [show s₁.heap = h0 from e0]
    exact ⟨(by rw [if_pos hc1]), N0, rfl⟩
  · refine Wlk.of (fun _ k => XS.ifNo X0.here hx rfl (hb hby d4_3) rfl ((if0 _ _).trans (flt (fun q => hc1 ((lw_lt _ _).mp q))).1) k) ?_
    show Wlk p.tables e below (s₁.setTop (mkF m 6 #[jv u, sd, jv w, sd] [])) K
    refine Wlk.of (fun _ k => XS.lloadN X0.here hx rfl (hb hby d4_6) rfl k) ?_
    show Wlk p.tables e below (s₁.setTop (mkF m 7 #[jv u, sd, jv w, sd] [(.long u)])) K
    refine Wlk.of (fun _ k => XS.goto X0.here hx rfl (pc0 := 7) (pc' := 11) rfl (hb hby d4_7) (by decide) (by decide) k) ?_
    show Wlk p.tables e below (s₁.setTop (mkF m 11 #[jv u, sd, jv w, sd] [(.long u)])) K
    refine hK (some (.long u)) X0 (fun q => by cases q) (fun fs hr => retOut X0 hx hret rfl (Or.inr (Or.inl ⟨rfl, rfl, _, rfl⟩)) (hb hby d4_11) hr) ?_ (by decide) (by decide)
    rw [show s₁.heap = h0 from e0]
    exact ⟨(by rw [if_neg hc1]), N0, rfl⟩
theorem d7_0 : decode jdk_29_method_65_code 0 = .ok (.iload_n 0, 1) := by decide +kernel
theorem d7_1 : decode jdk_29_method_65_code 1 = .ok (.iload_n 1, 1) := by decide +kernel
theorem d7_2 : decode jdk_29_method_65_code 2 = .ok (.if_icmp .lt 7, 3) := by decide +kernel
theorem d7_5 : decode jdk_29_method_65_code 5 = .ok (.iload_n 0, 1) := by decide +kernel
theorem d7_6 : decode jdk_29_method_65_code 6 = .ok (.goto 4, 3) := by decide +kernel
theorem d7_9 : decode jdk_29_method_65_code 9 = .ok (.iload_n 1, 1) := by decide +kernel
theorem d7_10 : decode jdk_29_method_65_code 10 = .ok (.ireturn, 1) := by decide +kernel
theorem ef_rmXI (m : MethodId) (u : Int32) (w : Int32) : entryFrame m #[(.int u), (.int w)] 2 = mkF m 0 #[iv u, iv w] [] := by first | (simp [entryFrame, mkF, argsToLocals, Value.category]; done) | rfl
def Q_rmXI (Z : State) (u : Int32) (w : Int32) (h0 : Heap) (n0 : Nat) (v : Option Value) (h : Heap) (L : List Loc) : Prop := v = (some (.int (if u < w then w else u))) ∧ Fr n0 L ∧ h = h0
set_option maxRecDepth 65536 in
set_option maxHeartbeats 40000000 in
theorem rmXI (l : Launch) (Z : State) (a0 : Array Value) (hw : ∀ d ∈ tables_1, d.before a0 Z = true) (u : Int32) (w : Int32) (h0 : Heap) (n0 : Nat) (Z0 : n0 ≤ h0.size) :
    Ctr l Z h0 (⟨"java/lang/Math", "max", "(II)I"⟩ : MethodName) jdk_29_method_65_code 2 (some .int) [] ({ frames := 0, cells := 0, slots := 0, locals := 0 } : Room) #[(.int u), (.int w)] (Q_rmXI Z u w h0 n0) := by
  refine Ctr.make (Jvm.Free.JP.mathPlain rfl (by decide +kernel)) fun p e s m below meth c s₁ K hret hml hx hby hown hnm hZ X0 e0 hK => ?_
  have hown : s.vm.findClass "java/lang/Math" = some m.cls := hown
  have N0 := Fr.nil n0
  have K0 : Keep h0 h0 [] := Keep.refl _ _
  refine Wlk.of (fun _ k => castTop (ef_rmXI m u w) k) ?_
  show Wlk p.tables e below (s₁.setTop (mkF m 0 #[iv u, iv w] [])) K
  refine Wlk.of (fun _ k => XS.iloadN X0.here hx rfl (hb hby d7_0) rfl k) ?_
  show Wlk p.tables e below (s₁.setTop (mkF m 1 #[iv u, iv w] [(.int u)])) K
  refine Wlk.of (fun _ k => XS.iloadN X0.here hx rfl (hb hby d7_1) rfl k) ?_
  show Wlk p.tables e below (s₁.setTop (mkF m 2 #[iv u, iv w] [(.int w), (.int u)])) K
  by_cases hc1 : u < w
  · refine Wlk.of (fun _ k => XS.icmpYes X0.here hx rfl (pc0 := 2) (pc' := 9) rfl (hb hby d7_2) rfl (tlt hc1).1 (by decide) (by decide) k) ?_
    show Wlk p.tables e below (s₁.setTop (mkF m 9 #[iv u, iv w] [])) K
    refine Wlk.of (fun _ k => XS.iloadN X0.here hx rfl (hb hby d7_9) rfl k) ?_
    show Wlk p.tables e below (s₁.setTop (mkF m 10 #[iv u, iv w] [(.int w)])) K
    refine hK (some (.int w)) X0 (fun q => by cases q) (fun fs hr => retOut X0 hx hret rfl (Or.inl ⟨rfl, Or.inl rfl, _, rfl⟩) (hb hby d7_10) hr) ?_ (by decide) (by decide)
    rw [show s₁.heap = h0 from e0]
    exact ⟨(by rw [if_pos hc1]), N0, rfl⟩
  · refine Wlk.of (fun _ k => XS.icmpNo X0.here hx rfl (hb hby d7_2) rfl (flt hc1).1 k) ?_
    show Wlk p.tables e below (s₁.setTop (mkF m 5 #[iv u, iv w] [])) K
    refine Wlk.of (fun _ k => XS.iloadN X0.here hx rfl (hb hby d7_5) rfl k) ?_
    show Wlk p.tables e below (s₁.setTop (mkF m 6 #[iv u, iv w] [(.int u)])) K
    refine Wlk.of (fun _ k => XS.goto X0.here hx rfl (pc0 := 6) (pc' := 10) rfl (hb hby d7_6) (by decide) (by decide) k) ?_
    show Wlk p.tables e below (s₁.setTop (mkF m 10 #[iv u, iv w] [(.int u)])) K
    refine hK (some (.int u)) X0 (fun q => by cases q) (fun fs hr => retOut X0 hx hret rfl (Or.inl ⟨rfl, Or.inl rfl, _, rfl⟩) (hb hby d7_10) hr) ?_ (by decide) (by decide)
    rw [show s₁.heap = h0 from e0]
    exact ⟨(by rw [if_neg hc1]), N0, rfl⟩
theorem d6_0 : decode jdk_33_method_47_code 0 = .ok (.iload_n 0, 1) := by decide +kernel
theorem d6_1 : decode jdk_33_method_47_code 1 = .ok (.ifCond .gt 14, 3) := by decide +kernel
theorem d6_4 : decode jdk_33_method_47_code 4 = .ok (.iload_n 0, 1) := by decide +kernel
theorem d6_5 : decode jdk_33_method_47_code 5 = .ok (.ifCond .ne 8, 3) := by decide +kernel
theorem d6_8 : decode jdk_33_method_47_code 8 = .ok (.bipush 32, 2) := by decide +kernel
theorem d6_10 : decode jdk_33_method_47_code 10 = .ok (.goto 4, 3) := by decide +kernel
theorem d6_13 : decode jdk_33_method_47_code 13 = .ok (.iconst 0, 1) := by decide +kernel
theorem d6_14 : decode jdk_33_method_47_code 14 = .ok (.ireturn, 1) := by decide +kernel
theorem d6_15 : decode jdk_33_method_47_code 15 = .ok (.bipush 31, 2) := by decide +kernel
theorem d6_17 : decode jdk_33_method_47_code 17 = .ok (.istore_n 1, 1) := by decide +kernel
theorem d6_18 : decode jdk_33_method_47_code 18 = .ok (.iload_n 0, 1) := by decide +kernel
theorem d6_19 : decode jdk_33_method_47_code 19 = .ok (.ldc_w 264, 3) := by decide +kernel
theorem d6_22 : decode jdk_33_method_47_code 22 = .ok (.if_icmp .lt 11, 3) := by decide +kernel
theorem d6_25 : decode jdk_33_method_47_code 25 = .ok (.iinc 1 (-16), 3) := by decide +kernel
theorem d6_28 : decode jdk_33_method_47_code 28 = .ok (.iload_n 0, 1) := by decide +kernel
theorem d6_29 : decode jdk_33_method_47_code 29 = .ok (.bipush 16, 2) := by decide +kernel
theorem d6_31 : decode jdk_33_method_47_code 31 = .ok (.iushr, 1) := by decide +kernel
theorem d6_32 : decode jdk_33_method_47_code 32 = .ok (.istore_n 0, 1) := by decide +kernel
theorem d6_33 : decode jdk_33_method_47_code 33 = .ok (.iload_n 0, 1) := by decide +kernel
theorem d6_34 : decode jdk_33_method_47_code 34 = .ok (.sipush 256, 3) := by decide +kernel
theorem d6_37 : decode jdk_33_method_47_code 37 = .ok (.if_icmp .lt 11, 3) := by decide +kernel
theorem d6_40 : decode jdk_33_method_47_code 40 = .ok (.iinc 1 (-8), 3) := by decide +kernel
theorem d6_43 : decode jdk_33_method_47_code 43 = .ok (.iload_n 0, 1) := by decide +kernel
theorem d6_44 : decode jdk_33_method_47_code 44 = .ok (.bipush 8, 2) := by decide +kernel
theorem d6_46 : decode jdk_33_method_47_code 46 = .ok (.iushr, 1) := by decide +kernel
theorem d6_47 : decode jdk_33_method_47_code 47 = .ok (.istore_n 0, 1) := by decide +kernel
theorem d6_48 : decode jdk_33_method_47_code 48 = .ok (.iload_n 0, 1) := by decide +kernel
theorem d6_49 : decode jdk_33_method_47_code 49 = .ok (.bipush 16, 2) := by decide +kernel
theorem d6_51 : decode jdk_33_method_47_code 51 = .ok (.if_icmp .lt 10, 3) := by decide +kernel
theorem d6_54 : decode jdk_33_method_47_code 54 = .ok (.iinc 1 (-4), 3) := by decide +kernel
theorem d6_57 : decode jdk_33_method_47_code 57 = .ok (.iload_n 0, 1) := by decide +kernel
theorem d6_58 : decode jdk_33_method_47_code 58 = .ok (.iconst 4, 1) := by decide +kernel
theorem d6_59 : decode jdk_33_method_47_code 59 = .ok (.iushr, 1) := by decide +kernel
theorem d6_60 : decode jdk_33_method_47_code 60 = .ok (.istore_n 0, 1) := by decide +kernel
theorem d6_61 : decode jdk_33_method_47_code 61 = .ok (.iload_n 0, 1) := by decide +kernel
theorem d6_62 : decode jdk_33_method_47_code 62 = .ok (.iconst 4, 1) := by decide +kernel
theorem d6_63 : decode jdk_33_method_47_code 63 = .ok (.if_icmp .lt 10, 3) := by decide +kernel
theorem d6_66 : decode jdk_33_method_47_code 66 = .ok (.iinc 1 (-2), 3) := by decide +kernel
theorem d6_69 : decode jdk_33_method_47_code 69 = .ok (.iload_n 0, 1) := by decide +kernel
theorem d6_70 : decode jdk_33_method_47_code 70 = .ok (.iconst 2, 1) := by decide +kernel
theorem d6_71 : decode jdk_33_method_47_code 71 = .ok (.iushr, 1) := by decide +kernel
theorem d6_72 : decode jdk_33_method_47_code 72 = .ok (.istore_n 0, 1) := by decide +kernel
theorem d6_73 : decode jdk_33_method_47_code 73 = .ok (.iload_n 1, 1) := by decide +kernel
theorem d6_74 : decode jdk_33_method_47_code 74 = .ok (.iload_n 0, 1) := by decide +kernel
theorem d6_75 : decode jdk_33_method_47_code 75 = .ok (.iconst 1, 1) := by decide +kernel
theorem d6_76 : decode jdk_33_method_47_code 76 = .ok (.iushr, 1) := by decide +kernel
theorem d6_77 : decode jdk_33_method_47_code 77 = .ok (.isub, 1) := by decide +kernel
theorem d6_78 : decode jdk_33_method_47_code 78 = .ok (.ireturn, 1) := by decide +kernel
theorem pn_63 : plainName "java/lang/Integer" = true := by first | (simp [plainName, overriddenIn]; done) | decide +kernel
theorem ef_rmN (m : MethodId) (i : Int32) : entryFrame m #[(.int i)] 2 = mkF m 0 #[iv i, un] [] := by first | (simp [entryFrame, mkF, argsToLocals, Value.category]; done) | rfl
def Q_rmN (Z : State) (i : Int32) (h0 : Heap) (n0 : Nat) (v : Option Value) (h : Heap) (L : List Loc) : Prop := v = (some (.int (nlz32 i))) ∧ Fr n0 L ∧ h = h0
set_option maxRecDepth 65536 in
set_option maxHeartbeats 40000000 in
theorem rmN (l : Launch) (Z : State) (a0 : Array Value) (hw : ∀ d ∈ tables_1, d.before a0 Z = true) (i : Int32) (h0 : Heap) (n0 : Nat) (Z0 : n0 ≤ h0.size) :
    Ctr l Z h0 (⟨"java/lang/Integer", "numberOfLeadingZeros", "(I)I"⟩ : MethodName) jdk_33_method_47_code 2 (some .int) [] ({ frames := 0, cells := 0, slots := 0, locals := 0 } : Room) #[(.int i)] (Q_rmN Z i h0 n0) := by
  refine Ctr.make (plainFor_of_name pn_63) fun p e s m below meth c s₁ K hret hml hx hby hown hnm hZ X0 e0 hK => ?_
  have hown : s.vm.findClass "java/lang/Integer" = some m.cls := hown
  have N0 := Fr.nil n0
  have K0 : Keep h0 h0 [] := Keep.refl _ _
  refine Wlk.of (fun _ k => castTop (ef_rmN m i) k) ?_
  show Wlk p.tables e below (s₁.setTop (mkF m 0 #[iv i, un] [])) K
  refine Wlk.of (fun _ k => XS.iloadN X0.here hx rfl (hb hby d6_0) rfl k) ?_
  show Wlk p.tables e below (s₁.setTop (mkF m 1 #[iv i, un] [(.int i)])) K
  by_cases hc1 : (0 : Int32) < i
  · refine Wlk.of (fun _ k => XS.ifYes X0.here hx rfl (pc0 := 1) (pc' := 15) rfl (hb hby d6_1) rfl ((if0 _ _).trans (tlt hc1).2.2.1) (by decide) (by decide) k) ?_
    show Wlk p.tables e below (s₁.setTop (mkF m 15 #[iv i, un] [])) K
    refine Wlk.of (fun _ k => XS.bipush X0.here hx rfl (hb hby d6_15) k) ?_
    show Wlk p.tables e below (s₁.setTop (mkF m 17 #[iv i, un] [(.int (31 : Int32))])) K
    refine Wlk.of (fun _ k => XS.istoreN X0.here hx rfl (hb hby d6_17) rfl (l' := #[iv i, iv (31 : Int32)]) rfl k) ?_
    show Wlk p.tables e below (s₁.setTop (mkF m 18 #[iv i, iv (31 : Int32)] [])) K
    refine Wlk.of (fun _ k => XS.iloadN X0.here hx rfl (hb hby d6_18) rfl k) ?_
    show Wlk p.tables e below (s₁.setTop (mkF m 19 #[iv i, iv (31 : Int32)] [(.int i)])) K
    refine Wlk.of (fun _ k => X0.ldcwInt hx hown (mvT hZ (wd hw 30 rfl)) (g := (mkF m 19 #[iv i, iv (31 : Int32)] [(.int i)])) rfl (hb hby d6_19) _ k) ?_
    show Wlk p.tables e below (s₁.setTop (mkF m 22 #[iv i, iv (31 : Int32)] [(.int (65536 : Int32)), (.int i)])) K
    have J2 : ∀ (T2 : State), Stand p l e ({ frames := 0, cells := 0, slots := 0, locals := 0 } : Room) s m #[(.int i)] below meth c T2 [] 0 0 → T2.heap = h0 → ∀ (j2_0 : Int32) (j2_1 : Int32), j2_0 = (if i < (65536 : Int32) then i else ((i.toUInt32 >>> ((16 : Int32) &&& 31).toUInt32).toInt32)) → j2_1 = (if i < (65536 : Int32) then (31 : Int32) else (15 : Int32)) → Wlk p.tables e below (T2.setTop (mkF m 33 #[iv j2_0, iv j2_1] [])) K := by
      intro T2 X2 e2 j2_0 j2_1 hj2_0 hj2_1
      have qb22 : blk (65536 : Int32) (16 : Int32) (-16 : Int32) (i, (31 : Int32)) = (j2_0, j2_1) := by
        show (if i < (65536 : Int32) then (i, (31 : Int32)) else (ush i (16 : Int32), (31 : Int32) + (-16 : Int32))) = _
        rw [hj2_0, hj2_1]
        by_cases q : i < (65536 : Int32)
        · rw [if_pos q, if_pos q, if_pos q]
        · rw [if_neg q, if_neg q, if_neg q]; rfl
      refine Wlk.of (fun _ k => XS.iloadN X2.here hx rfl (hb hby d6_33) rfl k) ?_
      show Wlk p.tables e below (T2.setTop (mkF m 34 #[iv j2_0, iv j2_1] [(.int j2_0)])) K
      refine Wlk.of (fun _ k => XS.sipush X2.here hx rfl (hb hby d6_34) k) ?_
      show Wlk p.tables e below (T2.setTop (mkF m 37 #[iv j2_0, iv j2_1] [(.int (256 : Int32)), (.int j2_0)])) K
      have J3 : ∀ (T3 : State), Stand p l e ({ frames := 0, cells := 0, slots := 0, locals := 0 } : Room) s m #[(.int i)] below meth c T3 [] 0 0 → T3.heap = h0 → ∀ (j3_0 : Int32) (j3_1 : Int32), j3_0 = (if j2_0 < (256 : Int32) then j2_0 else ((j2_0.toUInt32 >>> ((8 : Int32) &&& 31).toUInt32).toInt32)) → j3_1 = (if j2_0 < (256 : Int32) then j2_1 else (j2_1 + (-8 : Int32))) → Wlk p.tables e below (T3.setTop (mkF m 48 #[iv j3_0, iv j3_1] [])) K := by
        intro T3 X3 e3 j3_0 j3_1 hj3_0 hj3_1
        have qb37 : blk (256 : Int32) (8 : Int32) (-8 : Int32) (j2_0, j2_1) = (j3_0, j3_1) := by
          show (if j2_0 < (256 : Int32) then (j2_0, j2_1) else (ush j2_0 (8 : Int32), j2_1 + (-8 : Int32))) = _
          rw [hj3_0, hj3_1]
          by_cases q : j2_0 < (256 : Int32)
          · rw [if_pos q, if_pos q, if_pos q]
          · rw [if_neg q, if_neg q, if_neg q]; rfl
        refine Wlk.of (fun _ k => XS.iloadN X3.here hx rfl (hb hby d6_48) rfl k) ?_
        show Wlk p.tables e below (T3.setTop (mkF m 49 #[iv j3_0, iv j3_1] [(.int j3_0)])) K
        refine Wlk.of (fun _ k => XS.bipush X3.here hx rfl (hb hby d6_49) k) ?_
        show Wlk p.tables e below (T3.setTop (mkF m 51 #[iv j3_0, iv j3_1] [(.int (16 : Int32)), (.int j3_0)])) K
        have J4 : ∀ (T4 : State), Stand p l e ({ frames := 0, cells := 0, slots := 0, locals := 0 } : Room) s m #[(.int i)] below meth c T4 [] 0 0 → T4.heap = h0 → ∀ (j4_0 : Int32) (j4_1 : Int32), j4_0 = (if j3_0 < (16 : Int32) then j3_0 else ((j3_0.toUInt32 >>> ((4 : Int32) &&& 31).toUInt32).toInt32)) → j4_1 = (if j3_0 < (16 : Int32) then j3_1 else (j3_1 + (-4 : Int32))) → Wlk p.tables e below (T4.setTop (mkF m 61 #[iv j4_0, iv j4_1] [])) K := by
          intro T4 X4 e4 j4_0 j4_1 hj4_0 hj4_1
          have qb51 : blk (16 : Int32) (4 : Int32) (-4 : Int32) (j3_0, j3_1) = (j4_0, j4_1) := by
            show (if j3_0 < (16 : Int32) then (j3_0, j3_1) else (ush j3_0 (4 : Int32), j3_1 + (-4 : Int32))) = _
            rw [hj4_0, hj4_1]
            by_cases q : j3_0 < (16 : Int32)
            · rw [if_pos q, if_pos q, if_pos q]
            · rw [if_neg q, if_neg q, if_neg q]; rfl
          refine Wlk.of (fun _ k => XS.iloadN X4.here hx rfl (hb hby d6_61) rfl k) ?_
          show Wlk p.tables e below (T4.setTop (mkF m 62 #[iv j4_0, iv j4_1] [(.int j4_0)])) K
          refine Wlk.of (fun _ k => XS.iconst X4.here hx rfl (hb hby d6_62) k) ?_
          show Wlk p.tables e below (T4.setTop (mkF m 63 #[iv j4_0, iv j4_1] [(.int (4 : Int32)), (.int j4_0)])) K
          have J5 : ∀ (T5 : State), Stand p l e ({ frames := 0, cells := 0, slots := 0, locals := 0 } : Room) s m #[(.int i)] below meth c T5 [] 0 0 → T5.heap = h0 → ∀ (j5_0 : Int32) (j5_1 : Int32), j5_0 = (if j4_0 < (4 : Int32) then j4_0 else ((j4_0.toUInt32 >>> ((2 : Int32) &&& 31).toUInt32).toInt32)) → j5_1 = (if j4_0 < (4 : Int32) then j4_1 else (j4_1 + (-2 : Int32))) → Wlk p.tables e below (T5.setTop (mkF m 73 #[iv j5_0, iv j5_1] [])) K := by
            intro T5 X5 e5 j5_0 j5_1 hj5_0 hj5_1
            have qb63 : blk (4 : Int32) (2 : Int32) (-2 : Int32) (j4_0, j4_1) = (j5_0, j5_1) := by
              show (if j4_0 < (4 : Int32) then (j4_0, j4_1) else (ush j4_0 (2 : Int32), j4_1 + (-2 : Int32))) = _
              rw [hj5_0, hj5_1]
              by_cases q : j4_0 < (4 : Int32)
              · rw [if_pos q, if_pos q, if_pos q]
              · rw [if_neg q, if_neg q, if_neg q]; rfl
            refine Wlk.of (fun _ k => XS.iloadN X5.here hx rfl (hb hby d6_73) rfl k) ?_
            show Wlk p.tables e below (T5.setTop (mkF m 74 #[iv j5_0, iv j5_1] [(.int j5_1)])) K
            refine Wlk.of (fun _ k => XS.iloadN X5.here hx rfl (hb hby d6_74) rfl k) ?_
            show Wlk p.tables e below (T5.setTop (mkF m 75 #[iv j5_0, iv j5_1] [(.int j5_0), (.int j5_1)])) K
            refine Wlk.of (fun _ k => XS.iconst X5.here hx rfl (hb hby d6_75) k) ?_
            show Wlk p.tables e below (T5.setTop (mkF m 76 #[iv j5_0, iv j5_1] [(.int (1 : Int32)), (.int j5_0), (.int j5_1)])) K
            refine Wlk.of (fun _ k => XS.iushr X5.here hx rfl (hb hby d6_76) rfl k) ?_
            show Wlk p.tables e below (T5.setTop (mkF m 77 #[iv j5_0, iv j5_1] [(.int ((j5_0.toUInt32 >>> ((1 : Int32) &&& 31).toUInt32).toInt32)), (.int j5_1)])) K
            refine Wlk.of (fun _ k => XS.isub X5.here hx rfl (hb hby d6_77) rfl k) ?_
            show Wlk p.tables e below (T5.setTop (mkF m 78 #[iv j5_0, iv j5_1] [(.int (j5_1 - ((j5_0.toUInt32 >>> ((1 : Int32) &&& 31).toUInt32).toInt32)))])) K
            refine hK (some (.int (j5_1 - ((j5_0.toUInt32 >>> ((1 : Int32) &&& 31).toUInt32).toInt32)))) X5 (fun q => by cases q) (fun fs hr => retOut X5 hx hret rfl (Or.inl ⟨rfl, Or.inl rfl, _, rfl⟩) (hb hby d6_78) hr) ?_ (by decide) (by decide)
            rw [show T5.heap = h0 from e5]
            exact ⟨(by unfold nlz32; rw [if_pos (show i > 0 from hc1), qb22, qb37, qb51, qb63]; rfl), N0, rfl⟩
          by_cases hc6 : j4_0 < (4 : Int32)
          · refine Wlk.of (fun _ k => XS.icmpYes X4.here hx rfl (pc0 := 63) (pc' := 73) rfl (hb hby d6_63) rfl (tlt hc6).1 (by decide) (by decide) k) ?_
            show Wlk p.tables e below (T4.setTop (mkF m 73 #[iv j4_0, iv j4_1] [])) K
            exact J5 _ X4 e4 _ _ (by rw [if_pos hc6]) (by rw [if_pos hc6])
          · refine Wlk.of (fun _ k => XS.icmpNo X4.here hx rfl (hb hby d6_63) rfl (flt hc6).1 k) ?_
            show Wlk p.tables e below (T4.setTop (mkF m 66 #[iv j4_0, iv j4_1] [])) K
            refine Wlk.of (fun _ k => XS.iinc X4.here hx rfl (hb hby d6_66) rfl (l' := #[iv j4_0, iv (j4_1 + (-2 : Int32))]) rfl k) ?_
            show Wlk p.tables e below (T4.setTop (mkF m 69 #[iv j4_0, iv (j4_1 + (-2 : Int32))] [])) K
            refine Wlk.of (fun _ k => XS.iloadN X4.here hx rfl (hb hby d6_69) rfl k) ?_
            show Wlk p.tables e below (T4.setTop (mkF m 70 #[iv j4_0, iv (j4_1 + (-2 : Int32))] [(.int j4_0)])) K
            refine Wlk.of (fun _ k => XS.iconst X4.here hx rfl (hb hby d6_70) k) ?_
            show Wlk p.tables e below (T4.setTop (mkF m 71 #[iv j4_0, iv (j4_1 + (-2 : Int32))] [(.int (2 : Int32)), (.int j4_0)])) K
            refine Wlk.of (fun _ k => XS.iushr X4.here hx rfl (hb hby d6_71) rfl k) ?_
            show Wlk p.tables e below (T4.setTop (mkF m 72 #[iv j4_0, iv (j4_1 + (-2 : Int32))] [(.int ((j4_0.toUInt32 >>> ((2 : Int32) &&& 31).toUInt32).toInt32))])) K
            refine Wlk.of (fun _ k => XS.istoreN X4.here hx rfl (hb hby d6_72) rfl (l' := #[iv ((j4_0.toUInt32 >>> ((2 : Int32) &&& 31).toUInt32).toInt32), iv (j4_1 + (-2 : Int32))]) rfl k) ?_
            show Wlk p.tables e below (T4.setTop (mkF m 73 #[iv ((j4_0.toUInt32 >>> ((2 : Int32) &&& 31).toUInt32).toInt32), iv (j4_1 + (-2 : Int32))] [])) K
            exact J5 _ X4 e4 _ _ (by rw [if_neg hc6]) (by rw [if_neg hc6])
        by_cases hc7 : j3_0 < (16 : Int32)
        · refine Wlk.of (fun _ k => XS.icmpYes X3.here hx rfl (pc0 := 51) (pc' := 61) rfl (hb hby d6_51) rfl (tlt hc7).1 (by decide) (by decide) k) ?_
          show Wlk p.tables e below (T3.setTop (mkF m 61 #[iv j3_0, iv j3_1] [])) K
          exact J4 _ X3 e3 _ _ (by rw [if_pos hc7]) (by rw [if_pos hc7])
        · refine Wlk.of (fun _ k => XS.icmpNo X3.here hx rfl (hb hby d6_51) rfl (flt hc7).1 k) ?_
          show Wlk p.tables e below (T3.setTop (mkF m 54 #[iv j3_0, iv j3_1] [])) K
          refine Wlk.of (fun _ k => XS.iinc X3.here hx rfl (hb hby d6_54) rfl (l' := #[iv j3_0, iv (j3_1 + (-4 : Int32))]) rfl k) ?_
          show Wlk p.tables e below (T3.setTop (mkF m 57 #[iv j3_0, iv (j3_1 + (-4 : Int32))] [])) K
          refine Wlk.of (fun _ k => XS.iloadN X3.here hx rfl (hb hby d6_57) rfl k) ?_
          show Wlk p.tables e below (T3.setTop (mkF m 58 #[iv j3_0, iv (j3_1 + (-4 : Int32))] [(.int j3_0)])) K
          refine Wlk.of (fun _ k => XS.iconst X3.here hx rfl (hb hby d6_58) k) ?_
          show Wlk p.tables e below (T3.setTop (mkF m 59 #[iv j3_0, iv (j3_1 + (-4 : Int32))] [(.int (4 : Int32)), (.int j3_0)])) K
          refine Wlk.of (fun _ k => XS.iushr X3.here hx rfl (hb hby d6_59) rfl k) ?_
          show Wlk p.tables e below (T3.setTop (mkF m 60 #[iv j3_0, iv (j3_1 + (-4 : Int32))] [(.int ((j3_0.toUInt32 >>> ((4 : Int32) &&& 31).toUInt32).toInt32))])) K
          refine Wlk.of (fun _ k => XS.istoreN X3.here hx rfl (hb hby d6_60) rfl (l' := #[iv ((j3_0.toUInt32 >>> ((4 : Int32) &&& 31).toUInt32).toInt32), iv (j3_1 + (-4 : Int32))]) rfl k) ?_
          show Wlk p.tables e below (T3.setTop (mkF m 61 #[iv ((j3_0.toUInt32 >>> ((4 : Int32) &&& 31).toUInt32).toInt32), iv (j3_1 + (-4 : Int32))] [])) K
          exact J4 _ X3 e3 _ _ (by rw [if_neg hc7]) (by rw [if_neg hc7])
      by_cases hc8 : j2_0 < (256 : Int32)
      · refine Wlk.of (fun _ k => XS.icmpYes X2.here hx rfl (pc0 := 37) (pc' := 48) rfl (hb hby d6_37) rfl (tlt hc8).1 (by decide) (by decide) k) ?_
        show Wlk p.tables e below (T2.setTop (mkF m 48 #[iv j2_0, iv j2_1] [])) K
        exact J3 _ X2 e2 _ _ (by rw [if_pos hc8]) (by rw [if_pos hc8])
      · refine Wlk.of (fun _ k => XS.icmpNo X2.here hx rfl (hb hby d6_37) rfl (flt hc8).1 k) ?_
        show Wlk p.tables e below (T2.setTop (mkF m 40 #[iv j2_0, iv j2_1] [])) K
        refine Wlk.of (fun _ k => XS.iinc X2.here hx rfl (hb hby d6_40) rfl (l' := #[iv j2_0, iv (j2_1 + (-8 : Int32))]) rfl k) ?_
        show Wlk p.tables e below (T2.setTop (mkF m 43 #[iv j2_0, iv (j2_1 + (-8 : Int32))] [])) K
        refine Wlk.of (fun _ k => XS.iloadN X2.here hx rfl (hb hby d6_43) rfl k) ?_
        show Wlk p.tables e below (T2.setTop (mkF m 44 #[iv j2_0, iv (j2_1 + (-8 : Int32))] [(.int j2_0)])) K
        refine Wlk.of (fun _ k => XS.bipush X2.here hx rfl (hb hby d6_44) k) ?_
        show Wlk p.tables e below (T2.setTop (mkF m 46 #[iv j2_0, iv (j2_1 + (-8 : Int32))] [(.int (8 : Int32)), (.int j2_0)])) K
        refine Wlk.of (fun _ k => XS.iushr X2.here hx rfl (hb hby d6_46) rfl k) ?_
        show Wlk p.tables e below (T2.setTop (mkF m 47 #[iv j2_0, iv (j2_1 + (-8 : Int32))] [(.int ((j2_0.toUInt32 >>> ((8 : Int32) &&& 31).toUInt32).toInt32))])) K
        refine Wlk.of (fun _ k => XS.istoreN X2.here hx rfl (hb hby d6_47) rfl (l' := #[iv ((j2_0.toUInt32 >>> ((8 : Int32) &&& 31).toUInt32).toInt32), iv (j2_1 + (-8 : Int32))]) rfl k) ?_
        show Wlk p.tables e below (T2.setTop (mkF m 48 #[iv ((j2_0.toUInt32 >>> ((8 : Int32) &&& 31).toUInt32).toInt32), iv (j2_1 + (-8 : Int32))] [])) K
        exact J3 _ X2 e2 _ _ (by rw [if_neg hc8]) (by rw [if_neg hc8])
    by_cases hc9 : i < (65536 : Int32)
    · refine Wlk.of (fun _ k => XS.icmpYes X0.here hx rfl (pc0 := 22) (pc' := 33) rfl (hb hby d6_22) rfl (tlt hc9).1 (by decide) (by decide) k) ?_
      show Wlk p.tables e below (s₁.setTop (mkF m 33 #[iv i, iv (31 : Int32)] [])) K
      exact J2 _ X0 e0 _ _ (by rw [if_pos hc9]) (by rw [if_pos hc9])
    · refine Wlk.of (fun _ k => XS.icmpNo X0.here hx rfl (hb hby d6_22) rfl (flt hc9).1 k) ?_
      show Wlk p.tables e below (s₁.setTop (mkF m 25 #[iv i, iv (31 : Int32)] [])) K
      refine Wlk.of (fun _ k => XS.iinc X0.here hx rfl (hb hby d6_25) rfl (l' := #[iv i, iv (15 : Int32)]) rfl k) ?_
      show Wlk p.tables e below (s₁.setTop (mkF m 28 #[iv i, iv (15 : Int32)] [])) K
      refine Wlk.of (fun _ k => XS.iloadN X0.here hx rfl (hb hby d6_28) rfl k) ?_
      show Wlk p.tables e below (s₁.setTop (mkF m 29 #[iv i, iv (15 : Int32)] [(.int i)])) K
      refine Wlk.of (fun _ k => XS.bipush X0.here hx rfl (hb hby d6_29) k) ?_
      show Wlk p.tables e below (s₁.setTop (mkF m 31 #[iv i, iv (15 : Int32)] [(.int (16 : Int32)), (.int i)])) K
      refine Wlk.of (fun _ k => XS.iushr X0.here hx rfl (hb hby d6_31) rfl k) ?_
      show Wlk p.tables e below (s₁.setTop (mkF m 32 #[iv i, iv (15 : Int32)] [(.int ((i.toUInt32 >>> ((16 : Int32) &&& 31).toUInt32).toInt32))])) K
      refine Wlk.of (fun _ k => XS.istoreN X0.here hx rfl (hb hby d6_32) rfl (l' := #[iv ((i.toUInt32 >>> ((16 : Int32) &&& 31).toUInt32).toInt32), iv (15 : Int32)]) rfl k) ?_
      show Wlk p.tables e below (s₁.setTop (mkF m 33 #[iv ((i.toUInt32 >>> ((16 : Int32) &&& 31).toUInt32).toInt32), iv (15 : Int32)] [])) K
      exact J2 _ X0 e0 _ _ (by rw [if_neg hc9]) (by rw [if_neg hc9])
  · refine Wlk.of (fun _ k => XS.ifNo X0.here hx rfl (hb hby d6_1) rfl ((if0 _ _).trans (flt hc1).2.2.1) k) ?_
    show Wlk p.tables e below (s₁.setTop (mkF m 4 #[iv i, un] [])) K
    refine Wlk.of (fun _ k => XS.iloadN X0.here hx rfl (hb hby d6_4) rfl k) ?_
    show Wlk p.tables e below (s₁.setTop (mkF m 5 #[iv i, un] [(.int i)])) K
    by_cases hc10 : i = (0 : Int32)
    · refine Wlk.of (fun _ k => XS.ifNo X0.here hx rfl (hb hby d6_5) rfl ((if0 _ _).trans (teq hc10).2) k) ?_
      show Wlk p.tables e below (s₁.setTop (mkF m 8 #[iv i, un] [])) K
      refine Wlk.of (fun _ k => XS.bipush X0.here hx rfl (hb hby d6_8) k) ?_
      show Wlk p.tables e below (s₁.setTop (mkF m 10 #[iv i, un] [(.int (32 : Int32))])) K
      refine Wlk.of (fun _ k => XS.goto X0.here hx rfl (pc0 := 10) (pc' := 14) rfl (hb hby d6_10) (by decide) (by decide) k) ?_
      show Wlk p.tables e below (s₁.setTop (mkF m 14 #[iv i, un] [(.int (32 : Int32))])) K
      refine hK (some (.int (32 : Int32))) X0 (fun q => by cases q) (fun fs hr => retOut X0 hx hret rfl (Or.inl ⟨rfl, Or.inl rfl, _, rfl⟩) (hb hby d6_14) hr) ?_ (by decide) (by decide)
      rw [show s₁.heap = h0 from e0]
      exact ⟨(by unfold nlz32; rw [if_neg (show ¬ i > 0 from hc1), if_pos hc10]), N0, rfl⟩
    · refine Wlk.of (fun _ k => XS.ifYes X0.here hx rfl (pc0 := 5) (pc' := 13) rfl (hb hby d6_5) rfl ((if0 _ _).trans (feq hc10).2) (by decide) (by decide) k) ?_
      show Wlk p.tables e below (s₁.setTop (mkF m 13 #[iv i, un] [])) K
      refine Wlk.of (fun _ k => XS.iconst X0.here hx rfl (hb hby d6_13) k) ?_
      show Wlk p.tables e below (s₁.setTop (mkF m 14 #[iv i, un] [(.int (0 : Int32))])) K
      refine hK (some (.int (0 : Int32))) X0 (fun q => by cases q) (fun fs hr => retOut X0 hx hret rfl (Or.inl ⟨rfl, Or.inl rfl, _, rfl⟩) (hb hby d6_14) hr) ?_ (by decide) (by decide)
      rw [show s₁.heap = h0 from e0]
      exact ⟨(by unfold nlz32; rw [if_neg (show ¬ i > 0 from hc1), if_neg hc10]), N0, rfl⟩
theorem pd_64 : parseMethodDescriptor "(I)I" = some ⟨[.int], some .int⟩ := by decide +kernel
theorem d5_0 : decode jdk_35_method_48_code 0 = .ok (.lload_n 0, 1) := by decide +kernel
theorem d5_1 : decode jdk_35_method_48_code 1 = .ok (.bipush 32, 2) := by decide +kernel
theorem d5_3 : decode jdk_35_method_48_code 3 = .ok (.lushr, 1) := by decide +kernel
theorem d5_4 : decode jdk_35_method_48_code 4 = .ok (.l2i, 1) := by decide +kernel
theorem d5_5 : decode jdk_35_method_48_code 5 = .ok (.istore_n 2, 1) := by decide +kernel
theorem d5_6 : decode jdk_35_method_48_code 6 = .ok (.iload_n 2, 1) := by decide +kernel
theorem d5_7 : decode jdk_35_method_48_code 7 = .ok (.ifCond .ne 14, 3) := by decide +kernel
theorem d5_10 : decode jdk_35_method_48_code 10 = .ok (.bipush 32, 2) := by decide +kernel
theorem d5_12 : decode jdk_35_method_48_code 12 = .ok (.lload_n 0, 1) := by decide +kernel
theorem d5_13 : decode jdk_35_method_48_code 13 = .ok (.l2i, 1) := by decide +kernel
theorem d5_14 : decode jdk_35_method_48_code 14 = .ok (.invokestatic 308, 3) := by decide +kernel
theorem d5_17 : decode jdk_35_method_48_code 17 = .ok (.iadd, 1) := by decide +kernel
theorem d5_18 : decode jdk_35_method_48_code 18 = .ok (.goto 7, 3) := by decide +kernel
theorem d5_21 : decode jdk_35_method_48_code 21 = .ok (.iload_n 2, 1) := by decide +kernel
theorem d5_22 : decode jdk_35_method_48_code 22 = .ok (.invokestatic 308, 3) := by decide +kernel
theorem d5_25 : decode jdk_35_method_48_code 25 = .ok (.ireturn, 1) := by decide +kernel
theorem pn_81 : plainName "java/lang/Long" = true := by first | (simp [plainName, overriddenIn]; done) | decide +kernel
theorem ef_rmG (m : MethodId) (z : Int64) : entryFrame m #[(.long z)] 3 = mkF m 0 #[jv z, sd, un] [] := by first | (simp [entryFrame, mkF, argsToLocals, Value.category]; done) | rfl
def Q_rmG (Z : State) (z : Int64) (h0 : Heap) (n0 : Nat) (v : Option Value) (h : Heap) (L : List Loc) : Prop := v = (some (.int (nlz64 z))) ∧ Fr n0 L ∧ h = h0
set_option maxRecDepth 65536 in
set_option maxHeartbeats 40000000 in
theorem rmG (l : Launch) (Z : State) (a0 : Array Value) (hw : ∀ d ∈ tables_1, d.before a0 Z = true) (z : Int64) (h0 : Heap) (n0 : Nat) (Z0 : n0 ≤ h0.size) :
    Ctr l Z h0 (⟨"java/lang/Long", "numberOfLeadingZeros", "(J)I"⟩ : MethodName) jdk_35_method_48_code 3 (some .int) [] ({ frames := 1, cells := 0, slots := 0, locals := 14 } : Room) #[(.long z)] (Q_rmG Z z h0 n0) := by
  refine Ctr.make (plainFor_of_name pn_81) fun p e s m below meth c s₁ K hret hml hx hby hown hnm hZ X0 e0 hK => ?_
  have hown : s.vm.findClass "java/lang/Long" = some m.cls := hown
  have N0 := Fr.nil n0
  have K0 : Keep h0 h0 [] := Keep.refl _ _
  refine Wlk.of (fun _ k => castTop (ef_rmG m z) k) ?_
  show Wlk p.tables e below (s₁.setTop (mkF m 0 #[jv z, sd, un] [])) K
  refine Wlk.of (fun _ k => XS.lloadN X0.here hx rfl (hb hby d5_0) rfl k) ?_
  show Wlk p.tables e below (s₁.setTop (mkF m 1 #[jv z, sd, un] [(.long z)])) K
  refine Wlk.of (fun _ k => XS.bipush X0.here hx rfl (hb hby d5_1) k) ?_
  show Wlk p.tables e below (s₁.setTop (mkF m 3 #[jv z, sd, un] [(.int (32 : Int32)), (.long z)])) K
  refine Wlk.of (fun _ k => XS.lushr X0.here hx rfl (hb hby d5_3) rfl k) ?_
  show Wlk p.tables e below (s₁.setTop (mkF m 4 #[jv z, sd, un] [(.long ((z.toUInt64 >>> ((32 : Int32) &&& 0x3f).toInt64.toUInt64).toInt64))])) K
  refine Wlk.of (fun _ k => XS.l2i X0.here hx rfl (hb hby d5_4) rfl k) ?_
  show Wlk p.tables e below (s₁.setTop (mkF m 5 #[jv z, sd, un] [(.int (((z.toUInt64 >>> ((32 : Int32) &&& 0x3f).toInt64.toUInt64).toInt64).toInt32))])) K
  refine Wlk.of (fun _ k => XS.istoreN X0.here hx rfl (hb hby d5_5) rfl (l' := #[jv z, sd, iv (((z.toUInt64 >>> ((32 : Int32) &&& 0x3f).toInt64.toUInt64).toInt64).toInt32)]) rfl k) ?_
  show Wlk p.tables e below (s₁.setTop (mkF m 6 #[jv z, sd, iv (((z.toUInt64 >>> ((32 : Int32) &&& 0x3f).toInt64.toUInt64).toInt64).toInt32)] [])) K
  refine Wlk.of (fun _ k => XS.iloadN X0.here hx rfl (hb hby d5_6) rfl k) ?_
  show Wlk p.tables e below (s₁.setTop (mkF m 7 #[jv z, sd, iv (((z.toUInt64 >>> ((32 : Int32) &&& 0x3f).toInt64.toUInt64).toInt64).toInt32)] [(.int (((z.toUInt64 >>> ((32 : Int32) &&& 0x3f).toInt64.toUInt64).toInt64).toInt32))])) K
  by_cases hc1 : (((z.toUInt64 >>> ((32 : Int32) &&& 0x3f).toInt64.toUInt64).toInt64).toInt32) = (0 : Int32)
  · refine Wlk.of (fun _ k => XS.ifNo X0.here hx rfl (hb hby d5_7) rfl ((if0 _ _).trans (teq hc1).2) k) ?_
    show Wlk p.tables e below (s₁.setTop (mkF m 10 #[jv z, sd, iv (((z.toUInt64 >>> ((32 : Int32) &&& 0x3f).toInt64.toUInt64).toInt64).toInt32)] [])) K
    refine Wlk.of (fun _ k => XS.bipush X0.here hx rfl (hb hby d5_10) k) ?_
    show Wlk p.tables e below (s₁.setTop (mkF m 12 #[jv z, sd, iv (((z.toUInt64 >>> ((32 : Int32) &&& 0x3f).toInt64.toUInt64).toInt64).toInt32)] [(.int (32 : Int32))])) K
    refine Wlk.of (fun _ k => XS.lloadN X0.here hx rfl (hb hby d5_12) rfl k) ?_
    show Wlk p.tables e below (s₁.setTop (mkF m 13 #[jv z, sd, iv (((z.toUInt64 >>> ((32 : Int32) &&& 0x3f).toInt64.toUInt64).toInt64).toInt32)] [(.long z), (.int (32 : Int32))])) K
    refine Wlk.of (fun _ k => XS.l2i X0.here hx rfl (hb hby d5_13) rfl k) ?_
    show Wlk p.tables e below (s₁.setTop (mkF m 14 #[jv z, sd, iv (((z.toUInt64 >>> ((32 : Int32) &&& 0x3f).toInt64.toUInt64).toInt64).toInt32)] [(.int (z.toInt32)), (.int (32 : Int32))])) K
    obtain ⟨v2, T2, L2, X2, q2, st2⟩ := Ctr.static (rmN l Z a0 hw ((z.toInt32)) h0 n0 (Nat.le_trans Z0 K0.1) ) X0 hx hZ e0 hown (wd hw 26 rfl) (wd hw 27 rfl) (wd hw 28 rfl) (wd hw 29 rfl) (by decide) pd_64 (g := (mkF m 14 #[jv z, sd, iv (((z.toUInt64 >>> ((32 : Int32) &&& 0x3f).toInt64.toUInt64).toInt64).toInt32)] [(.int (z.toInt32)), (.int (32 : Int32))])) rfl (by rw [hml]; rfl) (argsL := [(.int (z.toInt32))]) (rest := [(.int (32 : Int32))]) rfl rfl rfl (W := 1) (by show 2 * 0 + _ ≤ _; exact Nat.le_of_eq rfl) (by decide) (by decide) (hb hby d5_14) (by decide) (by decide)
    obtain ⟨rfl, N2q, hh2⟩ := q2
    have N3 := Fr.app N0 N2q
    refine Wlk.of (fun _ k => st2 _ k) ?_
    show Wlk p.tables e below (T2.setTop (mkF m 17 #[jv z, sd, iv (((z.toUInt64 >>> ((32 : Int32) &&& 0x3f).toInt64.toUInt64).toInt64).toInt32)] [(.int (nlz32 (z.toInt32))), (.int (32 : Int32))])) K
    refine Wlk.of (fun _ k => XS.iadd X2.here hx rfl (hb hby d5_17) rfl k) ?_
    show Wlk p.tables e below (T2.setTop (mkF m 18 #[jv z, sd, iv (((z.toUInt64 >>> ((32 : Int32) &&& 0x3f).toInt64.toUInt64).toInt64).toInt32)] [(.int ((32 : Int32) + (nlz32 (z.toInt32))))])) K
    refine Wlk.of (fun _ k => XS.goto X2.here hx rfl (pc0 := 18) (pc' := 25) rfl (hb hby d5_18) (by decide) (by decide) k) ?_
    show Wlk p.tables e below (T2.setTop (mkF m 25 #[jv z, sd, iv (((z.toUInt64 >>> ((32 : Int32) &&& 0x3f).toInt64.toUInt64).toInt64).toInt32)] [(.int ((32 : Int32) + (nlz32 (z.toInt32))))])) K
    refine hK (some (.int ((32 : Int32) + (nlz32 (z.toInt32))))) X2 (fun q => by cases q) (fun fs hr => retOut X2 hx hret rfl (Or.inl ⟨rfl, Or.inl rfl, _, rfl⟩) (hb hby d5_25) hr) ?_ (by decide) (by decide)
    rw [show T2.heap = h0 from hh2]
    exact ⟨(by unfold nlz64; rw [if_pos (show hi32 z = 0 from hc1)] <;> rfl), N3, rfl⟩
  · refine Wlk.of (fun _ k => XS.ifYes X0.here hx rfl (pc0 := 7) (pc' := 21) rfl (hb hby d5_7) rfl ((if0 _ _).trans (feq hc1).2) (by decide) (by decide) k) ?_
    show Wlk p.tables e below (s₁.setTop (mkF m 21 #[jv z, sd, iv (((z.toUInt64 >>> ((32 : Int32) &&& 0x3f).toInt64.toUInt64).toInt64).toInt32)] [])) K
    refine Wlk.of (fun _ k => XS.iloadN X0.here hx rfl (hb hby d5_21) rfl k) ?_
    show Wlk p.tables e below (s₁.setTop (mkF m 22 #[jv z, sd, iv (((z.toUInt64 >>> ((32 : Int32) &&& 0x3f).toInt64.toUInt64).toInt64).toInt32)] [(.int (((z.toUInt64 >>> ((32 : Int32) &&& 0x3f).toInt64.toUInt64).toInt64).toInt32))])) K
    obtain ⟨v4, T4, L4, X4, q4, st4⟩ := Ctr.static (rmN l Z a0 hw ((((z.toUInt64 >>> ((32 : Int32) &&& 0x3f).toInt64.toUInt64).toInt64).toInt32)) h0 n0 (Nat.le_trans Z0 K0.1) ) X0 hx hZ e0 hown (wd hw 26 rfl) (wd hw 27 rfl) (wd hw 28 rfl) (wd hw 29 rfl) (by decide) pd_64 (g := (mkF m 22 #[jv z, sd, iv (((z.toUInt64 >>> ((32 : Int32) &&& 0x3f).toInt64.toUInt64).toInt64).toInt32)] [(.int (((z.toUInt64 >>> ((32 : Int32) &&& 0x3f).toInt64.toUInt64).toInt64).toInt32))])) rfl (by rw [hml]; rfl) (argsL := [(.int (((z.toUInt64 >>> ((32 : Int32) &&& 0x3f).toInt64.toUInt64).toInt64).toInt32))]) (rest := []) rfl rfl rfl (W := 0) (by show 2 * 0 + _ ≤ _; exact Nat.le_of_eq rfl) (by decide) (by decide) (hb hby d5_22) (by decide) (by decide)
    obtain ⟨rfl, N4q, hh4⟩ := q4
    have N5 := Fr.app N0 N4q
    refine Wlk.of (fun _ k => st4 _ k) ?_
    show Wlk p.tables e below (T4.setTop (mkF m 25 #[jv z, sd, iv (((z.toUInt64 >>> ((32 : Int32) &&& 0x3f).toInt64.toUInt64).toInt64).toInt32)] [(.int (nlz32 (((z.toUInt64 >>> ((32 : Int32) &&& 0x3f).toInt64.toUInt64).toInt64).toInt32)))])) K
    refine hK (some (.int (nlz32 (((z.toUInt64 >>> ((32 : Int32) &&& 0x3f).toInt64.toUInt64).toInt64).toInt32)))) X4 (fun q => by cases q) (fun fs hr => retOut X4 hx hret rfl (Or.inl ⟨rfl, Or.inl rfl, _, rfl⟩) (hb hby d5_25) hr) ?_ (by decide) (by decide)
    rw [show T4.heap = h0 from hh4]
    exact ⟨(by unfold nlz64; rw [if_neg (show ¬ hi32 z = 0 from hc1)] <;> rfl), N5, rfl⟩
theorem d1_0 : decode prog_42_method_1_code 0 = .ok (.aload_n 0, 1) := by decide +kernel
theorem d1_1 : decode prog_42_method_1_code 1 = .ok (.invokespecial 3, 3) := by decide +kernel
theorem d1_4 : decode prog_42_method_1_code 4 = .ok (.aload_n 0, 1) := by decide +kernel
theorem d1_5 : decode prog_42_method_1_code 5 = .ok (.sipush 7296, 3) := by decide +kernel
theorem d1_8 : decode prog_42_method_1_code 8 = .ok (.newarray .long, 2) := by decide +kernel
theorem d1_10 : decode prog_42_method_1_code 10 = .ok (.putfield 9, 3) := by decide +kernel
theorem d1_13 : decode prog_42_method_1_code 13 = .ok (.return_, 1) := by decide +kernel
theorem pn_89 : plainName "com/example/eimer/eimer/cli/Latencies" = true := by first | (simp [plainName, overriddenIn]; done) | decide +kernel
theorem ef_rmI (m : MethodId) (a : Addr) : entryFrame m #[(.ref a)] 1 = mkF m 0 #[rv a] [] := by first | (simp [entryFrame, mkF, argsToLocals, Value.category]; done) | rfl
def Q_rmI (Z : State) (a : Addr) (h0 : Heap) (n0 : Nat) (v : Option Value) (h : Heap) (L : List Loc) : Prop := ∃ ca : Addr, v = none ∧ Fr n0 L ∧ Keep h0 h [a] ∧ h0.size ≤ ca ∧ Fld Z h a "com/example/eimer/eimer/cli/Latencies" "counts" "[J" (.ref ca) ∧ Fld Z h a "com/example/eimer/eimer/cli/Latencies" "total" "J" (.long (0 : Int64)) ∧ Arl Z h ca .long (own_vs own_zero)
set_option maxRecDepth 65536 in
set_option maxHeartbeats 40000000 in
theorem rmI (l : Launch) (Z : State) (a0 : Array Value) (hw : ∀ d ∈ tables_1, d.before a0 Z = true) (a : Addr) (h0 : Heap) (n0 : Nat) (Z0 : n0 ≤ h0.size) (E_a : Exa Z h0 a "com/example/eimer/eimer/cli/Latencies") (F_a_counts : Fld Z h0 a "com/example/eimer/eimer/cli/Latencies" "counts" "[J" .null) (F_a_total : Fld Z h0 a "com/example/eimer/eimer/cli/Latencies" "total" "J" (.long (0 : Int64))) (g_a : n0 ≤ a) :
    Ctr l Z h0 (⟨"com/example/eimer/eimer/cli/Latencies", "<init>", "()V"⟩ : MethodName) prog_42_method_1_code 1 none [] ({ frames := 1, cells := 1, slots := 7296, locals := 12 } : Room) #[(.ref a)] (Q_rmI Z a h0 n0) := by
  refine Ctr.make (plainFor_of_name pn_89) fun p e s m below meth c s₁ K hret hml hx hby hown hnm hZ X0 e0 hK => ?_
  have hown : s.vm.findClass "com/example/eimer/eimer/cli/Latencies" = some m.cls := hown
  have N0 := Fr.nil n0
  have K0 : Keep h0 h0 [a] := Keep.refl _ _
  refine Wlk.of (fun _ k => castTop (ef_rmI m a) k) ?_
  show Wlk p.tables e below (s₁.setTop (mkF m 0 #[rv a] [])) K
  refine Wlk.of (fun _ k => XS.aloadN X0.here hx rfl (hb hby d1_0) rfl rfl k) ?_
  show Wlk p.tables e below (s₁.setTop (mkF m 1 #[rv a] [(.ref a)])) K
  obtain ⟨T1, X1, e1, st1⟩ := initO X0 hx hZ hown (wd hw 7 rfl) (wd hw 8 rfl) (wd hw 9 rfl) e0 (g := (mkF m 1 #[rv a] [(.ref a)])) rfl (by rw [hml]; rfl) rfl (hb hby d1_1) (by decide) (W := 0) (by show 2 * 0 + _ ≤ _; exact Nat.le_of_eq rfl) (by decide)
  refine Wlk.of (fun _ k => st1 _ k) ?_
  show Wlk p.tables e below (T1.setTop (mkF m 4 #[rv a] [])) K
  refine Wlk.of (fun _ k => XS.aloadN X1.here hx rfl (hb hby d1_4) rfl rfl k) ?_
  show Wlk p.tables e below (T1.setTop (mkF m 5 #[rv a] [(.ref a)])) K
  refine Wlk.of (fun _ k => XS.sipush X1.here hx rfl (hb hby d1_5) k) ?_
  show Wlk p.tables e below (T1.setTop (mkF m 8 #[rv a] [(.int (7296 : Int32)), (.ref a)])) K
  obtain ⟨T2, h2, X2, e2, E2, A2, st2⟩ := newL X1 hx hZ (wd hw 10 rfl) e1 (g := (mkF m 8 #[rv a] [(.int (7296 : Int32)), (.ref a)])) rfl (hb hby d1_8) rfl (by decide) (cap := 7296) (by decide) (by decide) (by decide) (by decide)
  obtain ⟨b2, g2⟩ : ∃ z, z = h0.size := ⟨_, rfl⟩
  rw [← g2] at A2 st2
  have ne3 : a ≠ b2 := Nat.ne_of_lt (Nat.lt_of_lt_of_le E_a.lt (Nat.le_of_eq g2.symm))
  have sz_b2 : h0.size ≤ b2 := Nat.le_trans K0.1 (Nat.le_of_eq g2.symm)
  have g_b2 : n0 ≤ b2 := Nat.le_trans Z0 sz_b2
  have K5 : Keep h0 h2 [a] := K0.ext E2
  have A_b2 : Arl Z h2 b2 .long (own_vs own_zero) := by rw [own_new]; exact A2
  refine Wlk.of (fun _ k => st2 _ k) ?_
  show Wlk p.tables e below (T2.setTop (mkF m 10 #[rv a] [(.ref b2), (.ref a)])) K
  have f6 : Fld Z h2 a "com/example/eimer/eimer/cli/Latencies" "counts" "[J" .null := (F_a_counts.ext E2)
  have f7 : Exa Z h2 a "com/example/eimer/eimer/cli/Latencies" := (E_a.ext E2)
  obtain ⟨T8, h8, X8, e8, W8, st8⟩ := putF X2 hx hZ hown (host := "") (Or.inl (wd hw 11 rfl)) Via.refl e2 f6 f7 (Or.inr ⟨(wd hw 12 rfl), rfl, hnm⟩) (wd hw 2 rfl) (ty := (.array .long)) (by decide) rfl rfl (g := (mkF m 10 #[rv a] [(.ref b2), (.ref a)])) rfl rfl (hb hby d1_10)
  have Fw8 := f6.same W8
  refine Wlk.of (fun _ k => st8 _ k) ?_
  have K9 : Keep h0 h8 [a] := K5.wr W8 (Or.inl (List.mem_of_getElem? (i := 0) rfl))
  have N10 := Fr.snoc X8 N0 g_a
  show Wlk p.tables e below (T8.setTop (mkF m 13 #[rv a] [])) K
  have f11 : Fld Z h8 a "com/example/eimer/eimer/cli/Latencies" "total" "J" (.long (0 : Int64)) := ((F_a_total.ext E2).other W8 (Or.inr (slot_ne (Or.inl (wd hw 35 rfl)) (Or.inr (wd hw 12 rfl)) (by decide) (t := .long) (t' := (.array .long)) (by decide) (by decide))))
  have f12 : Arl Z h8 b2 .long (own_vs own_zero) := (A_b2.other W8 (Ne.symm ne3))
  refine hK none X8 (fun q => rfl) (fun fs hr => X8.returnOut hx hret (hb hby d1_13) hr) ?_ (by decide) (by decide)
  rw [show T8.heap = h8 from e8]
  exact ⟨b2, rfl, N10, K9, sz_b2, Fw8, f11, f12⟩
theorem pd_90 : parseMethodDescriptor "(JJ)J" = some ⟨[.long, .long], some .long⟩ := by decide +kernel
theorem pd_91 : parseMethodDescriptor "(J)I" = some ⟨[.long], some .int⟩ := by decide +kernel
theorem pd_92 : parseMethodDescriptor "(II)I" = some ⟨[.int, .int], some .int⟩ := by decide +kernel
theorem d3_0 : decode prog_42_method_2_code 0 = .ok (.lconst 0, 1) := by decide +kernel
theorem d3_1 : decode prog_42_method_2_code 1 = .ok (.lload_n 1, 1) := by decide +kernel
theorem d3_2 : decode prog_42_method_2_code 2 = .ok (.invokestatic 13, 3) := by decide +kernel
theorem d3_5 : decode prog_42_method_2_code 5 = .ok (.lstore_n 3, 1) := by decide +kernel
theorem d3_6 : decode prog_42_method_2_code 6 = .ok (.iconst 0, 1) := by decide +kernel
theorem d3_7 : decode prog_42_method_2_code 7 = .ok (.bipush 63, 2) := by decide +kernel
theorem d3_9 : decode prog_42_method_2_code 9 = .ok (.lload_n 3, 1) := by decide +kernel
theorem d3_10 : decode prog_42_method_2_code 10 = .ok (.invokestatic 19, 3) := by decide +kernel
theorem d3_13 : decode prog_42_method_2_code 13 = .ok (.isub, 1) := by decide +kernel
theorem d3_14 : decode prog_42_method_2_code 14 = .ok (.bipush 7, 2) := by decide +kernel
theorem d3_16 : decode prog_42_method_2_code 16 = .ok (.isub, 1) := by decide +kernel
theorem d3_17 : decode prog_42_method_2_code 17 = .ok (.invokestatic 25, 3) := by decide +kernel
theorem d3_20 : decode prog_42_method_2_code 20 = .ok (.istore 5, 2) := by decide +kernel
theorem d3_22 : decode prog_42_method_2_code 22 = .ok (.aload_n 0, 1) := by decide +kernel
theorem d3_23 : decode prog_42_method_2_code 23 = .ok (.getfield 9, 3) := by decide +kernel
theorem d3_26 : decode prog_42_method_2_code 26 = .ok (.iload 5, 2) := by decide +kernel
theorem d3_28 : decode prog_42_method_2_code 28 = .ok (.bipush 7, 2) := by decide +kernel
theorem d3_30 : decode prog_42_method_2_code 30 = .ok (.ishl, 1) := by decide +kernel
theorem d3_31 : decode prog_42_method_2_code 31 = .ok (.lload_n 3, 1) := by decide +kernel
theorem d3_32 : decode prog_42_method_2_code 32 = .ok (.iload 5, 2) := by decide +kernel
theorem d3_34 : decode prog_42_method_2_code 34 = .ok (.lushr, 1) := by decide +kernel
theorem d3_35 : decode prog_42_method_2_code 35 = .ok (.l2i, 1) := by decide +kernel
theorem d3_36 : decode prog_42_method_2_code 36 = .ok (.iadd, 1) := by decide +kernel
theorem d3_37 : decode prog_42_method_2_code 37 = .ok (.dup2, 1) := by decide +kernel
theorem d3_38 : decode prog_42_method_2_code 38 = .ok (.laload, 1) := by decide +kernel
theorem d3_39 : decode prog_42_method_2_code 39 = .ok (.lconst 1, 1) := by decide +kernel
theorem d3_40 : decode prog_42_method_2_code 40 = .ok (.ladd, 1) := by decide +kernel
theorem d3_41 : decode prog_42_method_2_code 41 = .ok (.lastore, 1) := by decide +kernel
theorem d3_42 : decode prog_42_method_2_code 42 = .ok (.aload_n 0, 1) := by decide +kernel
theorem d3_43 : decode prog_42_method_2_code 43 = .ok (.dup, 1) := by decide +kernel
theorem d3_44 : decode prog_42_method_2_code 44 = .ok (.getfield 28, 3) := by decide +kernel
theorem d3_47 : decode prog_42_method_2_code 47 = .ok (.lconst 1, 1) := by decide +kernel
theorem d3_48 : decode prog_42_method_2_code 48 = .ok (.ladd, 1) := by decide +kernel
theorem d3_49 : decode prog_42_method_2_code 49 = .ok (.putfield 28, 3) := by decide +kernel
theorem d3_52 : decode prog_42_method_2_code 52 = .ok (.return_, 1) := by decide +kernel
theorem ef_rmR (m : MethodId) (a : Addr) (z : Int64) : entryFrame m #[(.ref a), (.long z)] 6 = mkF m 0 #[rv a, jv z, sd, un, un, un] [] := by first | (simp [entryFrame, mkF, argsToLocals, Value.category]; done) | rfl
def Q_rmR (Z : State) (a : Addr) (z : Int64) (ca : Addr) (tt : Int64) (f : (Nat → Int64)) (h0 : Heap) (n0 : Nat) (v : Option Value) (h : Heap) (L : List Loc) : Prop := v = none ∧ Fr n0 L ∧ Keep h0 h [a, ca] ∧ Fld Z h a "com/example/eimer/eimer/cli/Latencies" "counts" "[J" (.ref ca) ∧ Fld Z h a "com/example/eimer/eimer/cli/Latencies" "total" "J" (.long (tt + (1 : Int64))) ∧ Arl Z h ca .long (own_vs (own_inc f (own_in z)))
set_option maxRecDepth 65536 in
set_option maxHeartbeats 40000000 in
theorem rmR (l : Launch) (Z : State) (a0 : Array Value) (hw : ∀ d ∈ tables_1, d.before a0 Z = true) (a : Addr) (z : Int64) (ca : Addr) (tt : Int64) (f : (Nat → Int64)) (h0 : Heap) (n0 : Nat) (Z0 : n0 ≤ h0.size) (E_a : Exa Z h0 a "com/example/eimer/eimer/cli/Latencies") (F_a_counts : Fld Z h0 a "com/example/eimer/eimer/cli/Latencies" "counts" "[J" (.ref ca)) (F_a_total : Fld Z h0 a "com/example/eimer/eimer/cli/Latencies" "total" "J" (.long tt)) (A_ca : Arl Z h0 ca .long (own_vs f)) (ne_a_ca : a ≠ ca) (g_a : n0 ≤ a) (g_ca : n0 ≤ ca) :
    Ctr l Z h0 (⟨"com/example/eimer/eimer/cli/Latencies", "record", "(J)V"⟩ : MethodName) prog_42_method_2_code 6 none [] ({ frames := 2, cells := 0, slots := 0, locals := 30 } : Room) #[(.ref a), (.long z)] (Q_rmR Z a z ca tt f h0 n0) := by
  refine Ctr.make (plainFor_of_name pn_89) fun p e s m below meth c s₁ K hret hml hx hby hown hnm hZ X0 e0 hK => ?_
  have hown : s.vm.findClass "com/example/eimer/eimer/cli/Latencies" = some m.cls := hown
  have N0 := Fr.nil n0
  have K0 : Keep h0 h0 [a, ca] := Keep.refl _ _
  refine Wlk.of (fun _ k => castTop (ef_rmR m a z) k) ?_
  show Wlk p.tables e below (s₁.setTop (mkF m 0 #[rv a, jv z, sd, un, un, un] [])) K
  refine Wlk.of (fun _ k => XS.lconst X0.here hx rfl (hb hby d3_0) k) ?_
  show Wlk p.tables e below (s₁.setTop (mkF m 1 #[rv a, jv z, sd, un, un, un] [(.long (0 : Int64))])) K
  refine Wlk.of (fun _ k => XS.lloadN X0.here hx rfl (hb hby d3_1) rfl k) ?_
  show Wlk p.tables e below (s₁.setTop (mkF m 2 #[rv a, jv z, sd, un, un, un] [(.long z), (.long (0 : Int64))])) K
  obtain ⟨v1, T1, L1, X1, q1, st1⟩ := Ctr.static (rmXJ l Z a0 hw (0 : Int64) z h0 n0 (Nat.le_trans Z0 K0.1) ) X0 hx hZ e0 hown (wd hw 18 rfl) (wd hw 19 rfl) (wd hw 20 rfl) (wd hw 21 rfl) (by decide) pd_90 (g := (mkF m 2 #[rv a, jv z, sd, un, un, un] [(.long z), (.long (0 : Int64))])) rfl (by rw [hml]; rfl) (argsL := [(.long (0 : Int64)), (.long z)]) (rest := []) rfl rfl rfl (W := 0) (by show 2 * 0 + _ ≤ _; exact Nat.le_of_eq rfl) (by decide) (by decide) (hb hby d3_2) (by decide) (by decide)
  obtain ⟨rfl, N1q, hh1⟩ := q1
  have N2 := Fr.app N0 N1q
  refine Wlk.of (fun _ k => st1 _ k) ?_
  show Wlk p.tables e below (T1.setTop (mkF m 5 #[rv a, jv z, sd, un, un, un] [(.long (if (0 : Int64) < z then z else (0 : Int64)))])) K
  refine Wlk.of (fun _ k => XS.lstoreN X1.here hx rfl (hb hby d3_5) rfl (l' := #[rv a, jv z, sd, jv (if (0 : Int64) < z then z else (0 : Int64)), sd, un]) rfl k) ?_
  show Wlk p.tables e below (T1.setTop (mkF m 6 #[rv a, jv z, sd, jv (if (0 : Int64) < z then z else (0 : Int64)), sd, un] [])) K
  generalize hv3 : (if (0 : Int64) < z then z else (0 : Int64)) = v3
  refine Wlk.of (fun _ k => XS.iconst X1.here hx rfl (hb hby d3_6) k) ?_
  show Wlk p.tables e below (T1.setTop (mkF m 7 #[rv a, jv z, sd, jv v3, sd, un] [(.int (0 : Int32))])) K
  refine Wlk.of (fun _ k => XS.bipush X1.here hx rfl (hb hby d3_7) k) ?_
  show Wlk p.tables e below (T1.setTop (mkF m 9 #[rv a, jv z, sd, jv v3, sd, un] [(.int (63 : Int32)), (.int (0 : Int32))])) K
  refine Wlk.of (fun _ k => XS.lloadN X1.here hx rfl (hb hby d3_9) rfl k) ?_
  show Wlk p.tables e below (T1.setTop (mkF m 10 #[rv a, jv z, sd, jv v3, sd, un] [(.long v3), (.int (63 : Int32)), (.int (0 : Int32))])) K
  obtain ⟨v4, T4, L4, X4, q4, st4⟩ := Ctr.static (rmG l Z a0 hw v3 h0 n0 (Nat.le_trans Z0 K0.1) ) X1 hx hZ hh1 hown (wd hw 22 rfl) (wd hw 23 rfl) (wd hw 24 rfl) (wd hw 25 rfl) (by decide) pd_91 (g := (mkF m 10 #[rv a, jv z, sd, jv v3, sd, un] [(.long v3), (.int (63 : Int32)), (.int (0 : Int32))])) rfl (by rw [hml]; rfl) (argsL := [(.long v3)]) (rest := [(.int (63 : Int32)), (.int (0 : Int32))]) rfl rfl rfl (W := 2) (by show 2 * 0 + _ ≤ _; exact Nat.le_of_eq rfl) (by decide) (by decide) (hb hby d3_10) (by decide) (by decide)
  obtain ⟨rfl, N4q, hh4⟩ := q4
  have N5 := Fr.app N2 N4q
  refine Wlk.of (fun _ k => st4 _ k) ?_
  show Wlk p.tables e below (T4.setTop (mkF m 13 #[rv a, jv z, sd, jv v3, sd, un] [(.int (nlz64 v3)), (.int (63 : Int32)), (.int (0 : Int32))])) K
  refine Wlk.of (fun _ k => XS.isub X4.here hx rfl (hb hby d3_13) rfl k) ?_
  show Wlk p.tables e below (T4.setTop (mkF m 14 #[rv a, jv z, sd, jv v3, sd, un] [(.int ((63 : Int32) - (nlz64 v3))), (.int (0 : Int32))])) K
  refine Wlk.of (fun _ k => XS.bipush X4.here hx rfl (hb hby d3_14) k) ?_
  show Wlk p.tables e below (T4.setTop (mkF m 16 #[rv a, jv z, sd, jv v3, sd, un] [(.int (7 : Int32)), (.int ((63 : Int32) - (nlz64 v3))), (.int (0 : Int32))])) K
  refine Wlk.of (fun _ k => XS.isub X4.here hx rfl (hb hby d3_16) rfl k) ?_
  show Wlk p.tables e below (T4.setTop (mkF m 17 #[rv a, jv z, sd, jv v3, sd, un] [(.int (((63 : Int32) - (nlz64 v3)) - (7 : Int32))), (.int (0 : Int32))])) K
  obtain ⟨v6, T6, L6, X6, q6, st6⟩ := Ctr.static (rmXI l Z a0 hw (0 : Int32) ((((63 : Int32) - (nlz64 v3)) - (7 : Int32))) h0 n0 (Nat.le_trans Z0 K0.1) ) X4 hx hZ hh4 hown (wd hw 31 rfl) (wd hw 32 rfl) (wd hw 20 rfl) (wd hw 33 rfl) (by decide) pd_92 (g := (mkF m 17 #[rv a, jv z, sd, jv v3, sd, un] [(.int (((63 : Int32) - (nlz64 v3)) - (7 : Int32))), (.int (0 : Int32))])) rfl (by rw [hml]; rfl) (argsL := [(.int (0 : Int32)), (.int (((63 : Int32) - (nlz64 v3)) - (7 : Int32)))]) (rest := []) rfl rfl rfl (W := 0) (by show 2 * 0 + _ ≤ _; exact Nat.le_of_eq rfl) (by decide) (by decide) (hb hby d3_17) (by decide) (by decide)
  obtain ⟨rfl, N6q, hh6⟩ := q6
  have N7 := Fr.app N5 N6q
  refine Wlk.of (fun _ k => st6 _ k) ?_
  show Wlk p.tables e below (T6.setTop (mkF m 20 #[rv a, jv z, sd, jv v3, sd, un] [(.int (if (0 : Int32) < (((63 : Int32) - (nlz64 v3)) - (7 : Int32)) then (((63 : Int32) - (nlz64 v3)) - (7 : Int32)) else (0 : Int32)))])) K
  refine Wlk.of (fun _ k => XS.istore X6.here hx rfl (hb hby d3_20) rfl (l' := #[rv a, jv z, sd, jv v3, sd, iv (if (0 : Int32) < (((63 : Int32) - (nlz64 v3)) - (7 : Int32)) then (((63 : Int32) - (nlz64 v3)) - (7 : Int32)) else (0 : Int32))]) rfl k) ?_
  show Wlk p.tables e below (T6.setTop (mkF m 22 #[rv a, jv z, sd, jv v3, sd, iv (if (0 : Int32) < (((63 : Int32) - (nlz64 v3)) - (7 : Int32)) then (((63 : Int32) - (nlz64 v3)) - (7 : Int32)) else (0 : Int32))] [])) K
  generalize hv8 : (if (0 : Int32) < (((63 : Int32) - (nlz64 v3)) - (7 : Int32)) then (((63 : Int32) - (nlz64 v3)) - (7 : Int32)) else (0 : Int32)) = v8
  refine Wlk.of (fun _ k => XS.aloadN X6.here hx rfl (hb hby d3_22) rfl rfl k) ?_
  show Wlk p.tables e below (T6.setTop (mkF m 23 #[rv a, jv z, sd, jv v3, sd, iv v8] [(.ref a)])) K
  obtain ⟨T9, X9, e9, st9⟩ := getF X6 hx hZ hown (host := "") (Or.inl (wd hw 11 rfl)) Via.refl hh6 F_a_counts (g := (mkF m 23 #[rv a, jv z, sd, jv v3, sd, iv v8] [(.ref a)])) rfl rfl (hb hby d3_23)
  refine Wlk.of (fun _ k => st9 _ k) ?_
  show Wlk p.tables e below (T9.setTop (mkF m 26 #[rv a, jv z, sd, jv v3, sd, iv v8] [(.ref ca)])) K
  refine Wlk.of (fun _ k => XS.iload X9.here hx rfl (hb hby d3_26) rfl k) ?_
  show Wlk p.tables e below (T9.setTop (mkF m 28 #[rv a, jv z, sd, jv v3, sd, iv v8] [(.int v8), (.ref ca)])) K
  refine Wlk.of (fun _ k => XS.bipush X9.here hx rfl (hb hby d3_28) k) ?_
  show Wlk p.tables e below (T9.setTop (mkF m 30 #[rv a, jv z, sd, jv v3, sd, iv v8] [(.int (7 : Int32)), (.int v8), (.ref ca)])) K
  refine Wlk.of (fun _ k => XS.ishl X9.here hx rfl (hb hby d3_30) rfl k) ?_
  show Wlk p.tables e below (T9.setTop (mkF m 31 #[rv a, jv z, sd, jv v3, sd, iv v8] [(.int (v8 <<< ((7 : Int32) &&& 31))), (.ref ca)])) K
  refine Wlk.of (fun _ k => XS.lloadN X9.here hx rfl (hb hby d3_31) rfl k) ?_
  show Wlk p.tables e below (T9.setTop (mkF m 32 #[rv a, jv z, sd, jv v3, sd, iv v8] [(.long v3), (.int (v8 <<< ((7 : Int32) &&& 31))), (.ref ca)])) K
  refine Wlk.of (fun _ k => XS.iload X9.here hx rfl (hb hby d3_32) rfl k) ?_
  show Wlk p.tables e below (T9.setTop (mkF m 34 #[rv a, jv z, sd, jv v3, sd, iv v8] [(.int v8), (.long v3), (.int (v8 <<< ((7 : Int32) &&& 31))), (.ref ca)])) K
  refine Wlk.of (fun _ k => XS.lushr X9.here hx rfl (hb hby d3_34) rfl k) ?_
  show Wlk p.tables e below (T9.setTop (mkF m 35 #[rv a, jv z, sd, jv v3, sd, iv v8] [(.long ((v3.toUInt64 >>> (v8 &&& 0x3f).toInt64.toUInt64).toInt64)), (.int (v8 <<< ((7 : Int32) &&& 31))), (.ref ca)])) K
  refine Wlk.of (fun _ k => XS.l2i X9.here hx rfl (hb hby d3_35) rfl k) ?_
  show Wlk p.tables e below (T9.setTop (mkF m 36 #[rv a, jv z, sd, jv v3, sd, iv v8] [(.int (((v3.toUInt64 >>> (v8 &&& 0x3f).toInt64.toUInt64).toInt64).toInt32)), (.int (v8 <<< ((7 : Int32) &&& 31))), (.ref ca)])) K
  refine Wlk.of (fun _ k => XS.iadd X9.here hx rfl (hb hby d3_36) rfl k) ?_
  show Wlk p.tables e below (T9.setTop (mkF m 37 #[rv a, jv z, sd, jv v3, sd, iv v8] [(.int ((v8 <<< ((7 : Int32) &&& 31)) + (((v3.toUInt64 >>> (v8 &&& 0x3f).toInt64.toUInt64).toInt64).toInt32))), (.ref ca)])) K
  have hix : own_ixm v3 v8 = own_ix z := by rw [← hv8, ← hv3]; rfl
  unfold own_ixm at hix
  rw [hix]
  refine Wlk.of (fun _ k => XT.dup2 X9.here hx rfl (hb hby d3_37) rfl rfl rfl k) ?_
  show Wlk p.tables e below (T9.setTop (mkF m 38 #[rv a, jv z, sd, jv v3, sd, iv v8] [(.int (own_ix z)), (.ref ca), (.int (own_ix z)), (.ref ca)])) K
  refine Wlk.of (fun _ k => ldJ X9 hx hZ e9 A_ca (j := (own_ix z)) (i := (own_in z)) rfl (own_ixb z).1 (own_get (own_ixb z).2) (g := (mkF m 38 #[rv a, jv z, sd, jv v3, sd, iv v8] [(.int (own_ix z)), (.ref ca), (.int (own_ix z)), (.ref ca)])) rfl rfl (hb hby d3_38) _ k) ?_
  show Wlk p.tables e below (T9.setTop (mkF m 39 #[rv a, jv z, sd, jv v3, sd, iv v8] [(.long (f (own_in z))), (.int (own_ix z)), (.ref ca)])) K
  refine Wlk.of (fun _ k => XS.lconst X9.here hx rfl (hb hby d3_39) k) ?_
  show Wlk p.tables e below (T9.setTop (mkF m 40 #[rv a, jv z, sd, jv v3, sd, iv v8] [(.long (1 : Int64)), (.long (f (own_in z))), (.int (own_ix z)), (.ref ca)])) K
  refine Wlk.of (fun _ k => XS.ladd X9.here hx rfl (hb hby d3_40) rfl k) ?_
  show Wlk p.tables e below (T9.setTop (mkF m 41 #[rv a, jv z, sd, jv v3, sd, iv v8] [(.long ((f (own_in z)) + (1 : Int64))), (.int (own_ix z)), (.ref ca)])) K
  obtain ⟨T10, h10, X10, e10, W10, V10, st10⟩ := stJl X9 hx hZ e9 A_ca (j := (own_ix z)) (i := (own_in z)) rfl (own_ixb z).1 (own_lt (own_ixb z).2) (g := (mkF m 41 #[rv a, jv z, sd, jv v3, sd, iv v8] [(.long ((f (own_in z)) + (1 : Int64))), (.int (own_ix z)), (.ref ca)])) rfl rfl (hb hby d3_41)
  refine Wlk.of (fun _ k => st10 _ k) ?_
  have K11 : Keep h0 h10 [a, ca] := K0.wr W10 (Or.inl (List.mem_of_getElem? (i := 1) rfl))
  have N12 := Fr.snoc X10 N7 g_ca
  have Vw10 : Arl Z h10 ca .long (own_vs (own_upd f (own_in z) ((f (own_in z)) + (1 : Int64)))) := by rw [← own_set]; exact V10
  show Wlk p.tables e below (T10.setTop (mkF m 42 #[rv a, jv z, sd, jv v3, sd, iv v8] [])) K
  refine Wlk.of (fun _ k => XS.aloadN X10.here hx rfl (hb hby d3_42) rfl rfl k) ?_
  show Wlk p.tables e below (T10.setTop (mkF m 43 #[rv a, jv z, sd, jv v3, sd, iv v8] [(.ref a)])) K
  refine Wlk.of (fun _ k => XS.dup X10.here hx rfl (hb hby d3_43) rfl rfl k) ?_
  show Wlk p.tables e below (T10.setTop (mkF m 44 #[rv a, jv z, sd, jv v3, sd, iv v8] [(.ref a), (.ref a)])) K
  have f13 : Fld Z h10 a "com/example/eimer/eimer/cli/Latencies" "total" "J" (.long tt) := (F_a_total.other W10 (Or.inl ne_a_ca))
  obtain ⟨T14, X14, e14, st14⟩ := getF X10 hx hZ hown (host := "") (Or.inl (wd hw 34 rfl)) Via.refl e10 f13 (g := (mkF m 44 #[rv a, jv z, sd, jv v3, sd, iv v8] [(.ref a), (.ref a)])) rfl rfl (hb hby d3_44)
  refine Wlk.of (fun _ k => st14 _ k) ?_
  show Wlk p.tables e below (T14.setTop (mkF m 47 #[rv a, jv z, sd, jv v3, sd, iv v8] [(.long tt), (.ref a)])) K
  refine Wlk.of (fun _ k => XS.lconst X14.here hx rfl (hb hby d3_47) k) ?_
  show Wlk p.tables e below (T14.setTop (mkF m 48 #[rv a, jv z, sd, jv v3, sd, iv v8] [(.long (1 : Int64)), (.long tt), (.ref a)])) K
  refine Wlk.of (fun _ k => XS.ladd X14.here hx rfl (hb hby d3_48) rfl k) ?_
  show Wlk p.tables e below (T14.setTop (mkF m 49 #[rv a, jv z, sd, jv v3, sd, iv v8] [(.long (tt + (1 : Int64))), (.ref a)])) K
  have f15 : Exa Z h10 a "com/example/eimer/eimer/cli/Latencies" := (E_a.wr W10)
  obtain ⟨T16, h16, X16, e16, W16, st16⟩ := putF X14 hx hZ hown (host := "") (Or.inl (wd hw 34 rfl)) Via.refl e14 f13 f15 (Or.inl (wd hw 35 rfl)) (wd hw 2 rfl) (ty := .long) (by decide) rfl rfl (g := (mkF m 49 #[rv a, jv z, sd, jv v3, sd, iv v8] [(.long (tt + (1 : Int64))), (.ref a)])) rfl rfl (hb hby d3_49)
  have Fw16 := f13.same W16
  refine Wlk.of (fun _ k => st16 _ k) ?_
  have K17 : Keep h0 h16 [a, ca] := K11.wr W16 (Or.inl (List.mem_of_getElem? (i := 0) rfl))
  have N18 := Fr.snoc X16 N12 g_a
  show Wlk p.tables e below (T16.setTop (mkF m 52 #[rv a, jv z, sd, jv v3, sd, iv v8] [])) K
  have f19 : Fld Z h16 a "com/example/eimer/eimer/cli/Latencies" "counts" "[J" (.ref ca) := ((F_a_counts.other W10 (Or.inl ne_a_ca)).other W16 (Or.inr (slot_ne (Or.inr (wd hw 12 rfl)) (Or.inl (wd hw 35 rfl)) (by decide) (t := (.array .long)) (t' := .long) (by decide) (by decide))))
  have f20 : Arl Z h16 ca .long (own_vs (own_upd f (own_in z) ((f (own_in z)) + (1 : Int64)))) := (Vw10.other W16 (Ne.symm ne_a_ca))
  refine hK none X16 (fun q => rfl) (fun fs hr => X16.returnOut hx hret (hb hby d3_52) hr) ?_ (by decide) (by decide)
  rw [show T16.heap = h16 from e16]
  exact ⟨rfl, N18, K17, f19, Fw16, (by rw [← own_incE]; exact f20)⟩
theorem d8_0 : decode prog_42_method_3_code 0 = .ok (.iconst 0, 1) := by decide +kernel
theorem d8_1 : decode prog_42_method_3_code 1 = .ok (.istore_n 2, 1) := by decide +kernel
theorem d8_2 : decode prog_42_method_3_code 2 = .ok (.iload_n 2, 1) := by decide +kernel
theorem d8_3 : decode prog_42_method_3_code 3 = .ok (.aload_n 0, 1) := by decide +kernel
theorem d8_4 : decode prog_42_method_3_code 4 = .ok (.getfield 9, 3) := by decide +kernel
theorem d8_7 : decode prog_42_method_3_code 7 = .ok (.arraylength, 1) := by decide +kernel
theorem d8_8 : decode prog_42_method_3_code 8 = .ok (.if_icmp .ge 24, 3) := by decide +kernel
theorem d8_11 : decode prog_42_method_3_code 11 = .ok (.aload_n 0, 1) := by decide +kernel
theorem d8_12 : decode prog_42_method_3_code 12 = .ok (.getfield 9, 3) := by decide +kernel
theorem d8_15 : decode prog_42_method_3_code 15 = .ok (.iload_n 2, 1) := by decide +kernel
theorem d8_16 : decode prog_42_method_3_code 16 = .ok (.dup2, 1) := by decide +kernel
theorem d8_17 : decode prog_42_method_3_code 17 = .ok (.laload, 1) := by decide +kernel
theorem d8_18 : decode prog_42_method_3_code 18 = .ok (.aload_n 1, 1) := by decide +kernel
theorem d8_19 : decode prog_42_method_3_code 19 = .ok (.getfield 9, 3) := by decide +kernel
theorem d8_22 : decode prog_42_method_3_code 22 = .ok (.iload_n 2, 1) := by decide +kernel
theorem d8_23 : decode prog_42_method_3_code 23 = .ok (.laload, 1) := by decide +kernel
theorem d8_24 : decode prog_42_method_3_code 24 = .ok (.ladd, 1) := by decide +kernel
theorem d8_25 : decode prog_42_method_3_code 25 = .ok (.lastore, 1) := by decide +kernel
theorem d8_26 : decode prog_42_method_3_code 26 = .ok (.iinc 2 1, 3) := by decide +kernel
theorem d8_29 : decode prog_42_method_3_code 29 = .ok (.goto (-27), 3) := by decide +kernel
theorem d8_32 : decode prog_42_method_3_code 32 = .ok (.aload_n 0, 1) := by decide +kernel
theorem d8_33 : decode prog_42_method_3_code 33 = .ok (.dup, 1) := by decide +kernel
theorem d8_34 : decode prog_42_method_3_code 34 = .ok (.getfield 28, 3) := by decide +kernel
theorem d8_37 : decode prog_42_method_3_code 37 = .ok (.aload_n 1, 1) := by decide +kernel
theorem d8_38 : decode prog_42_method_3_code 38 = .ok (.getfield 28, 3) := by decide +kernel
theorem d8_41 : decode prog_42_method_3_code 41 = .ok (.ladd, 1) := by decide +kernel
theorem d8_42 : decode prog_42_method_3_code 42 = .ok (.putfield 28, 3) := by decide +kernel
theorem d8_45 : decode prog_42_method_3_code 45 = .ok (.return_, 1) := by decide +kernel
theorem ef_rmA (m : MethodId) (a : Addr) (o : Addr) : entryFrame m #[(.ref a), (.ref o)] 3 = mkF m 0 #[rv a, rv o, un] [] := by first | (simp [entryFrame, mkF, argsToLocals, Value.category]; done) | rfl
def Q_rmA (Z : State) (a : Addr) (o : Addr) (ca : Addr) (co : Addr) (ta : Int64) (tb : Int64) (f : (Nat → Int64)) (g : (Nat → Int64)) (h0 : Heap) (n0 : Nat) (v : Option Value) (h : Heap) (L : List Loc) : Prop := v = none ∧ Fr n0 L ∧ Keep h0 h [a, ca] ∧ Fld Z h a "com/example/eimer/eimer/cli/Latencies" "counts" "[J" (.ref ca) ∧ Fld Z h a "com/example/eimer/eimer/cli/Latencies" "total" "J" (.long (ta + tb)) ∧ Arl Z h ca .long (own_vs (own_sum f g))
set_option maxRecDepth 65536 in
set_option maxHeartbeats 40000000 in
theorem rmA (l : Launch) (Z : State) (a0 : Array Value) (hw : ∀ d ∈ tables_1, d.before a0 Z = true) (a : Addr) (o : Addr) (ca : Addr) (co : Addr) (ta : Int64) (tb : Int64) (f : (Nat → Int64)) (g : (Nat → Int64)) (h0 : Heap) (n0 : Nat) (Z0 : n0 ≤ h0.size) (E_a : Exa Z h0 a "com/example/eimer/eimer/cli/Latencies") (F_a_counts : Fld Z h0 a "com/example/eimer/eimer/cli/Latencies" "counts" "[J" (.ref ca)) (F_a_total : Fld Z h0 a "com/example/eimer/eimer/cli/Latencies" "total" "J" (.long ta)) (A_ca : Arl Z h0 ca .long (own_vs f)) (F_o_counts : Fld Z h0 o "com/example/eimer/eimer/cli/Latencies" "counts" "[J" (.ref co)) (F_o_total : Fld Z h0 o "com/example/eimer/eimer/cli/Latencies" "total" "J" (.long tb)) (A_co : Arl Z h0 co .long (own_vs g)) (ne_a_ca : a ≠ ca) (ne_a_o : a ≠ o) (ne_a_co : a ≠ co) (ne_o_ca : o ≠ ca) (ne_ca_co : ca ≠ co) (g_a : n0 ≤ a) (g_ca : n0 ≤ ca) :
    Ctr l Z h0 (⟨"com/example/eimer/eimer/cli/Latencies", "add", "(Lcom/example/eimer/eimer/cli/Latencies;)V"⟩ : MethodName) prog_42_method_3_code 3 none [] ({ frames := 0, cells := 0, slots := 0, locals := 0 } : Room) #[(.ref a), (.ref o)] (Q_rmA Z a o ca co ta tb f g h0 n0) := by
  refine Ctr.make (plainFor_of_name pn_89) fun p e s m below meth c s₁ K hret hml hx hby hown hnm hZ X0 e0 hK => ?_
  have hown : s.vm.findClass "com/example/eimer/eimer/cli/Latencies" = some m.cls := hown
  have N0 := Fr.nil n0
  have K0 : Keep h0 h0 [a, ca] := Keep.refl _ _
  refine Wlk.of (fun _ k => castTop (ef_rmA m a o) k) ?_
  show Wlk p.tables e below (s₁.setTop (mkF m 0 #[rv a, rv o, un] [])) K
  refine Wlk.of (fun _ k => XS.iconst X0.here hx rfl (hb hby d8_0) k) ?_
  show Wlk p.tables e below (s₁.setTop (mkF m 1 #[rv a, rv o, un] [(.int (0 : Int32))])) K
  refine Wlk.of (fun _ k => XS.istoreN X0.here hx rfl (hb hby d8_1) rfl (l' := #[rv a, rv o, iv (0 : Int32)]) rfl k) ?_
  show Wlk p.tables e below (s₁.setTop (mkF m 2 #[rv a, rv o, iv (0 : Int32)] [])) K
  have loop : ∀ (kk n : Nat) (T : State) (h : Heap) (ls : List Loc), n + kk = 7296 → Stand p l e ({ frames := 0, cells := 0, slots := 0, locals := 0 } : Room) s m #[(.ref a), (.ref o)] below meth c T ls 0 0 → T.heap = h → Fr n0 ls → Keep h0 h [a, ca] → Exa Z h a "com/example/eimer/eimer/cli/Latencies" → Fld Z h a "com/example/eimer/eimer/cli/Latencies" "counts" "[J" (.ref ca) → Fld Z h a "com/example/eimer/eimer/cli/Latencies" "total" "J" (.long ta) → Arl Z h ca .long (own_vs (own_mix f g n)) → Fld Z h o "com/example/eimer/eimer/cli/Latencies" "counts" "[J" (.ref co) → Fld Z h o "com/example/eimer/eimer/cli/Latencies" "total" "J" (.long tb) → Arl Z h co .long (own_vs g) → Wlk p.tables e below (T.setTop (mkF m 2 #[rv a, rv o, iv (Int32.ofNat n)] [])) K := by
    intro kk
    induction kk with
    | zero =>
      intro n T h ls hn X eT N Kp z0 z1 z2 z3 z4 z5 z6
      obtain rfl : n = 7296 := by omega
      refine Wlk.of (fun _ k => XS.iloadN X.here hx rfl (hb hby d8_2) rfl k) ?_
      show Wlk p.tables e below (T.setTop (mkF m 3 #[rv a, rv o, iv (Int32.ofNat 7296)] [(.int (Int32.ofNat 7296))])) K
      refine Wlk.of (fun _ k => XS.aloadN X.here hx rfl (hb hby d8_3) rfl rfl k) ?_
      show Wlk p.tables e below (T.setTop (mkF m 4 #[rv a, rv o, iv (Int32.ofNat 7296)] [(.ref a), (.int (Int32.ofNat 7296))])) K
      obtain ⟨T1, X1, e1, st1⟩ := getF X hx hZ hown (host := "") (Or.inl (wd hw 11 rfl)) Via.refl eT z1 (g := (mkF m 4 #[rv a, rv o, iv (Int32.ofNat 7296)] [(.ref a), (.int (Int32.ofNat 7296))])) rfl rfl (hb hby d8_4)
      refine Wlk.of (fun _ k => st1 _ k) ?_
      show Wlk p.tables e below (T1.setTop (mkF m 7 #[rv a, rv o, iv (Int32.ofNat 7296)] [(.ref ca), (.int (Int32.ofNat 7296))])) K
      refine Wlk.of (fun _ k => lenL X1 hx hZ e1 z3 (n := (7296 : Int32)) own_len32 (g := (mkF m 7 #[rv a, rv o, iv (Int32.ofNat 7296)] [(.ref ca), (.int (Int32.ofNat 7296))])) rfl rfl (hb hby d8_7) _ k) ?_
      show Wlk p.tables e below (T1.setTop (mkF m 8 #[rv a, rv o, iv (Int32.ofNat 7296)] [(.int (7296 : Int32)), (.int (Int32.ofNat 7296))])) K
      refine Wlk.of (fun _ k => XS.icmpYes X1.here hx rfl (pc0 := 8) (pc' := 32) rfl (hb hby d8_8) rfl (flt (show ¬ Int32.ofNat 7296 < (7296 : Int32) by decide)).2.1 (by decide) (by decide) k) ?_
      show Wlk p.tables e below (T1.setTop (mkF m 32 #[rv a, rv o, iv (Int32.ofNat 7296)] [])) K
      refine Wlk.of (fun _ k => XS.aloadN X1.here hx rfl (hb hby d8_32) rfl rfl k) ?_
      show Wlk p.tables e below (T1.setTop (mkF m 33 #[rv a, rv o, iv (Int32.ofNat 7296)] [(.ref a)])) K
      refine Wlk.of (fun _ k => XS.dup X1.here hx rfl (hb hby d8_33) rfl rfl k) ?_
      show Wlk p.tables e below (T1.setTop (mkF m 34 #[rv a, rv o, iv (Int32.ofNat 7296)] [(.ref a), (.ref a)])) K
      obtain ⟨T2, X2, e2, st2⟩ := getF X1 hx hZ hown (host := "") (Or.inl (wd hw 34 rfl)) Via.refl e1 z2 (g := (mkF m 34 #[rv a, rv o, iv (Int32.ofNat 7296)] [(.ref a), (.ref a)])) rfl rfl (hb hby d8_34)
      refine Wlk.of (fun _ k => st2 _ k) ?_
      show Wlk p.tables e below (T2.setTop (mkF m 37 #[rv a, rv o, iv (Int32.ofNat 7296)] [(.long ta), (.ref a)])) K
      refine Wlk.of (fun _ k => XS.aloadN X2.here hx rfl (hb hby d8_37) rfl rfl k) ?_
      show Wlk p.tables e below (T2.setTop (mkF m 38 #[rv a, rv o, iv (Int32.ofNat 7296)] [(.ref o), (.long ta), (.ref a)])) K
      obtain ⟨T3, X3, e3, st3⟩ := getF X2 hx hZ hown (host := "") (Or.inl (wd hw 34 rfl)) Via.refl e2 z5 (g := (mkF m 38 #[rv a, rv o, iv (Int32.ofNat 7296)] [(.ref o), (.long ta), (.ref a)])) rfl rfl (hb hby d8_38)
      refine Wlk.of (fun _ k => st3 _ k) ?_
      show Wlk p.tables e below (T3.setTop (mkF m 41 #[rv a, rv o, iv (Int32.ofNat 7296)] [(.long tb), (.long ta), (.ref a)])) K
      refine Wlk.of (fun _ k => XS.ladd X3.here hx rfl (hb hby d8_41) rfl k) ?_
      show Wlk p.tables e below (T3.setTop (mkF m 42 #[rv a, rv o, iv (Int32.ofNat 7296)] [(.long (ta + tb)), (.ref a)])) K
      obtain ⟨T4, h4, X4, e4, W4, st4⟩ := putF X3 hx hZ hown (host := "") (Or.inl (wd hw 34 rfl)) Via.refl e3 z2 z0 (Or.inl (wd hw 35 rfl)) (wd hw 2 rfl) (ty := .long) (by decide) rfl rfl (g := (mkF m 42 #[rv a, rv o, iv (Int32.ofNat 7296)] [(.long (ta + tb)), (.ref a)])) rfl rfl (hb hby d8_42)
      have Fw4 := z2.same W4
      refine Wlk.of (fun _ k => st4 _ k) ?_
      have K5 : Keep h0 h4 [a, ca] := Kp.wr W4 (Or.inl (List.mem_of_getElem? (i := 0) rfl))
      have N6 := Fr.snoc X4 N g_a
      show Wlk p.tables e below (T4.setTop (mkF m 45 #[rv a, rv o, iv (Int32.ofNat 7296)] [])) K
      have f7 : Fld Z h4 a "com/example/eimer/eimer/cli/Latencies" "counts" "[J" (.ref ca) := (z1.other W4 (Or.inr (slot_ne (Or.inr (wd hw 12 rfl)) (Or.inl (wd hw 35 rfl)) (by decide) (t := (.array .long)) (t' := .long) (by decide) (by decide))))
      have f8 : Arl Z h4 ca .long (own_vs (own_mix f g 7296)) := (z3.other W4 (Ne.symm ne_a_ca))
      refine hK none X4 (fun q => rfl) (fun fs hr => X4.returnOut hx hret (hb hby d8_45) hr) ?_ (by decide) (by decide)
      rw [show T4.heap = h4 from e4]
      exact ⟨rfl, N6, K5, f7, Fw4, (by rw [← own_mixE]; exact f8)⟩
    | succ kk ih =>
      intro n T h ls hn X eT N Kp z0 z1 z2 z3 z4 z5 z6
      have hlt : n < 7296 := by omega
      refine Wlk.of (fun _ k => XS.iloadN X.here hx rfl (hb hby d8_2) rfl k) ?_
      show Wlk p.tables e below (T.setTop (mkF m 3 #[rv a, rv o, iv (Int32.ofNat n)] [(.int (Int32.ofNat n))])) K
      refine Wlk.of (fun _ k => XS.aloadN X.here hx rfl (hb hby d8_3) rfl rfl k) ?_
      show Wlk p.tables e below (T.setTop (mkF m 4 #[rv a, rv o, iv (Int32.ofNat n)] [(.ref a), (.int (Int32.ofNat n))])) K
      obtain ⟨T9, X9, e9, st9⟩ := getF X hx hZ hown (host := "") (Or.inl (wd hw 11 rfl)) Via.refl eT z1 (g := (mkF m 4 #[rv a, rv o, iv (Int32.ofNat n)] [(.ref a), (.int (Int32.ofNat n))])) rfl rfl (hb hby d8_4)
      refine Wlk.of (fun _ k => st9 _ k) ?_
      show Wlk p.tables e below (T9.setTop (mkF m 7 #[rv a, rv o, iv (Int32.ofNat n)] [(.ref ca), (.int (Int32.ofNat n))])) K
      refine Wlk.of (fun _ k => lenL X9 hx hZ e9 z3 (n := (7296 : Int32)) own_len32 (g := (mkF m 7 #[rv a, rv o, iv (Int32.ofNat n)] [(.ref ca), (.int (Int32.ofNat n))])) rfl rfl (hb hby d8_7) _ k) ?_
      show Wlk p.tables e below (T9.setTop (mkF m 8 #[rv a, rv o, iv (Int32.ofNat n)] [(.int (7296 : Int32)), (.int (Int32.ofNat n))])) K
      refine Wlk.of (fun _ k => XS.icmpNo X9.here hx rfl (hb hby d8_8) rfl (tlt (own_ltN hlt)).2.1 k) ?_
      show Wlk p.tables e below (T9.setTop (mkF m 11 #[rv a, rv o, iv (Int32.ofNat n)] [])) K
      refine Wlk.of (fun _ k => XS.aloadN X9.here hx rfl (hb hby d8_11) rfl rfl k) ?_
      show Wlk p.tables e below (T9.setTop (mkF m 12 #[rv a, rv o, iv (Int32.ofNat n)] [(.ref a)])) K
      obtain ⟨T10, X10, e10, st10⟩ := getF X9 hx hZ hown (host := "") (Or.inl (wd hw 11 rfl)) Via.refl e9 z1 (g := (mkF m 12 #[rv a, rv o, iv (Int32.ofNat n)] [(.ref a)])) rfl rfl (hb hby d8_12)
      refine Wlk.of (fun _ k => st10 _ k) ?_
      show Wlk p.tables e below (T10.setTop (mkF m 15 #[rv a, rv o, iv (Int32.ofNat n)] [(.ref ca)])) K
      refine Wlk.of (fun _ k => XS.iloadN X10.here hx rfl (hb hby d8_15) rfl k) ?_
      show Wlk p.tables e below (T10.setTop (mkF m 16 #[rv a, rv o, iv (Int32.ofNat n)] [(.int (Int32.ofNat n)), (.ref ca)])) K
      refine Wlk.of (fun _ k => XT.dup2 X10.here hx rfl (hb hby d8_16) rfl rfl rfl k) ?_
      show Wlk p.tables e below (T10.setTop (mkF m 17 #[rv a, rv o, iv (Int32.ofNat n)] [(.int (Int32.ofNat n)), (.ref ca), (.int (Int32.ofNat n)), (.ref ca)])) K
      refine Wlk.of (fun _ k => ldJ X10 hx hZ e10 z3 (j := (Int32.ofNat n)) (i := n) (own_nat hlt) (own_nneg hlt) (own_get hlt) (g := (mkF m 17 #[rv a, rv o, iv (Int32.ofNat n)] [(.int (Int32.ofNat n)), (.ref ca), (.int (Int32.ofNat n)), (.ref ca)])) rfl rfl (hb hby d8_17) _ k) ?_
      show Wlk p.tables e below (T10.setTop (mkF m 18 #[rv a, rv o, iv (Int32.ofNat n)] [(.long ((own_mix f g n) n)), (.int (Int32.ofNat n)), (.ref ca)])) K
      refine Wlk.of (fun _ k => XS.aloadN X10.here hx rfl (hb hby d8_18) rfl rfl k) ?_
      show Wlk p.tables e below (T10.setTop (mkF m 19 #[rv a, rv o, iv (Int32.ofNat n)] [(.ref o), (.long ((own_mix f g n) n)), (.int (Int32.ofNat n)), (.ref ca)])) K
      obtain ⟨T11, X11, e11, st11⟩ := getF X10 hx hZ hown (host := "") (Or.inl (wd hw 11 rfl)) Via.refl e10 z4 (g := (mkF m 19 #[rv a, rv o, iv (Int32.ofNat n)] [(.ref o), (.long ((own_mix f g n) n)), (.int (Int32.ofNat n)), (.ref ca)])) rfl rfl (hb hby d8_19)
      refine Wlk.of (fun _ k => st11 _ k) ?_
      show Wlk p.tables e below (T11.setTop (mkF m 22 #[rv a, rv o, iv (Int32.ofNat n)] [(.ref co), (.long ((own_mix f g n) n)), (.int (Int32.ofNat n)), (.ref ca)])) K
      refine Wlk.of (fun _ k => XS.iloadN X11.here hx rfl (hb hby d8_22) rfl k) ?_
      show Wlk p.tables e below (T11.setTop (mkF m 23 #[rv a, rv o, iv (Int32.ofNat n)] [(.int (Int32.ofNat n)), (.ref co), (.long ((own_mix f g n) n)), (.int (Int32.ofNat n)), (.ref ca)])) K
      refine Wlk.of (fun _ k => ldJ X11 hx hZ e11 z6 (j := (Int32.ofNat n)) (i := n) (own_nat hlt) (own_nneg hlt) (own_get hlt) (g := (mkF m 23 #[rv a, rv o, iv (Int32.ofNat n)] [(.int (Int32.ofNat n)), (.ref co), (.long ((own_mix f g n) n)), (.int (Int32.ofNat n)), (.ref ca)])) rfl rfl (hb hby d8_23) _ k) ?_
      show Wlk p.tables e below (T11.setTop (mkF m 24 #[rv a, rv o, iv (Int32.ofNat n)] [(.long (g n)), (.long ((own_mix f g n) n)), (.int (Int32.ofNat n)), (.ref ca)])) K
      refine Wlk.of (fun _ k => XS.ladd X11.here hx rfl (hb hby d8_24) rfl k) ?_
      show Wlk p.tables e below (T11.setTop (mkF m 25 #[rv a, rv o, iv (Int32.ofNat n)] [(.long (((own_mix f g n) n) + (g n))), (.int (Int32.ofNat n)), (.ref ca)])) K
      obtain ⟨T12, h12, X12, e12, W12, V12, st12⟩ := stJl X11 hx hZ e11 z3 (j := (Int32.ofNat n)) (i := n) (own_nat hlt) (own_nneg hlt) (own_lt hlt) (g := (mkF m 25 #[rv a, rv o, iv (Int32.ofNat n)] [(.long (((own_mix f g n) n) + (g n))), (.int (Int32.ofNat n)), (.ref ca)])) rfl rfl (hb hby d8_25)
      refine Wlk.of (fun _ k => st12 _ k) ?_
      have K13 : Keep h0 h12 [a, ca] := Kp.wr W12 (Or.inl (List.mem_of_getElem? (i := 1) rfl))
      have N14 := Fr.snoc X12 N g_ca
      have Vw12 : Arl Z h12 ca .long (own_vs (own_upd (own_mix f g n) n (((own_mix f g n) n) + (g n)))) := by rw [← own_set]; exact V12
      show Wlk p.tables e below (T12.setTop (mkF m 26 #[rv a, rv o, iv (Int32.ofNat n)] [])) K
      refine Wlk.of (fun _ k => XS.iinc X12.here hx rfl (hb hby d8_26) rfl (l' := #[rv a, rv o, iv ((Int32.ofNat n) + (1 : Int32))]) rfl k) ?_
      show Wlk p.tables e below (T12.setTop (mkF m 29 #[rv a, rv o, iv ((Int32.ofNat n) + (1 : Int32))] [])) K
      refine Wlk.of (fun _ k => XS.goto X12.here hx rfl (pc0 := 29) (pc' := 2) rfl (hb hby d8_29) (by decide) (by decide) k) ?_
      show Wlk p.tables e below (T12.setTop (mkF m 2 #[rv a, rv o, iv ((Int32.ofNat n) + (1 : Int32))] [])) K
      have f15 : Exa Z h12 a "com/example/eimer/eimer/cli/Latencies" := (z0.wr W12)
      have f16 : Fld Z h12 a "com/example/eimer/eimer/cli/Latencies" "counts" "[J" (.ref ca) := (z1.other W12 (Or.inl ne_a_ca))
      have f17 : Fld Z h12 a "com/example/eimer/eimer/cli/Latencies" "total" "J" (.long ta) := (z2.other W12 (Or.inl ne_a_ca))
      have f18 : Fld Z h12 o "com/example/eimer/eimer/cli/Latencies" "counts" "[J" (.ref co) := (z4.other W12 (Or.inl ne_o_ca))
      have f19 : Fld Z h12 o "com/example/eimer/eimer/cli/Latencies" "total" "J" (.long tb) := (z5.other W12 (Or.inl ne_o_ca))
      have f20 : Arl Z h12 co .long (own_vs g) := (z6.other W12 (Ne.symm ne_ca_co))
      rw [own_succ]
      exact ih (n + 1) _ _ _ (by omega) X12 e12 N14 K13 f15 f16 f17 (by rw [← own_mixS]; exact Vw12) f18 f19 f20
  exact loop 7296 0 _ _ _ rfl X0 e0 N0 K0 E_a F_a_counts F_a_total (by rw [own_mix0]; exact A_ca) F_o_counts F_o_total A_co
theorem d9_0 : decode prog_42_method_4_code 0 = .ok (.aload_n 0, 1) := by decide +kernel
theorem d9_1 : decode prog_42_method_4_code 1 = .ok (.getfield 28, 3) := by decide +kernel
theorem d9_4 : decode prog_42_method_4_code 4 = .ok (.lconst 0, 1) := by decide +kernel
theorem d9_5 : decode prog_42_method_4_code 5 = .ok (.lcmp, 1) := by decide +kernel
theorem d9_6 : decode prog_42_method_4_code 6 = .ok (.ifCond .ne 13, 3) := by decide +kernel
theorem d9_19 : decode prog_42_method_4_code 19 = .ok (.aload_n 0, 1) := by decide +kernel
theorem d9_20 : decode prog_42_method_4_code 20 = .ok (.getfield 28, 3) := by decide +kernel
theorem d9_23 : decode prog_42_method_4_code 23 = .ok (.ldc2_w 39, 3) := by decide +kernel
theorem d9_26 : decode prog_42_method_4_code 26 = .ok (.ldiv, 1) := by decide +kernel
theorem d9_27 : decode prog_42_method_4_code 27 = .ok (.iload_n 1, 1) := by decide +kernel
theorem d9_28 : decode prog_42_method_4_code 28 = .ok (.i2l, 1) := by decide +kernel
theorem d9_29 : decode prog_42_method_4_code 29 = .ok (.lmul, 1) := by decide +kernel
theorem d9_30 : decode prog_42_method_4_code 30 = .ok (.aload_n 0, 1) := by decide +kernel
theorem d9_31 : decode prog_42_method_4_code 31 = .ok (.getfield 28, 3) := by decide +kernel
theorem d9_34 : decode prog_42_method_4_code 34 = .ok (.ldc2_w 39, 3) := by decide +kernel
theorem d9_37 : decode prog_42_method_4_code 37 = .ok (.lrem, 1) := by decide +kernel
theorem d9_38 : decode prog_42_method_4_code 38 = .ok (.iload_n 1, 1) := by decide +kernel
theorem d9_39 : decode prog_42_method_4_code 39 = .ok (.i2l, 1) := by decide +kernel
theorem d9_40 : decode prog_42_method_4_code 40 = .ok (.lmul, 1) := by decide +kernel
theorem d9_41 : decode prog_42_method_4_code 41 = .ok (.ldc2_w 41, 3) := by decide +kernel
theorem d9_44 : decode prog_42_method_4_code 44 = .ok (.ladd, 1) := by decide +kernel
theorem d9_45 : decode prog_42_method_4_code 45 = .ok (.ldc2_w 39, 3) := by decide +kernel
theorem d9_48 : decode prog_42_method_4_code 48 = .ok (.ldiv, 1) := by decide +kernel
theorem d9_49 : decode prog_42_method_4_code 49 = .ok (.ladd, 1) := by decide +kernel
theorem d9_50 : decode prog_42_method_4_code 50 = .ok (.lstore_n 2, 1) := by decide +kernel
theorem d9_51 : decode prog_42_method_4_code 51 = .ok (.iconst 0, 1) := by decide +kernel
theorem d9_52 : decode prog_42_method_4_code 52 = .ok (.istore 4, 2) := by decide +kernel
theorem d9_54 : decode prog_42_method_4_code 54 = .ok (.aload_n 0, 1) := by decide +kernel
theorem d9_55 : decode prog_42_method_4_code 55 = .ok (.getfield 9, 3) := by decide +kernel
theorem d9_58 : decode prog_42_method_4_code 58 = .ok (.iconst 0, 1) := by decide +kernel
theorem d9_59 : decode prog_42_method_4_code 59 = .ok (.laload, 1) := by decide +kernel
theorem d9_60 : decode prog_42_method_4_code 60 = .ok (.lstore 5, 2) := by decide +kernel
theorem d9_62 : decode prog_42_method_4_code 62 = .ok (.lload 5, 2) := by decide +kernel
theorem d9_64 : decode prog_42_method_4_code 64 = .ok (.lload_n 2, 1) := by decide +kernel
theorem d9_65 : decode prog_42_method_4_code 65 = .ok (.lcmp, 1) := by decide +kernel
theorem d9_66 : decode prog_42_method_4_code 66 = .ok (.ifCond .ge 21, 3) := by decide +kernel
theorem d9_69 : decode prog_42_method_4_code 69 = .ok (.iinc 4 1, 3) := by decide +kernel
theorem d9_72 : decode prog_42_method_4_code 72 = .ok (.lload 5, 2) := by decide +kernel
theorem d9_74 : decode prog_42_method_4_code 74 = .ok (.aload_n 0, 1) := by decide +kernel
theorem d9_75 : decode prog_42_method_4_code 75 = .ok (.getfield 9, 3) := by decide +kernel
theorem d9_78 : decode prog_42_method_4_code 78 = .ok (.iload 4, 2) := by decide +kernel
theorem d9_80 : decode prog_42_method_4_code 80 = .ok (.laload, 1) := by decide +kernel
theorem d9_81 : decode prog_42_method_4_code 81 = .ok (.ladd, 1) := by decide +kernel
theorem d9_82 : decode prog_42_method_4_code 82 = .ok (.lstore 5, 2) := by decide +kernel
theorem d9_84 : decode prog_42_method_4_code 84 = .ok (.goto (-22), 3) := by decide +kernel
theorem d9_87 : decode prog_42_method_4_code 87 = .ok (.iconst 0, 1) := by decide +kernel
theorem d9_88 : decode prog_42_method_4_code 88 = .ok (.iload 4, 2) := by decide +kernel
theorem d9_90 : decode prog_42_method_4_code 90 = .ok (.bipush 7, 2) := by decide +kernel
theorem d9_92 : decode prog_42_method_4_code 92 = .ok (.ishr, 1) := by decide +kernel
theorem d9_93 : decode prog_42_method_4_code 93 = .ok (.iconst 1, 1) := by decide +kernel
theorem d9_94 : decode prog_42_method_4_code 94 = .ok (.isub, 1) := by decide +kernel
theorem d9_95 : decode prog_42_method_4_code 95 = .ok (.invokestatic 25, 3) := by decide +kernel
theorem d9_98 : decode prog_42_method_4_code 98 = .ok (.istore 5, 2) := by decide +kernel
theorem d9_100 : decode prog_42_method_4_code 100 = .ok (.iload 4, 2) := by decide +kernel
theorem d9_102 : decode prog_42_method_4_code 102 = .ok (.iload 5, 2) := by decide +kernel
theorem d9_104 : decode prog_42_method_4_code 104 = .ok (.bipush 7, 2) := by decide +kernel
theorem d9_106 : decode prog_42_method_4_code 106 = .ok (.ishl, 1) := by decide +kernel
theorem d9_107 : decode prog_42_method_4_code 107 = .ok (.isub, 1) := by decide +kernel
theorem d9_108 : decode prog_42_method_4_code 108 = .ok (.i2l, 1) := by decide +kernel
theorem d9_109 : decode prog_42_method_4_code 109 = .ok (.iload 5, 2) := by decide +kernel
theorem d9_111 : decode prog_42_method_4_code 111 = .ok (.lshl, 1) := by decide +kernel
theorem d9_112 : decode prog_42_method_4_code 112 = .ok (.lstore 6, 2) := by decide +kernel
theorem d9_114 : decode prog_42_method_4_code 114 = .ok (.lload 6, 2) := by decide +kernel
theorem d9_116 : decode prog_42_method_4_code 116 = .ok (.l2d, 1) := by decide +kernel
theorem d9_117 : decode prog_42_method_4_code 117 = .ok (.lconst 1, 1) := by decide +kernel
theorem d9_118 : decode prog_42_method_4_code 118 = .ok (.iload 5, 2) := by decide +kernel
theorem d9_120 : decode prog_42_method_4_code 120 = .ok (.lshl, 1) := by decide +kernel
theorem d9_121 : decode prog_42_method_4_code 121 = .ok (.lconst 1, 1) := by decide +kernel
theorem d9_122 : decode prog_42_method_4_code 122 = .ok (.lsub, 1) := by decide +kernel
theorem d9_123 : decode prog_42_method_4_code 123 = .ok (.l2d, 1) := by decide +kernel
theorem d9_124 : decode prog_42_method_4_code 124 = .ok (.ldc2_w 43, 3) := by decide +kernel
theorem d9_127 : decode prog_42_method_4_code 127 = .ok (.ddiv, 1) := by decide +kernel
theorem d9_128 : decode prog_42_method_4_code 128 = .ok (.dadd, 1) := by decide +kernel
theorem d9_129 : decode prog_42_method_4_code 129 = .ok (.dreturn, 1) := by decide +kernel
theorem ef_rmP (m : MethodId) (a : Addr) (pp : Int32) : entryFrame m #[(.ref a), (.int pp)] 8 = mkF m 0 #[rv a, iv pp, un, un, un, un, un, un] [] := by first | (simp [entryFrame, mkF, argsToLocals, Value.category]; done) | rfl
def Q_rmP (Z : State) (a : Addr) (pp : Int32) (ca : Addr) (tt : Int64) (f : (Nat → Int64)) (N : Nat) (h0 : Heap) (n0 : Nat) (v : Option Value) (h : Heap) (L : List Loc) : Prop := v = (some (.double (own_pv (Int32.ofNat N) (own_ps (Int32.ofNat N))))) ∧ Fr n0 L ∧ h = h0
set_option maxRecDepth 65536 in
set_option maxHeartbeats 40000000 in
theorem rmP (l : Launch) (Z : State) (a0 : Array Value) (hw : ∀ d ∈ tables_1, d.before a0 Z = true) (a : Addr) (pp : Int32) (ca : Addr) (tt : Int64) (f : (Nat → Int64)) (N : Nat) (h0 : Heap) (n0 : Nat) (Z0 : n0 ≤ h0.size) (F_a_counts : Fld Z h0 a "com/example/eimer/eimer/cli/Latencies" "counts" "[J" (.ref ca)) (F_a_total : Fld Z h0 a "com/example/eimer/eimer/cli/Latencies" "total" "J" (.long tt)) (A_ca : Arl Z h0 ca .long (own_vs f)) (ht : ¬ tt = (0 : Int64)) (hN : N < 7296) (hstop : ¬ own_S f N < own_rank tt pp) (hgo : ∀ n, n < N → own_S f n < own_rank tt pp) :
    Ctr l Z h0 (⟨"com/example/eimer/eimer/cli/Latencies", "percentile", "(I)D"⟩ : MethodName) prog_42_method_4_code 8 (some .double) [] ({ frames := 1, cells := 0, slots := 0, locals := 13 } : Room) #[(.ref a), (.int pp)] (Q_rmP Z a pp ca tt f N h0 n0) := by
  refine Ctr.make (plainFor_of_name pn_89) fun p e s m below meth c s₁ K hret hml hx hby hown hnm hZ X0 e0 hK => ?_
  have hown : s.vm.findClass "com/example/eimer/eimer/cli/Latencies" = some m.cls := hown
  have N0 := Fr.nil n0
  have K0 : Keep h0 h0 [] := Keep.refl _ _
  refine Wlk.of (fun _ k => castTop (ef_rmP m a pp) k) ?_
  show Wlk p.tables e below (s₁.setTop (mkF m 0 #[rv a, iv pp, un, un, un, un, un, un] [])) K
  refine Wlk.of (fun _ k => XS.aloadN X0.here hx rfl (hb hby d9_0) rfl rfl k) ?_
  show Wlk p.tables e below (s₁.setTop (mkF m 1 #[rv a, iv pp, un, un, un, un, un, un] [(.ref a)])) K
  obtain ⟨T1, X1, e1, st1⟩ := getF X0 hx hZ hown (host := "") (Or.inl (wd hw 34 rfl)) Via.refl e0 F_a_total (g := (mkF m 1 #[rv a, iv pp, un, un, un, un, un, un] [(.ref a)])) rfl rfl (hb hby d9_1)
  refine Wlk.of (fun _ k => st1 _ k) ?_
  show Wlk p.tables e below (T1.setTop (mkF m 4 #[rv a, iv pp, un, un, un, un, un, un] [(.long tt)])) K
  refine Wlk.of (fun _ k => XS.lconst X1.here hx rfl (hb hby d9_4) k) ?_
  show Wlk p.tables e below (T1.setTop (mkF m 5 #[rv a, iv pp, un, un, un, un, un, un] [(.long (0 : Int64)), (.long tt)])) K
  refine Wlk.of (fun _ k => XS.lcmp X1.here hx rfl (hb hby d9_5) rfl k) ?_
  show Wlk p.tables e below (T1.setTop (mkF m 6 #[rv a, iv pp, un, un, un, un, un, un] [(.int (lcmpW tt (0 : Int64)))])) K
  refine Wlk.of (fun _ k => XS.ifYes X1.here hx rfl (pc0 := 6) (pc' := 19) rfl (hb hby d9_6) rfl ((if0 _ _).trans (feq (fun q => ht ((lw_eq _ _).mp q))).2) (by decide) (by decide) k) ?_
  show Wlk p.tables e below (T1.setTop (mkF m 19 #[rv a, iv pp, un, un, un, un, un, un] [])) K
  refine Wlk.of (fun _ k => XS.aloadN X1.here hx rfl (hb hby d9_19) rfl rfl k) ?_
  show Wlk p.tables e below (T1.setTop (mkF m 20 #[rv a, iv pp, un, un, un, un, un, un] [(.ref a)])) K
  obtain ⟨T2, X2, e2, st2⟩ := getF X1 hx hZ hown (host := "") (Or.inl (wd hw 34 rfl)) Via.refl e1 F_a_total (g := (mkF m 20 #[rv a, iv pp, un, un, un, un, un, un] [(.ref a)])) rfl rfl (hb hby d9_20)
  refine Wlk.of (fun _ k => st2 _ k) ?_
  show Wlk p.tables e below (T2.setTop (mkF m 23 #[rv a, iv pp, un, un, un, un, un, un] [(.long tt)])) K
  refine Wlk.of (fun _ k => X2.ldc2Long hx hown (mvT hZ (wd hw 46 rfl)) (g := (mkF m 23 #[rv a, iv pp, un, un, un, un, un, un] [(.long tt)])) rfl (hb hby d9_23) _ k) ?_
  show Wlk p.tables e below (T2.setTop (mkF m 26 #[rv a, iv pp, un, un, un, un, un, un] [(.long (100 : Int64)), (.long tt)])) K
  refine Wlk.of (fun _ k => XS.ldiv X2.here hx rfl (hb hby d9_26) rfl (by decide) k) ?_
  show Wlk p.tables e below (T2.setTop (mkF m 27 #[rv a, iv pp, un, un, un, un, un, un] [(.long (tt / (100 : Int64)))])) K
  refine Wlk.of (fun _ k => XS.iloadN X2.here hx rfl (hb hby d9_27) rfl k) ?_
  show Wlk p.tables e below (T2.setTop (mkF m 28 #[rv a, iv pp, un, un, un, un, un, un] [(.int pp), (.long (tt / (100 : Int64)))])) K
  refine Wlk.of (fun _ k => XS.i2l X2.here hx rfl (hb hby d9_28) rfl k) ?_
  show Wlk p.tables e below (T2.setTop (mkF m 29 #[rv a, iv pp, un, un, un, un, un, un] [(.long (pp.toInt64)), (.long (tt / (100 : Int64)))])) K
  refine Wlk.of (fun _ k => XS.lmul X2.here hx rfl (hb hby d9_29) rfl k) ?_
  show Wlk p.tables e below (T2.setTop (mkF m 30 #[rv a, iv pp, un, un, un, un, un, un] [(.long ((tt / (100 : Int64)) * (pp.toInt64)))])) K
  refine Wlk.of (fun _ k => XS.aloadN X2.here hx rfl (hb hby d9_30) rfl rfl k) ?_
  show Wlk p.tables e below (T2.setTop (mkF m 31 #[rv a, iv pp, un, un, un, un, un, un] [(.ref a), (.long ((tt / (100 : Int64)) * (pp.toInt64)))])) K
  obtain ⟨T3, X3, e3, st3⟩ := getF X2 hx hZ hown (host := "") (Or.inl (wd hw 34 rfl)) Via.refl e2 F_a_total (g := (mkF m 31 #[rv a, iv pp, un, un, un, un, un, un] [(.ref a), (.long ((tt / (100 : Int64)) * (pp.toInt64)))])) rfl rfl (hb hby d9_31)
  refine Wlk.of (fun _ k => st3 _ k) ?_
  show Wlk p.tables e below (T3.setTop (mkF m 34 #[rv a, iv pp, un, un, un, un, un, un] [(.long tt), (.long ((tt / (100 : Int64)) * (pp.toInt64)))])) K
  refine Wlk.of (fun _ k => X3.ldc2Long hx hown (mvT hZ (wd hw 46 rfl)) (g := (mkF m 34 #[rv a, iv pp, un, un, un, un, un, un] [(.long tt), (.long ((tt / (100 : Int64)) * (pp.toInt64)))])) rfl (hb hby d9_34) _ k) ?_
  show Wlk p.tables e below (T3.setTop (mkF m 37 #[rv a, iv pp, un, un, un, un, un, un] [(.long (100 : Int64)), (.long tt), (.long ((tt / (100 : Int64)) * (pp.toInt64)))])) K
  refine Wlk.of (fun _ k => XS.lrem X3.here hx rfl (hb hby d9_37) rfl (by decide) k) ?_
  show Wlk p.tables e below (T3.setTop (mkF m 38 #[rv a, iv pp, un, un, un, un, un, un] [(.long (tt - tt / (100 : Int64) * (100 : Int64))), (.long ((tt / (100 : Int64)) * (pp.toInt64)))])) K
  refine Wlk.of (fun _ k => XS.iloadN X3.here hx rfl (hb hby d9_38) rfl k) ?_
  show Wlk p.tables e below (T3.setTop (mkF m 39 #[rv a, iv pp, un, un, un, un, un, un] [(.int pp), (.long (tt - tt / (100 : Int64) * (100 : Int64))), (.long ((tt / (100 : Int64)) * (pp.toInt64)))])) K
  refine Wlk.of (fun _ k => XS.i2l X3.here hx rfl (hb hby d9_39) rfl k) ?_
  show Wlk p.tables e below (T3.setTop (mkF m 40 #[rv a, iv pp, un, un, un, un, un, un] [(.long (pp.toInt64)), (.long (tt - tt / (100 : Int64) * (100 : Int64))), (.long ((tt / (100 : Int64)) * (pp.toInt64)))])) K
  refine Wlk.of (fun _ k => XS.lmul X3.here hx rfl (hb hby d9_40) rfl k) ?_
  show Wlk p.tables e below (T3.setTop (mkF m 41 #[rv a, iv pp, un, un, un, un, un, un] [(.long ((tt - tt / (100 : Int64) * (100 : Int64)) * (pp.toInt64))), (.long ((tt / (100 : Int64)) * (pp.toInt64)))])) K
  refine Wlk.of (fun _ k => X3.ldc2Long hx hown (mvT hZ (wd hw 47 rfl)) (g := (mkF m 41 #[rv a, iv pp, un, un, un, un, un, un] [(.long ((tt - tt / (100 : Int64) * (100 : Int64)) * (pp.toInt64))), (.long ((tt / (100 : Int64)) * (pp.toInt64)))])) rfl (hb hby d9_41) _ k) ?_
  show Wlk p.tables e below (T3.setTop (mkF m 44 #[rv a, iv pp, un, un, un, un, un, un] [(.long (99 : Int64)), (.long ((tt - tt / (100 : Int64) * (100 : Int64)) * (pp.toInt64))), (.long ((tt / (100 : Int64)) * (pp.toInt64)))])) K
  refine Wlk.of (fun _ k => XS.ladd X3.here hx rfl (hb hby d9_44) rfl k) ?_
  show Wlk p.tables e below (T3.setTop (mkF m 45 #[rv a, iv pp, un, un, un, un, un, un] [(.long (((tt - tt / (100 : Int64) * (100 : Int64)) * (pp.toInt64)) + (99 : Int64))), (.long ((tt / (100 : Int64)) * (pp.toInt64)))])) K
  refine Wlk.of (fun _ k => X3.ldc2Long hx hown (mvT hZ (wd hw 46 rfl)) (g := (mkF m 45 #[rv a, iv pp, un, un, un, un, un, un] [(.long (((tt - tt / (100 : Int64) * (100 : Int64)) * (pp.toInt64)) + (99 : Int64))), (.long ((tt / (100 : Int64)) * (pp.toInt64)))])) rfl (hb hby d9_45) _ k) ?_
  show Wlk p.tables e below (T3.setTop (mkF m 48 #[rv a, iv pp, un, un, un, un, un, un] [(.long (100 : Int64)), (.long (((tt - tt / (100 : Int64) * (100 : Int64)) * (pp.toInt64)) + (99 : Int64))), (.long ((tt / (100 : Int64)) * (pp.toInt64)))])) K
  refine Wlk.of (fun _ k => XS.ldiv X3.here hx rfl (hb hby d9_48) rfl (by decide) k) ?_
  show Wlk p.tables e below (T3.setTop (mkF m 49 #[rv a, iv pp, un, un, un, un, un, un] [(.long ((((tt - tt / (100 : Int64) * (100 : Int64)) * (pp.toInt64)) + (99 : Int64)) / (100 : Int64))), (.long ((tt / (100 : Int64)) * (pp.toInt64)))])) K
  refine Wlk.of (fun _ k => XS.ladd X3.here hx rfl (hb hby d9_49) rfl k) ?_
  show Wlk p.tables e below (T3.setTop (mkF m 50 #[rv a, iv pp, un, un, un, un, un, un] [(.long (((tt / (100 : Int64)) * (pp.toInt64)) + ((((tt - tt / (100 : Int64) * (100 : Int64)) * (pp.toInt64)) + (99 : Int64)) / (100 : Int64))))])) K
  refine Wlk.of (fun _ k => XS.lstoreN X3.here hx rfl (hb hby d9_50) rfl (l' := #[rv a, iv pp, jv (((tt / (100 : Int64)) * (pp.toInt64)) + ((((tt - tt / (100 : Int64) * (100 : Int64)) * (pp.toInt64)) + (99 : Int64)) / (100 : Int64))), sd, un, un, un, un]) rfl k) ?_
  show Wlk p.tables e below (T3.setTop (mkF m 51 #[rv a, iv pp, jv (((tt / (100 : Int64)) * (pp.toInt64)) + ((((tt - tt / (100 : Int64) * (100 : Int64)) * (pp.toInt64)) + (99 : Int64)) / (100 : Int64))), sd, un, un, un, un] [])) K
  generalize hv4 : (((tt / (100 : Int64)) * (pp.toInt64)) + ((((tt - tt / (100 : Int64) * (100 : Int64)) * (pp.toInt64)) + (99 : Int64)) / (100 : Int64))) = v4
  refine Wlk.of (fun _ k => XS.iconst X3.here hx rfl (hb hby d9_51) k) ?_
  show Wlk p.tables e below (T3.setTop (mkF m 52 #[rv a, iv pp, jv v4, sd, un, un, un, un] [(.int (0 : Int32))])) K
  refine Wlk.of (fun _ k => XS.istore X3.here hx rfl (hb hby d9_52) rfl (l' := #[rv a, iv pp, jv v4, sd, iv (0 : Int32), un, un, un]) rfl k) ?_
  show Wlk p.tables e below (T3.setTop (mkF m 54 #[rv a, iv pp, jv v4, sd, iv (0 : Int32), un, un, un] [])) K
  refine Wlk.of (fun _ k => XS.aloadN X3.here hx rfl (hb hby d9_54) rfl rfl k) ?_
  show Wlk p.tables e below (T3.setTop (mkF m 55 #[rv a, iv pp, jv v4, sd, iv (0 : Int32), un, un, un] [(.ref a)])) K
  obtain ⟨T5, X5, e5, st5⟩ := getF X3 hx hZ hown (host := "") (Or.inl (wd hw 11 rfl)) Via.refl e3 F_a_counts (g := (mkF m 55 #[rv a, iv pp, jv v4, sd, iv (0 : Int32), un, un, un] [(.ref a)])) rfl rfl (hb hby d9_55)
  refine Wlk.of (fun _ k => st5 _ k) ?_
  show Wlk p.tables e below (T5.setTop (mkF m 58 #[rv a, iv pp, jv v4, sd, iv (0 : Int32), un, un, un] [(.ref ca)])) K
  refine Wlk.of (fun _ k => XS.iconst X5.here hx rfl (hb hby d9_58) k) ?_
  show Wlk p.tables e below (T5.setTop (mkF m 59 #[rv a, iv pp, jv v4, sd, iv (0 : Int32), un, un, un] [(.int (0 : Int32)), (.ref ca)])) K
  refine Wlk.of (fun _ k => ldJ X5 hx hZ e5 A_ca (j := (0 : Int32)) (i := 0) (by decide) (by decide) (own_get (by decide)) (g := (mkF m 59 #[rv a, iv pp, jv v4, sd, iv (0 : Int32), un, un, un] [(.int (0 : Int32)), (.ref ca)])) rfl rfl (hb hby d9_59) _ k) ?_
  show Wlk p.tables e below (T5.setTop (mkF m 60 #[rv a, iv pp, jv v4, sd, iv (0 : Int32), un, un, un] [(.long (f 0))])) K
  refine Wlk.of (fun _ k => XS.lstore X5.here hx rfl (hb hby d9_60) rfl (l' := #[rv a, iv pp, jv v4, sd, iv (0 : Int32), jv (f 0), sd, un]) rfl k) ?_
  show Wlk p.tables e below (T5.setTop (mkF m 62 #[rv a, iv pp, jv v4, sd, iv (0 : Int32), jv (f 0), sd, un] [])) K
  generalize hv6 : (f 0) = v6
  have hrk : own_rank tt pp = v4 := hv4
  have hc0 : own_S f 0 = v6 := hv6
  rw [hrk] at hstop hgo
  rw [← hc0]
  have loop : ∀ (kk n : Nat) (T : State) (ls : List Loc), n + kk = N → Stand p l e ({ frames := 1, cells := 0, slots := 0, locals := 13 } : Room) s m #[(.ref a), (.int pp)] below meth c T ls 0 0 → T.heap = h0 → Fr n0 ls → Wlk p.tables e below (T.setTop (mkF m 62 #[rv a, iv pp, jv v4, sd, iv (Int32.ofNat n), jv (own_S f n), sd, un] [])) K := by
    intro kk
    induction kk with
    | zero =>
      intro n T ls hn X eT Nf
      obtain rfl : n = N := by omega
      refine Wlk.of (fun _ k => XS.lload X.here hx rfl (hb hby d9_62) rfl k) ?_
      show Wlk p.tables e below (T.setTop (mkF m 64 #[rv a, iv pp, jv v4, sd, iv (Int32.ofNat n), jv (own_S f n), sd, un] [(.long (own_S f n))])) K
      refine Wlk.of (fun _ k => XS.lloadN X.here hx rfl (hb hby d9_64) rfl k) ?_
      show Wlk p.tables e below (T.setTop (mkF m 65 #[rv a, iv pp, jv v4, sd, iv (Int32.ofNat n), jv (own_S f n), sd, un] [(.long v4), (.long (own_S f n))])) K
      refine Wlk.of (fun _ k => XS.lcmp X.here hx rfl (hb hby d9_65) rfl k) ?_
      show Wlk p.tables e below (T.setTop (mkF m 66 #[rv a, iv pp, jv v4, sd, iv (Int32.ofNat n), jv (own_S f n), sd, un] [(.int (lcmpW (own_S f n) v4))])) K
      refine Wlk.of (fun _ k => XS.ifYes X.here hx rfl (pc0 := 66) (pc' := 87) rfl (hb hby d9_66) rfl ((if0 _ _).trans (flt (fun q => hstop ((lw_lt _ _).mp q))).2.1) (by decide) (by decide) k) ?_
      show Wlk p.tables e below (T.setTop (mkF m 87 #[rv a, iv pp, jv v4, sd, iv (Int32.ofNat n), jv (own_S f n), sd, un] [])) K
      refine Wlk.of (fun _ k => XS.iconst X.here hx rfl (hb hby d9_87) k) ?_
      show Wlk p.tables e below (T.setTop (mkF m 88 #[rv a, iv pp, jv v4, sd, iv (Int32.ofNat n), jv (own_S f n), sd, un] [(.int (0 : Int32))])) K
      refine Wlk.of (fun _ k => XS.iload X.here hx rfl (hb hby d9_88) rfl k) ?_
      show Wlk p.tables e below (T.setTop (mkF m 90 #[rv a, iv pp, jv v4, sd, iv (Int32.ofNat n), jv (own_S f n), sd, un] [(.int (Int32.ofNat n)), (.int (0 : Int32))])) K
      refine Wlk.of (fun _ k => XS.bipush X.here hx rfl (hb hby d9_90) k) ?_
      show Wlk p.tables e below (T.setTop (mkF m 92 #[rv a, iv pp, jv v4, sd, iv (Int32.ofNat n), jv (own_S f n), sd, un] [(.int (7 : Int32)), (.int (Int32.ofNat n)), (.int (0 : Int32))])) K
      refine Wlk.of (fun _ k => XS.ishr X.here hx rfl (hb hby d9_92) rfl k) ?_
      show Wlk p.tables e below (T.setTop (mkF m 93 #[rv a, iv pp, jv v4, sd, iv (Int32.ofNat n), jv (own_S f n), sd, un] [(.int ((Int32.ofNat n) >>> ((7 : Int32) &&& 31))), (.int (0 : Int32))])) K
      refine Wlk.of (fun _ k => XS.iconst X.here hx rfl (hb hby d9_93) k) ?_
      show Wlk p.tables e below (T.setTop (mkF m 94 #[rv a, iv pp, jv v4, sd, iv (Int32.ofNat n), jv (own_S f n), sd, un] [(.int (1 : Int32)), (.int ((Int32.ofNat n) >>> ((7 : Int32) &&& 31))), (.int (0 : Int32))])) K
      refine Wlk.of (fun _ k => XS.isub X.here hx rfl (hb hby d9_94) rfl k) ?_
      show Wlk p.tables e below (T.setTop (mkF m 95 #[rv a, iv pp, jv v4, sd, iv (Int32.ofNat n), jv (own_S f n), sd, un] [(.int (((Int32.ofNat n) >>> ((7 : Int32) &&& 31)) - (1 : Int32))), (.int (0 : Int32))])) K
      obtain ⟨v7, T7, L7, X7, q7, st7⟩ := Ctr.static (rmXI l Z a0 hw (0 : Int32) ((((Int32.ofNat n) >>> ((7 : Int32) &&& 31)) - (1 : Int32))) h0 n0 (Nat.le_trans Z0 K0.1) ) X hx hZ eT hown (wd hw 31 rfl) (wd hw 32 rfl) (wd hw 20 rfl) (wd hw 33 rfl) (by decide) pd_92 (g := (mkF m 95 #[rv a, iv pp, jv v4, sd, iv (Int32.ofNat n), jv (own_S f n), sd, un] [(.int (((Int32.ofNat n) >>> ((7 : Int32) &&& 31)) - (1 : Int32))), (.int (0 : Int32))])) rfl (by rw [hml]; rfl) (argsL := [(.int (0 : Int32)), (.int (((Int32.ofNat n) >>> ((7 : Int32) &&& 31)) - (1 : Int32)))]) (rest := []) rfl rfl rfl (W := 0) (by show 2 * 0 + _ ≤ _; exact Nat.le_of_eq rfl) (by decide) (by decide) (hb hby d9_95) (by decide) (by decide)
      obtain ⟨rfl, N7q, hh7⟩ := q7
      have N8 := Fr.app Nf N7q
      refine Wlk.of (fun _ k => st7 _ k) ?_
      show Wlk p.tables e below (T7.setTop (mkF m 98 #[rv a, iv pp, jv v4, sd, iv (Int32.ofNat n), jv (own_S f n), sd, un] [(.int (if (0 : Int32) < (((Int32.ofNat n) >>> ((7 : Int32) &&& 31)) - (1 : Int32)) then (((Int32.ofNat n) >>> ((7 : Int32) &&& 31)) - (1 : Int32)) else (0 : Int32)))])) K
      refine Wlk.of (fun _ k => XS.istore X7.here hx rfl (hb hby d9_98) rfl (l' := #[rv a, iv pp, jv v4, sd, iv (Int32.ofNat n), iv (if (0 : Int32) < (((Int32.ofNat n) >>> ((7 : Int32) &&& 31)) - (1 : Int32)) then (((Int32.ofNat n) >>> ((7 : Int32) &&& 31)) - (1 : Int32)) else (0 : Int32)), un, un]) rfl k) ?_
      show Wlk p.tables e below (T7.setTop (mkF m 100 #[rv a, iv pp, jv v4, sd, iv (Int32.ofNat n), iv (if (0 : Int32) < (((Int32.ofNat n) >>> ((7 : Int32) &&& 31)) - (1 : Int32)) then (((Int32.ofNat n) >>> ((7 : Int32) &&& 31)) - (1 : Int32)) else (0 : Int32)), un, un] [])) K
      generalize hv9 : (if (0 : Int32) < (((Int32.ofNat n) >>> ((7 : Int32) &&& 31)) - (1 : Int32)) then (((Int32.ofNat n) >>> ((7 : Int32) &&& 31)) - (1 : Int32)) else (0 : Int32)) = v9
      refine Wlk.of (fun _ k => XS.iload X7.here hx rfl (hb hby d9_100) rfl k) ?_
      show Wlk p.tables e below (T7.setTop (mkF m 102 #[rv a, iv pp, jv v4, sd, iv (Int32.ofNat n), iv v9, un, un] [(.int (Int32.ofNat n))])) K
      refine Wlk.of (fun _ k => XS.iload X7.here hx rfl (hb hby d9_102) rfl k) ?_
      show Wlk p.tables e below (T7.setTop (mkF m 104 #[rv a, iv pp, jv v4, sd, iv (Int32.ofNat n), iv v9, un, un] [(.int v9), (.int (Int32.ofNat n))])) K
      refine Wlk.of (fun _ k => XS.bipush X7.here hx rfl (hb hby d9_104) k) ?_
      show Wlk p.tables e below (T7.setTop (mkF m 106 #[rv a, iv pp, jv v4, sd, iv (Int32.ofNat n), iv v9, un, un] [(.int (7 : Int32)), (.int v9), (.int (Int32.ofNat n))])) K
      refine Wlk.of (fun _ k => XS.ishl X7.here hx rfl (hb hby d9_106) rfl k) ?_
      show Wlk p.tables e below (T7.setTop (mkF m 107 #[rv a, iv pp, jv v4, sd, iv (Int32.ofNat n), iv v9, un, un] [(.int (v9 <<< ((7 : Int32) &&& 31))), (.int (Int32.ofNat n))])) K
      refine Wlk.of (fun _ k => XS.isub X7.here hx rfl (hb hby d9_107) rfl k) ?_
      show Wlk p.tables e below (T7.setTop (mkF m 108 #[rv a, iv pp, jv v4, sd, iv (Int32.ofNat n), iv v9, un, un] [(.int ((Int32.ofNat n) - (v9 <<< ((7 : Int32) &&& 31))))])) K
      refine Wlk.of (fun _ k => XS.i2l X7.here hx rfl (hb hby d9_108) rfl k) ?_
      show Wlk p.tables e below (T7.setTop (mkF m 109 #[rv a, iv pp, jv v4, sd, iv (Int32.ofNat n), iv v9, un, un] [(.long (((Int32.ofNat n) - (v9 <<< ((7 : Int32) &&& 31))).toInt64))])) K
      refine Wlk.of (fun _ k => XS.iload X7.here hx rfl (hb hby d9_109) rfl k) ?_
      show Wlk p.tables e below (T7.setTop (mkF m 111 #[rv a, iv pp, jv v4, sd, iv (Int32.ofNat n), iv v9, un, un] [(.int v9), (.long (((Int32.ofNat n) - (v9 <<< ((7 : Int32) &&& 31))).toInt64))])) K
      refine Wlk.of (fun _ k => XS.lshl X7.here hx rfl (hb hby d9_111) rfl k) ?_
      show Wlk p.tables e below (T7.setTop (mkF m 112 #[rv a, iv pp, jv v4, sd, iv (Int32.ofNat n), iv v9, un, un] [(.long ((((Int32.ofNat n) - (v9 <<< ((7 : Int32) &&& 31))).toInt64) <<< (v9 &&& 0x3f).toInt64))])) K
      refine Wlk.of (fun _ k => XS.lstore X7.here hx rfl (hb hby d9_112) rfl (l' := #[rv a, iv pp, jv v4, sd, iv (Int32.ofNat n), iv v9, jv ((((Int32.ofNat n) - (v9 <<< ((7 : Int32) &&& 31))).toInt64) <<< (v9 &&& 0x3f).toInt64), sd]) rfl k) ?_
      show Wlk p.tables e below (T7.setTop (mkF m 114 #[rv a, iv pp, jv v4, sd, iv (Int32.ofNat n), iv v9, jv ((((Int32.ofNat n) - (v9 <<< ((7 : Int32) &&& 31))).toInt64) <<< (v9 &&& 0x3f).toInt64), sd] [])) K
      generalize hv10 : ((((Int32.ofNat n) - (v9 <<< ((7 : Int32) &&& 31))).toInt64) <<< (v9 &&& 0x3f).toInt64) = v10
      refine Wlk.of (fun _ k => XS.lload X7.here hx rfl (hb hby d9_114) rfl k) ?_
      show Wlk p.tables e below (T7.setTop (mkF m 116 #[rv a, iv pp, jv v4, sd, iv (Int32.ofNat n), iv v9, jv v10, sd] [(.long v10)])) K
      refine Wlk.of (fun _ k => XS.l2dS X7.here hx rfl (hb hby d9_116) rfl rfl k) ?_
      show Wlk p.tables e below (T7.setTop (mkF m 117 #[rv a, iv pp, jv v4, sd, iv (Int32.ofNat n), iv v9, jv v10, sd] [(.double (FP.l2d v10))])) K
      refine Wlk.of (fun _ k => XS.lconst X7.here hx rfl (hb hby d9_117) k) ?_
      show Wlk p.tables e below (T7.setTop (mkF m 118 #[rv a, iv pp, jv v4, sd, iv (Int32.ofNat n), iv v9, jv v10, sd] [(.long (1 : Int64)), (.double (FP.l2d v10))])) K
      refine Wlk.of (fun _ k => XS.iload X7.here hx rfl (hb hby d9_118) rfl k) ?_
      show Wlk p.tables e below (T7.setTop (mkF m 120 #[rv a, iv pp, jv v4, sd, iv (Int32.ofNat n), iv v9, jv v10, sd] [(.int v9), (.long (1 : Int64)), (.double (FP.l2d v10))])) K
      refine Wlk.of (fun _ k => XS.lshl X7.here hx rfl (hb hby d9_120) rfl k) ?_
      show Wlk p.tables e below (T7.setTop (mkF m 121 #[rv a, iv pp, jv v4, sd, iv (Int32.ofNat n), iv v9, jv v10, sd] [(.long ((1 : Int64) <<< (v9 &&& 0x3f).toInt64)), (.double (FP.l2d v10))])) K
      refine Wlk.of (fun _ k => XS.lconst X7.here hx rfl (hb hby d9_121) k) ?_
      show Wlk p.tables e below (T7.setTop (mkF m 122 #[rv a, iv pp, jv v4, sd, iv (Int32.ofNat n), iv v9, jv v10, sd] [(.long (1 : Int64)), (.long ((1 : Int64) <<< (v9 &&& 0x3f).toInt64)), (.double (FP.l2d v10))])) K
      refine Wlk.of (fun _ k => XS.lsub X7.here hx rfl (hb hby d9_122) rfl k) ?_
      show Wlk p.tables e below (T7.setTop (mkF m 123 #[rv a, iv pp, jv v4, sd, iv (Int32.ofNat n), iv v9, jv v10, sd] [(.long (((1 : Int64) <<< (v9 &&& 0x3f).toInt64) - (1 : Int64))), (.double (FP.l2d v10))])) K
      refine Wlk.of (fun _ k => XS.l2dS X7.here hx rfl (hb hby d9_123) rfl rfl k) ?_
      show Wlk p.tables e below (T7.setTop (mkF m 124 #[rv a, iv pp, jv v4, sd, iv (Int32.ofNat n), iv v9, jv v10, sd] [(.double (FP.l2d (((1 : Int64) <<< (v9 &&& 0x3f).toInt64) - (1 : Int64)))), (.double (FP.l2d v10))])) K
      refine Wlk.of (fun _ k => X7.ldc2DoubleC hx hown (mvT hZ (wd hw 48 rfl)) (g := (mkF m 124 #[rv a, iv pp, jv v4, sd, iv (Int32.ofNat n), iv v9, jv v10, sd] [(.double (FP.l2d (((1 : Int64) <<< (v9 &&& 0x3f).toInt64) - (1 : Int64)))), (.double (FP.l2d v10))])) rfl (hb hby d9_124) _ k) ?_
      show Wlk p.tables e below (T7.setTop (mkF m 127 #[rv a, iv pp, jv v4, sd, iv (Int32.ofNat n), iv v9, jv v10, sd] [(.double (4611686018427387904 : UInt64)), (.double (FP.l2d (((1 : Int64) <<< (v9 &&& 0x3f).toInt64) - (1 : Int64)))), (.double (FP.l2d v10))])) K
      refine Wlk.of (fun _ k => XS.ddivS X7.here hx rfl (hb hby d9_127) rfl (own_pn _ 0).1 rfl k) ?_
      show Wlk p.tables e below (T7.setTop (mkF m 128 #[rv a, iv pp, jv v4, sd, iv (Int32.ofNat n), iv v9, jv v10, sd] [(.double (FP.ddiv (FP.l2d (((1 : Int64) <<< (v9 &&& 0x3f).toInt64) - (1 : Int64))) (4611686018427387904 : UInt64))), (.double (FP.l2d v10))])) K
      refine Wlk.of (fun _ k => XS.daddS X7.here hx rfl (hb hby d9_128) rfl (own_pn _ _).2 rfl k) ?_
      show Wlk p.tables e below (T7.setTop (mkF m 129 #[rv a, iv pp, jv v4, sd, iv (Int32.ofNat n), iv v9, jv v10, sd] [(.double (FP.dadd (FP.l2d v10) (FP.ddiv (FP.l2d (((1 : Int64) <<< (v9 &&& 0x3f).toInt64) - (1 : Int64))) (4611686018427387904 : UInt64))))])) K
      refine hK (some (.double (FP.dadd (FP.l2d v10) (FP.ddiv (FP.l2d (((1 : Int64) <<< (v9 &&& 0x3f).toInt64) - (1 : Int64))) (4611686018427387904 : UInt64))))) X7 (fun q => by cases q) (fun fs hr => retOut X7 hx hret rfl (Or.inr (Or.inr (Or.inl ⟨rfl, rfl, _, rfl⟩))) (hb hby d9_129) hr) ?_ (by decide) (by decide)
      rw [show T7.heap = h0 from hh7]
      exact ⟨(by rw [show own_ps (Int32.ofNat n) = v9 from hv9]; unfold own_pv; rw [hv10]), N8, rfl⟩
    | succ kk ih =>
      intro n T ls hn X eT Nf
      have hlt : n < N := by omega
      refine Wlk.of (fun _ k => XS.lload X.here hx rfl (hb hby d9_62) rfl k) ?_
      show Wlk p.tables e below (T.setTop (mkF m 64 #[rv a, iv pp, jv v4, sd, iv (Int32.ofNat n), jv (own_S f n), sd, un] [(.long (own_S f n))])) K
      refine Wlk.of (fun _ k => XS.lloadN X.here hx rfl (hb hby d9_64) rfl k) ?_
      show Wlk p.tables e below (T.setTop (mkF m 65 #[rv a, iv pp, jv v4, sd, iv (Int32.ofNat n), jv (own_S f n), sd, un] [(.long v4), (.long (own_S f n))])) K
      refine Wlk.of (fun _ k => XS.lcmp X.here hx rfl (hb hby d9_65) rfl k) ?_
      show Wlk p.tables e below (T.setTop (mkF m 66 #[rv a, iv pp, jv v4, sd, iv (Int32.ofNat n), jv (own_S f n), sd, un] [(.int (lcmpW (own_S f n) v4))])) K
      refine Wlk.of (fun _ k => XS.ifNo X.here hx rfl (hb hby d9_66) rfl ((if0 _ _).trans (tlt ((lw_lt _ _).mpr (hgo n hlt))).2.1) k) ?_
      show Wlk p.tables e below (T.setTop (mkF m 69 #[rv a, iv pp, jv v4, sd, iv (Int32.ofNat n), jv (own_S f n), sd, un] [])) K
      refine Wlk.of (fun _ k => XS.iinc X.here hx rfl (hb hby d9_69) rfl (l' := #[rv a, iv pp, jv v4, sd, iv ((Int32.ofNat n) + (1 : Int32)), jv (own_S f n), sd, un]) rfl k) ?_
      show Wlk p.tables e below (T.setTop (mkF m 72 #[rv a, iv pp, jv v4, sd, iv ((Int32.ofNat n) + (1 : Int32)), jv (own_S f n), sd, un] [])) K
      rw [own_succ]
      refine Wlk.of (fun _ k => XS.lload X.here hx rfl (hb hby d9_72) rfl k) ?_
      show Wlk p.tables e below (T.setTop (mkF m 74 #[rv a, iv pp, jv v4, sd, iv (Int32.ofNat (n + 1)), jv (own_S f n), sd, un] [(.long (own_S f n))])) K
      refine Wlk.of (fun _ k => XS.aloadN X.here hx rfl (hb hby d9_74) rfl rfl k) ?_
      show Wlk p.tables e below (T.setTop (mkF m 75 #[rv a, iv pp, jv v4, sd, iv (Int32.ofNat (n + 1)), jv (own_S f n), sd, un] [(.ref a), (.long (own_S f n))])) K
      obtain ⟨T11, X11, e11, st11⟩ := getF X hx hZ hown (host := "") (Or.inl (wd hw 11 rfl)) Via.refl eT F_a_counts (g := (mkF m 75 #[rv a, iv pp, jv v4, sd, iv (Int32.ofNat (n + 1)), jv (own_S f n), sd, un] [(.ref a), (.long (own_S f n))])) rfl rfl (hb hby d9_75)
      refine Wlk.of (fun _ k => st11 _ k) ?_
      show Wlk p.tables e below (T11.setTop (mkF m 78 #[rv a, iv pp, jv v4, sd, iv (Int32.ofNat (n + 1)), jv (own_S f n), sd, un] [(.ref ca), (.long (own_S f n))])) K
      refine Wlk.of (fun _ k => XS.iload X11.here hx rfl (hb hby d9_78) rfl k) ?_
      show Wlk p.tables e below (T11.setTop (mkF m 80 #[rv a, iv pp, jv v4, sd, iv (Int32.ofNat (n + 1)), jv (own_S f n), sd, un] [(.int (Int32.ofNat (n + 1))), (.ref ca), (.long (own_S f n))])) K
      refine Wlk.of (fun _ k => ldJ X11 hx hZ e11 A_ca (j := (Int32.ofNat (n + 1))) (i := (n + 1)) (own_nat (by omega)) (own_nneg (by omega)) (own_get (by omega)) (g := (mkF m 80 #[rv a, iv pp, jv v4, sd, iv (Int32.ofNat (n + 1)), jv (own_S f n), sd, un] [(.int (Int32.ofNat (n + 1))), (.ref ca), (.long (own_S f n))])) rfl rfl (hb hby d9_80) _ k) ?_
      show Wlk p.tables e below (T11.setTop (mkF m 81 #[rv a, iv pp, jv v4, sd, iv (Int32.ofNat (n + 1)), jv (own_S f n), sd, un] [(.long (f (n + 1))), (.long (own_S f n))])) K
      refine Wlk.of (fun _ k => XS.ladd X11.here hx rfl (hb hby d9_81) rfl k) ?_
      show Wlk p.tables e below (T11.setTop (mkF m 82 #[rv a, iv pp, jv v4, sd, iv (Int32.ofNat (n + 1)), jv (own_S f n), sd, un] [(.long ((own_S f n) + (f (n + 1))))])) K
      refine Wlk.of (fun _ k => XS.lstore X11.here hx rfl (hb hby d9_82) rfl (l' := #[rv a, iv pp, jv v4, sd, iv (Int32.ofNat (n + 1)), jv ((own_S f n) + (f (n + 1))), sd, un]) rfl k) ?_
      show Wlk p.tables e below (T11.setTop (mkF m 84 #[rv a, iv pp, jv v4, sd, iv (Int32.ofNat (n + 1)), jv ((own_S f n) + (f (n + 1))), sd, un] [])) K
      generalize hv12 : ((own_S f n) + (f (n + 1))) = v12
      refine Wlk.of (fun _ k => XS.goto X11.here hx rfl (pc0 := 84) (pc' := 62) rfl (hb hby d9_84) (by decide) (by decide) k) ?_
      show Wlk p.tables e below (T11.setTop (mkF m 62 #[rv a, iv pp, jv v4, sd, iv (Int32.ofNat (n + 1)), jv v12, sd, un] [])) K
      rw [← hv12]
      show Wlk p.tables e below (T11.setTop (mkF m 62 #[rv a, iv pp, jv v4, sd, iv (Int32.ofNat (n + 1)), jv (own_S f (n + 1)), sd, un] [])) K
      exact ih (n + 1) _ _ (by omega) X11 e11 Nf
  exact loop N 0 _ _ (by omega) X5 e5 N0
theorem pd_230 : parseMethodDescriptor "()V" = some ⟨[], none⟩ := by decide +kernel
theorem pd_231 : parseMethodDescriptor "(J)V" = some ⟨[.long], none⟩ := by decide +kernel
theorem pd_232 : parseMethodDescriptor "(Lcom/example/eimer/eimer/cli/Latencies;)V" = some ⟨[(.object "com/example/eimer/eimer/cli/Latencies")], none⟩ := by decide +kernel
theorem pd_233 : parseMethodDescriptor "(I)D" = some ⟨[.int], some .double⟩ := by decide +kernel
theorem pn_234 : plainName "com/example/eimer/eimer/cli/LatenciesAddPinLaw" = true := by first | (simp [plainName, overriddenIn]; done) | decide +kernel
theorem ef_rm0 (m : MethodId) (q1 : Int64) (q2 : Int64) (q3 : Int64) (p4 : Int32) (p5 : Int32) : entryFrame m #[(.long q1), (.long q2), (.long q3), (.int p4), (.int p5)] maxLocals = mkF m 0 #[jv q1, sd, jv q2, sd, jv q3, sd, iv p4, iv p5, un, un, un, un, un, un, un, un, un, un, un] [] := by first | (simp [entryFrame, mkF, argsToLocals, Value.category, maxLocals]; done) | rfl
def Q_rm0 (Z : State) (q1 : Int64) (q2 : Int64) (q3 : Int64) (p4 : Int32) (p5 : Int32) (h0 : Heap) (n0 : Nat) (v : Option Value) (h : Heap) (L : List Loc) : Prop := v = (some (.int (1 : Int32))) ∧ Fr n0 L
set_option maxRecDepth 65536 in
set_option maxHeartbeats 40000000 in
theorem rm0 (l : Launch) (Z : State) (a0 : Array Value) (hw : ∀ d ∈ tables_1, d.before a0 Z = true) (ws : List Jvm.Cond) (q1 : Int64) (q2 : Int64) (q3 : Int64) (p4 : Int32) (p5 : Int32) (h0 : Heap) (n0 : Nat) (Z0 : n0 ≤ h0.size) :
    Ctr l Z h0 x code maxLocals ret ws room_1 #[(.long q1), (.long q2), (.long q3), (.int p4), (.int p5)] (Q_rm0 Z q1 q2 q3 p4 p5 h0 n0) := by
  refine Ctr.make (plainFor_of_name pn_234) fun p e s m below meth c s₁ K hret hml hx hby hown hnm hZ X0 e0 hK => ?_
  have hown : s.vm.findClass "com/example/eimer/eimer/cli/LatenciesAddPinLaw" = some m.cls := hown
  have hml : c.maxLocals = 19 := hml
  have N0 := Fr.nil n0
  have K0 : Keep h0 h0 [] := Keep.refl _ _
  refine Wlk.of (fun _ k => castTop (ef_rm0 m q1 q2 q3 p4 p5) k) ?_
  show Wlk p.tables e below (s₁.setTop (mkF m 0 #[jv q1, sd, jv q2, sd, jv q3, sd, iv p4, iv p5, un, un, un, un, un, un, un, un, un, un, un] [])) K
  refine Wlk.of (fun _ k => XS.iload X0.here hx rfl (hb hby at_0) rfl k) ?_
  show Wlk p.tables e below (s₁.setTop (mkF m 2 #[jv q1, sd, jv q2, sd, jv q3, sd, iv p4, iv p5, un, un, un, un, un, un, un, un, un, un, un] [(.int p4)])) K
  refine Wlk.of (fun _ k => XS.iconst X0.here hx rfl (hb hby at_2) k) ?_
  show Wlk p.tables e below (s₁.setTop (mkF m 3 #[jv q1, sd, jv q2, sd, jv q3, sd, iv p4, iv p5, un, un, un, un, un, un, un, un, un, un, un] [(.int (1 : Int32)), (.int p4)])) K
  refine Wlk.of (fun _ k => XS.iand X0.here hx rfl (hb hby at_3) rfl k) ?_
  show Wlk p.tables e below (s₁.setTop (mkF m 4 #[jv q1, sd, jv q2, sd, jv q3, sd, iv p4, iv p5, un, un, un, un, un, un, un, un, un, un, un] [(.int (p4 &&& (1 : Int32)))])) K
  have J1 : ∀ (T1 : State), Stand p l e room_1 s m #[(.long q1), (.long q2), (.long q3), (.int p4), (.int p5)] below meth c T1 [] 0 0 → T1.heap = h0 → ∀ (j1_0 : Int32), j1_0 = (if (p4 &&& (1 : Int32)) = (0 : Int32) then (0 : Int32) else (1 : Int32)) → Wlk p.tables e below (T1.setTop (mkF m 12 #[jv q1, sd, jv q2, sd, jv q3, sd, iv p4, iv p5, un, un, un, un, un, un, un, un, un, un, un] [(.int j1_0)])) K := by
    intro T1 X1 e1 j1_0 hj1_0
    refine Wlk.of (fun _ k => XS.istore X1.here hx rfl (hb hby at_12) rfl (l' := #[jv q1, sd, jv q2, sd, jv q3, sd, iv p4, iv p5, iv j1_0, un, un, un, un, un, un, un, un, un, un]) rfl k) ?_
    show Wlk p.tables e below (T1.setTop (mkF m 14 #[jv q1, sd, jv q2, sd, jv q3, sd, iv p4, iv p5, iv j1_0, un, un, un, un, un, un, un, un, un, un] [])) K
    refine Wlk.of (fun _ k => XS.iload X1.here hx rfl (hb hby at_14) rfl k) ?_
    show Wlk p.tables e below (T1.setTop (mkF m 16 #[jv q1, sd, jv q2, sd, jv q3, sd, iv p4, iv p5, iv j1_0, un, un, un, un, un, un, un, un, un, un] [(.int p4)])) K
    refine Wlk.of (fun _ k => XS.iconst X1.here hx rfl (hb hby at_16) k) ?_
    show Wlk p.tables e below (T1.setTop (mkF m 17 #[jv q1, sd, jv q2, sd, jv q3, sd, iv p4, iv p5, iv j1_0, un, un, un, un, un, un, un, un, un, un] [(.int (2 : Int32)), (.int p4)])) K
    refine Wlk.of (fun _ k => XS.iand X1.here hx rfl (hb hby at_17) rfl k) ?_
    show Wlk p.tables e below (T1.setTop (mkF m 18 #[jv q1, sd, jv q2, sd, jv q3, sd, iv p4, iv p5, iv j1_0, un, un, un, un, un, un, un, un, un, un] [(.int (p4 &&& (2 : Int32)))])) K
    have J2 : ∀ (T2 : State), Stand p l e room_1 s m #[(.long q1), (.long q2), (.long q3), (.int p4), (.int p5)] below meth c T2 [] 0 0 → T2.heap = h0 → ∀ (j2_0 : Int32), j2_0 = (if (p4 &&& (2 : Int32)) = (0 : Int32) then (0 : Int32) else (1 : Int32)) → Wlk p.tables e below (T2.setTop (mkF m 26 #[jv q1, sd, jv q2, sd, jv q3, sd, iv p4, iv p5, iv j1_0, un, un, un, un, un, un, un, un, un, un] [(.int j2_0)])) K := by
      intro T2 X2 e2 j2_0 hj2_0
      refine Wlk.of (fun _ k => XS.istore X2.here hx rfl (hb hby at_26) rfl (l' := #[jv q1, sd, jv q2, sd, jv q3, sd, iv p4, iv p5, iv j1_0, iv j2_0, un, un, un, un, un, un, un, un, un]) rfl k) ?_
      show Wlk p.tables e below (T2.setTop (mkF m 28 #[jv q1, sd, jv q2, sd, jv q3, sd, iv p4, iv p5, iv j1_0, iv j2_0, un, un, un, un, un, un, un, un, un] [])) K
      refine Wlk.of (fun _ k => XS.iload X2.here hx rfl (hb hby at_28) rfl k) ?_
      show Wlk p.tables e below (T2.setTop (mkF m 30 #[jv q1, sd, jv q2, sd, jv q3, sd, iv p4, iv p5, iv j1_0, iv j2_0, un, un, un, un, un, un, un, un, un] [(.int p4)])) K
      refine Wlk.of (fun _ k => XS.iconst X2.here hx rfl (hb hby at_30) k) ?_
      show Wlk p.tables e below (T2.setTop (mkF m 31 #[jv q1, sd, jv q2, sd, jv q3, sd, iv p4, iv p5, iv j1_0, iv j2_0, un, un, un, un, un, un, un, un, un] [(.int (4 : Int32)), (.int p4)])) K
      refine Wlk.of (fun _ k => XS.iand X2.here hx rfl (hb hby at_31) rfl k) ?_
      show Wlk p.tables e below (T2.setTop (mkF m 32 #[jv q1, sd, jv q2, sd, jv q3, sd, iv p4, iv p5, iv j1_0, iv j2_0, un, un, un, un, un, un, un, un, un] [(.int (p4 &&& (4 : Int32)))])) K
      have J3 : ∀ (T3 : State), Stand p l e room_1 s m #[(.long q1), (.long q2), (.long q3), (.int p4), (.int p5)] below meth c T3 [] 0 0 → T3.heap = h0 → ∀ (j3_0 : Int32), j3_0 = (if (p4 &&& (4 : Int32)) = (0 : Int32) then (0 : Int32) else (1 : Int32)) → Wlk p.tables e below (T3.setTop (mkF m 40 #[jv q1, sd, jv q2, sd, jv q3, sd, iv p4, iv p5, iv j1_0, iv j2_0, un, un, un, un, un, un, un, un, un] [(.int j3_0)])) K := by
        intro T3 X3 e3 j3_0 hj3_0
        refine Wlk.of (fun _ k => XS.istore X3.here hx rfl (hb hby at_40) rfl (l' := #[jv q1, sd, jv q2, sd, jv q3, sd, iv p4, iv p5, iv j1_0, iv j2_0, iv j3_0, un, un, un, un, un, un, un, un]) rfl k) ?_
        show Wlk p.tables e below (T3.setTop (mkF m 42 #[jv q1, sd, jv q2, sd, jv q3, sd, iv p4, iv p5, iv j1_0, iv j2_0, iv j3_0, un, un, un, un, un, un, un, un] [])) K
        refine Wlk.of (fun _ k => XS.iload X3.here hx rfl (hb hby at_42) rfl k) ?_
        show Wlk p.tables e below (T3.setTop (mkF m 44 #[jv q1, sd, jv q2, sd, jv q3, sd, iv p4, iv p5, iv j1_0, iv j2_0, iv j3_0, un, un, un, un, un, un, un, un] [(.int j1_0)])) K
        by_cases hc4 : j1_0 = (0 : Int32)
        · refine Wlk.of (fun _ k => XS.ifNo X3.here hx rfl (hb hby at_44) rfl ((if0 _ _).trans (teq hc4).2) k) ?_
          show Wlk p.tables e below (T3.setTop (mkF m 47 #[jv q1, sd, jv q2, sd, jv q3, sd, iv p4, iv p5, iv j1_0, iv j2_0, iv j3_0, un, un, un, un, un, un, un, un] [])) K
          refine Wlk.of (fun _ k => XS.iload X3.here hx rfl (hb hby at_47) rfl k) ?_
          show Wlk p.tables e below (T3.setTop (mkF m 49 #[jv q1, sd, jv q2, sd, jv q3, sd, iv p4, iv p5, iv j1_0, iv j2_0, iv j3_0, un, un, un, un, un, un, un, un] [(.int j2_0)])) K
          by_cases hc5 : j2_0 = (0 : Int32)
          · refine Wlk.of (fun _ k => XS.ifNo X3.here hx rfl (hb hby at_49) rfl ((if0 _ _).trans (teq hc5).2) k) ?_
            show Wlk p.tables e below (T3.setTop (mkF m 52 #[jv q1, sd, jv q2, sd, jv q3, sd, iv p4, iv p5, iv j1_0, iv j2_0, iv j3_0, un, un, un, un, un, un, un, un] [])) K
            refine Wlk.of (fun _ k => XS.iload X3.here hx rfl (hb hby at_52) rfl k) ?_
            show Wlk p.tables e below (T3.setTop (mkF m 54 #[jv q1, sd, jv q2, sd, jv q3, sd, iv p4, iv p5, iv j1_0, iv j2_0, iv j3_0, un, un, un, un, un, un, un, un] [(.int j3_0)])) K
            by_cases hc6 : j3_0 = (0 : Int32)
            · refine Wlk.of (fun _ k => XS.ifNo X3.here hx rfl (hb hby at_54) rfl ((if0 _ _).trans (teq hc6).2) k) ?_
              show Wlk p.tables e below (T3.setTop (mkF m 57 #[jv q1, sd, jv q2, sd, jv q3, sd, iv p4, iv p5, iv j1_0, iv j2_0, iv j3_0, un, un, un, un, un, un, un, un] [])) K
              refine Wlk.of (fun _ k => XS.iconst X3.here hx rfl (hb hby at_57) k) ?_
              show Wlk p.tables e below (T3.setTop (mkF m 58 #[jv q1, sd, jv q2, sd, jv q3, sd, iv p4, iv p5, iv j1_0, iv j2_0, iv j3_0, un, un, un, un, un, un, un, un] [(.int (1 : Int32))])) K
              refine hK (some (.int (1 : Int32))) X3 (fun q => by cases q) (fun fs hr => retN X3 hx (t := .boolean) hret (by simp) (hb hby at_58) hr) ?_ (by decide) (by decide)
              rw [show T3.heap = h0 from e3]
              exact ⟨rfl, N0⟩
            · refine Wlk.of (fun _ k => XS.ifYes X3.here hx rfl (pc0 := 54) (pc' := 59) rfl (hb hby at_54) rfl ((if0 _ _).trans (feq hc6).2) (by decide) (by decide) k) ?_
              show Wlk p.tables e below (T3.setTop (mkF m 59 #[jv q1, sd, jv q2, sd, jv q3, sd, iv p4, iv p5, iv j1_0, iv j2_0, iv j3_0, un, un, un, un, un, un, un, un] [])) K
              refine Wlk.of (fun _ k => XS.iconst X3.here hx rfl (hb hby at_59) k) ?_
              show Wlk p.tables e below (T3.setTop (mkF m 60 #[jv q1, sd, jv q2, sd, jv q3, sd, iv p4, iv p5, iv j1_0, iv j2_0, iv j3_0, un, un, un, un, un, un, un, un] [(.int (1 : Int32))])) K
              refine Wlk.of (fun _ k => XS.iload X3.here hx rfl (hb hby at_60) rfl k) ?_
              show Wlk p.tables e below (T3.setTop (mkF m 62 #[jv q1, sd, jv q2, sd, jv q3, sd, iv p4, iv p5, iv j1_0, iv j2_0, iv j3_0, un, un, un, un, un, un, un, un] [(.int p5), (.int (1 : Int32))])) K
              refine Wlk.of (fun _ k => X3.ldcInt hx hown (mvT hZ (wd hw 0 rfl)) (g := (mkF m 62 #[jv q1, sd, jv q2, sd, jv q3, sd, iv p4, iv p5, iv j1_0, iv j2_0, iv j3_0, un, un, un, un, un, un, un, un] [(.int p5), (.int (1 : Int32))])) rfl (hb hby at_62) _ k) ?_
              show Wlk p.tables e below (T3.setTop (mkF m 64 #[jv q1, sd, jv q2, sd, jv q3, sd, iv p4, iv p5, iv j1_0, iv j2_0, iv j3_0, un, un, un, un, un, un, un, un] [(.int (2147483647 : Int32)), (.int p5), (.int (1 : Int32))])) K
              refine Wlk.of (fun _ k => XS.iand X3.here hx rfl (hb hby at_64) rfl k) ?_
              show Wlk p.tables e below (T3.setTop (mkF m 65 #[jv q1, sd, jv q2, sd, jv q3, sd, iv p4, iv p5, iv j1_0, iv j2_0, iv j3_0, un, un, un, un, un, un, un, un] [(.int (p5 &&& (2147483647 : Int32))), (.int (1 : Int32))])) K
              refine Wlk.of (fun _ k => XS.bipush X3.here hx rfl (hb hby at_65) k) ?_
              show Wlk p.tables e below (T3.setTop (mkF m 67 #[jv q1, sd, jv q2, sd, jv q3, sd, iv p4, iv p5, iv j1_0, iv j2_0, iv j3_0, un, un, un, un, un, un, un, un] [(.int (100 : Int32)), (.int (p5 &&& (2147483647 : Int32))), (.int (1 : Int32))])) K
              refine Wlk.of (fun _ k => iremM X3 hx rfl (hb hby at_67) rfl (by decide) k) ?_
              show Wlk p.tables e below (T3.setTop (mkF m 68 #[jv q1, sd, jv q2, sd, jv q3, sd, iv p4, iv p5, iv j1_0, iv j2_0, iv j3_0, un, un, un, un, un, un, un, un] [(.int ((p5 &&& (2147483647 : Int32)) % (100 : Int32))), (.int (1 : Int32))])) K
              refine Wlk.of (fun _ k => XS.iadd X3.here hx rfl (hb hby at_68) rfl k) ?_
              show Wlk p.tables e below (T3.setTop (mkF m 69 #[jv q1, sd, jv q2, sd, jv q3, sd, iv p4, iv p5, iv j1_0, iv j2_0, iv j3_0, un, un, un, un, un, un, un, un] [(.int ((1 : Int32) + ((p5 &&& (2147483647 : Int32)) % (100 : Int32))))])) K
              refine Wlk.of (fun _ k => XS.istore X3.here hx rfl (hb hby at_69) rfl (l' := #[jv q1, sd, jv q2, sd, jv q3, sd, iv p4, iv p5, iv j1_0, iv j2_0, iv j3_0, iv ((1 : Int32) + ((p5 &&& (2147483647 : Int32)) % (100 : Int32))), un, un, un, un, un, un, un]) rfl k) ?_
              show Wlk p.tables e below (T3.setTop (mkF m 71 #[jv q1, sd, jv q2, sd, jv q3, sd, iv p4, iv p5, iv j1_0, iv j2_0, iv j3_0, iv ((1 : Int32) + ((p5 &&& (2147483647 : Int32)) % (100 : Int32))), un, un, un, un, un, un, un] [])) K
              generalize hv7 : ((1 : Int32) + ((p5 &&& (2147483647 : Int32)) % (100 : Int32))) = v7
              obtain ⟨T8, h8, X8, e8, E8, A8, D8, -, st8⟩ := newO X3 hx hZ hown (wd hw 1 rfl) (wd hw 2 rfl) (wd hw 3 rfl) e3 (g := (mkF m 71 #[jv q1, sd, jv q2, sd, jv q3, sd, iv p4, iv p5, iv j1_0, iv j2_0, iv j3_0, iv v7, un, un, un, un, un, un, un] [])) rfl (hb hby at_71) (by decide) (by decide)
              obtain ⟨b8, g8⟩ : ∃ z, z = h0.size := ⟨_, rfl⟩
              rw [← g8] at A8 D8 st8
              have sz_b8 : h0.size ≤ b8 := Nat.le_trans K0.1 (Nat.le_of_eq g8.symm)
              have g_b8 : n0 ≤ b8 := Nat.le_trans Z0 sz_b8
              have K10 : Keep h0 h8 [] := K0.ext E8
              have F_b8_counts : Fld Z h8 b8 "com/example/eimer/eimer/cli/Latencies" "counts" "[J" .null := D8 (Or.inr (wd hw 12 rfl)) (ty := (.array .long)) (by decide)
              have F_b8_total : Fld Z h8 b8 "com/example/eimer/eimer/cli/Latencies" "total" "J" (.long (0 : Int64)) := D8 (Or.inl (wd hw 35 rfl)) (ty := .long) (by decide)
              refine Wlk.of (fun _ k => st8 _ k) ?_
              show Wlk p.tables e below (T8.setTop (mkF m 74 #[jv q1, sd, jv q2, sd, jv q3, sd, iv p4, iv p5, iv j1_0, iv j2_0, iv j3_0, iv v7, un, un, un, un, un, un, un] [(.ref b8)])) K
              refine Wlk.of (fun _ k => XS.dup X8.here hx rfl (hb hby at_74) rfl rfl k) ?_
              show Wlk p.tables e below (T8.setTop (mkF m 75 #[jv q1, sd, jv q2, sd, jv q3, sd, iv p4, iv p5, iv j1_0, iv j2_0, iv j3_0, iv v7, un, un, un, un, un, un, un] [(.ref b8), (.ref b8)])) K
              obtain ⟨v11, T11, L11, X11, q11, st11⟩ := Ctr.special (rmI l Z a0 hw b8 h8 n0 (Nat.le_trans Z0 K10.1) A8 F_b8_counts F_b8_total g_b8) X8 hx hZ e8 hown rfl (wd hw 4 rfl) (wd hw 5 rfl) (wd hw 3 rfl) (wd hw 6 rfl) (by decide) pd_230 (g := (mkF m 75 #[jv q1, sd, jv q2, sd, jv q3, sd, iv p4, iv p5, iv j1_0, iv j2_0, iv j3_0, iv v7, un, un, un, un, un, un, un] [(.ref b8), (.ref b8)])) rfl (by rw [hml]; rfl) (a := b8) (argsL := []) (rest := [(.ref b8)]) rfl rfl rfl (W := 1) (by show 2 * 0 + _ ≤ _; exact Nat.le_of_eq rfl) (by decide) (by decide) (hb hby at_75) (by decide) (by decide)
              obtain ⟨ca_11, rfl, N11q, K11q, p11_0, p11_1, p11_2, p11_3⟩ := q11
              have N12 := Fr.app N0 N11q
              refine Wlk.of (fun _ k => st11 _ k) ?_
              have ne13 : b8 ≠ ca_11 := Nat.ne_of_lt (Nat.lt_of_lt_of_le A8.lt p11_0)
              have sz_ca_11 : h0.size ≤ ca_11 := Nat.le_trans K10.1 p11_0
              have g_ca_11 : n0 ≤ ca_11 := Nat.le_trans Z0 sz_ca_11
              have K14 : Keep h0 T11.heap [] := K10.trans K11q (allS (Or.inr sz_b8) all0)
              show Wlk p.tables e below (T11.setTop (mkF m 78 #[jv q1, sd, jv q2, sd, jv q3, sd, iv p4, iv p5, iv j1_0, iv j2_0, iv j3_0, iv v7, un, un, un, un, un, un, un] [(.ref b8)])) K
              refine Wlk.of (fun _ k => XS.astore X11.here hx rfl (hb hby at_78) rfl rfl (l' := #[jv q1, sd, jv q2, sd, jv q3, sd, iv p4, iv p5, iv j1_0, iv j2_0, iv j3_0, iv v7, rv b8, un, un, un, un, un, un]) rfl k) ?_
              show Wlk p.tables e below (T11.setTop (mkF m 80 #[jv q1, sd, jv q2, sd, jv q3, sd, iv p4, iv p5, iv j1_0, iv j2_0, iv j3_0, iv v7, rv b8, un, un, un, un, un, un] [])) K
              obtain ⟨T15, h15, X15, e15, E15, A15, D15, -, st15⟩ := newO X11 hx hZ hown (wd hw 1 rfl) (wd hw 2 rfl) (wd hw 3 rfl) rfl (g := (mkF m 80 #[jv q1, sd, jv q2, sd, jv q3, sd, iv p4, iv p5, iv j1_0, iv j2_0, iv j3_0, iv v7, rv b8, un, un, un, un, un, un] [])) rfl (hb hby at_80) (by decide) (by decide)
              obtain ⟨b15, g15⟩ : ∃ z, z = T11.heap.size := ⟨_, rfl⟩
              rw [← g15] at A15 D15 st15
              have f17 : Exa Z T11.heap b8 "com/example/eimer/eimer/cli/Latencies" := (A8.keep K11q)
              have ne16 : b8 ≠ b15 := Nat.ne_of_lt (Nat.lt_of_lt_of_le f17.lt (Nat.le_of_eq g15.symm))
              have ne18 : ca_11 ≠ b15 := Nat.ne_of_lt (Nat.lt_of_lt_of_le p11_3.lt (Nat.le_of_eq g15.symm))
              have sz_b15 : h0.size ≤ b15 := Nat.le_trans K14.1 (Nat.le_of_eq g15.symm)
              have g_b15 : n0 ≤ b15 := Nat.le_trans Z0 sz_b15
              have K20 : Keep h0 h15 [] := K14.ext E15
              have F_b15_counts : Fld Z h15 b15 "com/example/eimer/eimer/cli/Latencies" "counts" "[J" .null := D15 (Or.inr (wd hw 12 rfl)) (ty := (.array .long)) (by decide)
              have F_b15_total : Fld Z h15 b15 "com/example/eimer/eimer/cli/Latencies" "total" "J" (.long (0 : Int64)) := D15 (Or.inl (wd hw 35 rfl)) (ty := .long) (by decide)
              refine Wlk.of (fun _ k => st15 _ k) ?_
              show Wlk p.tables e below (T15.setTop (mkF m 83 #[jv q1, sd, jv q2, sd, jv q3, sd, iv p4, iv p5, iv j1_0, iv j2_0, iv j3_0, iv v7, rv b8, un, un, un, un, un, un] [(.ref b15)])) K
              refine Wlk.of (fun _ k => XS.dup X15.here hx rfl (hb hby at_83) rfl rfl k) ?_
              show Wlk p.tables e below (T15.setTop (mkF m 84 #[jv q1, sd, jv q2, sd, jv q3, sd, iv p4, iv p5, iv j1_0, iv j2_0, iv j3_0, iv v7, rv b8, un, un, un, un, un, un] [(.ref b15), (.ref b15)])) K
              obtain ⟨v21, T21, L21, X21, q21, st21⟩ := Ctr.special (rmI l Z a0 hw b15 h15 n0 (Nat.le_trans Z0 K20.1) A15 F_b15_counts F_b15_total g_b15) X15 hx hZ e15 hown rfl (wd hw 4 rfl) (wd hw 5 rfl) (wd hw 3 rfl) (wd hw 6 rfl) (by decide) pd_230 (g := (mkF m 84 #[jv q1, sd, jv q2, sd, jv q3, sd, iv p4, iv p5, iv j1_0, iv j2_0, iv j3_0, iv v7, rv b8, un, un, un, un, un, un] [(.ref b15), (.ref b15)])) rfl (by rw [hml]; rfl) (a := b15) (argsL := []) (rest := [(.ref b15)]) rfl rfl rfl (W := 1) (by show 2 * 0 + _ ≤ _; exact Nat.le_of_eq rfl) (by decide) (by decide) (hb hby at_84) (by decide) (by decide)
              obtain ⟨ca_21, rfl, N21q, K21q, p21_0, p21_1, p21_2, p21_3⟩ := q21
              have N22 := Fr.app N12 N21q
              refine Wlk.of (fun _ k => st21 _ k) ?_
              have ne23 : b15 ≠ ca_21 := Nat.ne_of_lt (Nat.lt_of_lt_of_le A15.lt p21_0)
              have f25 : Exa Z h15 b8 "com/example/eimer/eimer/cli/Latencies" := (f17.ext E15)
              have ne24 : b8 ≠ ca_21 := Nat.ne_of_lt (Nat.lt_of_lt_of_le f25.lt p21_0)
              have f27 : Arl Z h15 ca_11 .long (own_vs own_zero) := (p11_3.ext E15)
              have ne26 : ca_11 ≠ ca_21 := Nat.ne_of_lt (Nat.lt_of_lt_of_le f27.lt p21_0)
              have sz_ca_21 : h0.size ≤ ca_21 := Nat.le_trans K20.1 p21_0
              have g_ca_21 : n0 ≤ ca_21 := Nat.le_trans Z0 sz_ca_21
              have K28 : Keep h0 T21.heap [] := K20.trans K21q (allS (Or.inr sz_b15) all0)
              show Wlk p.tables e below (T21.setTop (mkF m 87 #[jv q1, sd, jv q2, sd, jv q3, sd, iv p4, iv p5, iv j1_0, iv j2_0, iv j3_0, iv v7, rv b8, un, un, un, un, un, un] [(.ref b15)])) K
              refine Wlk.of (fun _ k => XS.astore X21.here hx rfl (hb hby at_87) rfl rfl (l' := #[jv q1, sd, jv q2, sd, jv q3, sd, iv p4, iv p5, iv j1_0, iv j2_0, iv j3_0, iv v7, rv b8, rv b15, un, un, un, un, un]) rfl k) ?_
              show Wlk p.tables e below (T21.setTop (mkF m 89 #[jv q1, sd, jv q2, sd, jv q3, sd, iv p4, iv p5, iv j1_0, iv j2_0, iv j3_0, iv v7, rv b8, rv b15, un, un, un, un, un] [])) K
              obtain ⟨T29, h29, X29, e29, E29, A29, D29, -, st29⟩ := newO X21 hx hZ hown (wd hw 1 rfl) (wd hw 2 rfl) (wd hw 3 rfl) rfl (g := (mkF m 89 #[jv q1, sd, jv q2, sd, jv q3, sd, iv p4, iv p5, iv j1_0, iv j2_0, iv j3_0, iv v7, rv b8, rv b15, un, un, un, un, un] [])) rfl (hb hby at_89) (by decide) (by decide)
              obtain ⟨b29, g29⟩ : ∃ z, z = T21.heap.size := ⟨_, rfl⟩
              rw [← g29] at A29 D29 st29
              have f31 : Exa Z T21.heap b15 "com/example/eimer/eimer/cli/Latencies" := (A15.keep K21q)
              have ne30 : b15 ≠ b29 := Nat.ne_of_lt (Nat.lt_of_lt_of_le f31.lt (Nat.le_of_eq g29.symm))
              have f33 : Exa Z T21.heap b8 "com/example/eimer/eimer/cli/Latencies" := (f25.keep K21q)
              have ne32 : b8 ≠ b29 := Nat.ne_of_lt (Nat.lt_of_lt_of_le f33.lt (Nat.le_of_eq g29.symm))
              have f35 : Arl Z T21.heap ca_11 .long (own_vs own_zero) := (f27.keep K21q (ninS ne18 nin0))
              have ne34 : ca_11 ≠ b29 := Nat.ne_of_lt (Nat.lt_of_lt_of_le f35.lt (Nat.le_of_eq g29.symm))
              have ne36 : ca_21 ≠ b29 := Nat.ne_of_lt (Nat.lt_of_lt_of_le p21_3.lt (Nat.le_of_eq g29.symm))
              have sz_b29 : h0.size ≤ b29 := Nat.le_trans K28.1 (Nat.le_of_eq g29.symm)
              have g_b29 : n0 ≤ b29 := Nat.le_trans Z0 sz_b29
              have K38 : Keep h0 h29 [] := K28.ext E29
              have F_b29_counts : Fld Z h29 b29 "com/example/eimer/eimer/cli/Latencies" "counts" "[J" .null := D29 (Or.inr (wd hw 12 rfl)) (ty := (.array .long)) (by decide)
              have F_b29_total : Fld Z h29 b29 "com/example/eimer/eimer/cli/Latencies" "total" "J" (.long (0 : Int64)) := D29 (Or.inl (wd hw 35 rfl)) (ty := .long) (by decide)
              refine Wlk.of (fun _ k => st29 _ k) ?_
              show Wlk p.tables e below (T29.setTop (mkF m 92 #[jv q1, sd, jv q2, sd, jv q3, sd, iv p4, iv p5, iv j1_0, iv j2_0, iv j3_0, iv v7, rv b8, rv b15, un, un, un, un, un] [(.ref b29)])) K
              refine Wlk.of (fun _ k => XS.dup X29.here hx rfl (hb hby at_92) rfl rfl k) ?_
              show Wlk p.tables e below (T29.setTop (mkF m 93 #[jv q1, sd, jv q2, sd, jv q3, sd, iv p4, iv p5, iv j1_0, iv j2_0, iv j3_0, iv v7, rv b8, rv b15, un, un, un, un, un] [(.ref b29), (.ref b29)])) K
              obtain ⟨v39, T39, L39, X39, q39, st39⟩ := Ctr.special (rmI l Z a0 hw b29 h29 n0 (Nat.le_trans Z0 K38.1) A29 F_b29_counts F_b29_total g_b29) X29 hx hZ e29 hown rfl (wd hw 4 rfl) (wd hw 5 rfl) (wd hw 3 rfl) (wd hw 6 rfl) (by decide) pd_230 (g := (mkF m 93 #[jv q1, sd, jv q2, sd, jv q3, sd, iv p4, iv p5, iv j1_0, iv j2_0, iv j3_0, iv v7, rv b8, rv b15, un, un, un, un, un] [(.ref b29), (.ref b29)])) rfl (by rw [hml]; rfl) (a := b29) (argsL := []) (rest := [(.ref b29)]) rfl rfl rfl (W := 1) (by show 2 * 0 + _ ≤ _; exact Nat.le_of_eq rfl) (by decide) (by decide) (hb hby at_93) (by decide) (by decide)
              obtain ⟨ca_39, rfl, N39q, K39q, p39_0, p39_1, p39_2, p39_3⟩ := q39
              have N40 := Fr.app N22 N39q
              refine Wlk.of (fun _ k => st39 _ k) ?_
              have f42 : Exa Z h29 b15 "com/example/eimer/eimer/cli/Latencies" := (f31.ext E29)
              have ne41 : b15 ≠ ca_39 := Nat.ne_of_lt (Nat.lt_of_lt_of_le f42.lt p39_0)
              have ne43 : b29 ≠ ca_39 := Nat.ne_of_lt (Nat.lt_of_lt_of_le A29.lt p39_0)
              have f45 : Exa Z h29 b8 "com/example/eimer/eimer/cli/Latencies" := (f33.ext E29)
              have ne44 : b8 ≠ ca_39 := Nat.ne_of_lt (Nat.lt_of_lt_of_le f45.lt p39_0)
              have f47 : Arl Z h29 ca_11 .long (own_vs own_zero) := (f35.ext E29)
              have ne46 : ca_11 ≠ ca_39 := Nat.ne_of_lt (Nat.lt_of_lt_of_le f47.lt p39_0)
              have f49 : Arl Z h29 ca_21 .long (own_vs own_zero) := (p21_3.ext E29)
              have ne48 : ca_21 ≠ ca_39 := Nat.ne_of_lt (Nat.lt_of_lt_of_le f49.lt p39_0)
              have sz_ca_39 : h0.size ≤ ca_39 := Nat.le_trans K38.1 p39_0
              have g_ca_39 : n0 ≤ ca_39 := Nat.le_trans Z0 sz_ca_39
              have K50 : Keep h0 T39.heap [] := K38.trans K39q (allS (Or.inr sz_b29) all0)
              show Wlk p.tables e below (T39.setTop (mkF m 96 #[jv q1, sd, jv q2, sd, jv q3, sd, iv p4, iv p5, iv j1_0, iv j2_0, iv j3_0, iv v7, rv b8, rv b15, un, un, un, un, un] [(.ref b29)])) K
              refine Wlk.of (fun _ k => XS.astore X39.here hx rfl (hb hby at_96) rfl rfl (l' := #[jv q1, sd, jv q2, sd, jv q3, sd, iv p4, iv p5, iv j1_0, iv j2_0, iv j3_0, iv v7, rv b8, rv b15, rv b29, un, un, un, un]) rfl k) ?_
              show Wlk p.tables e below (T39.setTop (mkF m 98 #[jv q1, sd, jv q2, sd, jv q3, sd, iv p4, iv p5, iv j1_0, iv j2_0, iv j3_0, iv v7, rv b8, rv b15, rv b29, un, un, un, un] [])) K
              refine Wlk.of (fun _ k => XS.iload X39.here hx rfl (hb hby at_98) rfl k) ?_
              show Wlk p.tables e below (T39.setTop (mkF m 100 #[jv q1, sd, jv q2, sd, jv q3, sd, iv p4, iv p5, iv j1_0, iv j2_0, iv j3_0, iv v7, rv b8, rv b15, rv b29, un, un, un, un] [(.int j1_0)])) K
              have J51 : ∀ (T51 : State) (h51 : Heap) (ls51 : List Loc) (j51_0 : Int64) (j51_1 : (Nat → Int64)) (j51_2 : Int64) (j51_3 : (Nat → Int64)), j51_0 = (if j1_0 = (0 : Int32) then (0 : Int64) else ((0 : Int64) + (1 : Int64))) → j51_1 = (if j1_0 = (0 : Int32) then own_zero else (own_inc own_zero (own_in q1))) → j51_2 = (if j1_0 = (0 : Int32) then (0 : Int64) else ((0 : Int64) + (1 : Int64))) → j51_3 = (if j1_0 = (0 : Int32) then own_zero else (own_inc own_zero (own_in q1))) → Stand p l e room_1 s m #[(.long q1), (.long q2), (.long q3), (.int p4), (.int p5)] below meth c T51 ls51 6 21894 → T51.heap = h51 → Fr n0 ls51 → Keep h0 h51 [] → Exa Z h51 b8 "com/example/eimer/eimer/cli/Latencies" → Fld Z h51 b8 "com/example/eimer/eimer/cli/Latencies" "counts" "[J" (.ref ca_11) → Fld Z h51 b8 "com/example/eimer/eimer/cli/Latencies" "total" "J" (.long j51_0) → Arl Z h51 ca_11 .long (own_vs j51_1) → Exa Z h51 b15 "com/example/eimer/eimer/cli/Latencies" → Fld Z h51 b15 "com/example/eimer/eimer/cli/Latencies" "counts" "[J" (.ref ca_21) → Fld Z h51 b15 "com/example/eimer/eimer/cli/Latencies" "total" "J" (.long (0 : Int64)) → Arl Z h51 ca_21 .long (own_vs own_zero) → Exa Z h51 b29 "com/example/eimer/eimer/cli/Latencies" → Fld Z h51 b29 "com/example/eimer/eimer/cli/Latencies" "counts" "[J" (.ref ca_39) → Fld Z h51 b29 "com/example/eimer/eimer/cli/Latencies" "total" "J" (.long j51_2) → Arl Z h51 ca_39 .long (own_vs j51_3) → Wlk p.tables e below (T51.setTop (mkF m 115 #[jv q1, sd, jv q2, sd, jv q3, sd, iv p4, iv p5, iv j1_0, iv j2_0, iv j3_0, iv v7, rv b8, rv b15, rv b29, un, un, un, un] [])) K := by
                intro T51 h51 ls51 j51_0 j51_1 j51_2 j51_3 hj51_0 hj51_1 hj51_2 hj51_3 X51 e51 N51 K51 z51_0 z51_1 z51_2 z51_3 z51_4 z51_5 z51_6 z51_7 z51_8 z51_9 z51_10 z51_11
                refine Wlk.of (fun _ k => XS.iload X51.here hx rfl (hb hby at_115) rfl k) ?_
                show Wlk p.tables e below (T51.setTop (mkF m 117 #[jv q1, sd, jv q2, sd, jv q3, sd, iv p4, iv p5, iv j1_0, iv j2_0, iv j3_0, iv v7, rv b8, rv b15, rv b29, un, un, un, un] [(.int j2_0)])) K
                have J52 : ∀ (T52 : State) (h52 : Heap) (ls52 : List Loc) (j52_0 : Int64) (j52_1 : (Nat → Int64)) (j52_2 : Int64) (j52_3 : (Nat → Int64)), j52_0 = (if j2_0 = (0 : Int32) then (0 : Int64) else ((0 : Int64) + (1 : Int64))) → j52_1 = (if j2_0 = (0 : Int32) then own_zero else (own_inc own_zero (own_in q2))) → j52_2 = (if j2_0 = (0 : Int32) then j51_2 else (j51_2 + (1 : Int64))) → j52_3 = (if j2_0 = (0 : Int32) then j51_3 else (own_inc j51_3 (own_in q2))) → Stand p l e room_1 s m #[(.long q1), (.long q2), (.long q3), (.int p4), (.int p5)] below meth c T52 ls52 6 21894 → T52.heap = h52 → Fr n0 ls52 → Keep h0 h52 [] → Exa Z h52 b8 "com/example/eimer/eimer/cli/Latencies" → Fld Z h52 b8 "com/example/eimer/eimer/cli/Latencies" "counts" "[J" (.ref ca_11) → Fld Z h52 b8 "com/example/eimer/eimer/cli/Latencies" "total" "J" (.long j51_0) → Arl Z h52 ca_11 .long (own_vs j51_1) → Exa Z h52 b15 "com/example/eimer/eimer/cli/Latencies" → Fld Z h52 b15 "com/example/eimer/eimer/cli/Latencies" "counts" "[J" (.ref ca_21) → Fld Z h52 b15 "com/example/eimer/eimer/cli/Latencies" "total" "J" (.long j52_0) → Arl Z h52 ca_21 .long (own_vs j52_1) → Exa Z h52 b29 "com/example/eimer/eimer/cli/Latencies" → Fld Z h52 b29 "com/example/eimer/eimer/cli/Latencies" "counts" "[J" (.ref ca_39) → Fld Z h52 b29 "com/example/eimer/eimer/cli/Latencies" "total" "J" (.long j52_2) → Arl Z h52 ca_39 .long (own_vs j52_3) → Wlk p.tables e below (T52.setTop (mkF m 132 #[jv q1, sd, jv q2, sd, jv q3, sd, iv p4, iv p5, iv j1_0, iv j2_0, iv j3_0, iv v7, rv b8, rv b15, rv b29, un, un, un, un] [])) K := by
                  intro T52 h52 ls52 j52_0 j52_1 j52_2 j52_3 hj52_0 hj52_1 hj52_2 hj52_3 X52 e52 N52 K52 z52_0 z52_1 z52_2 z52_3 z52_4 z52_5 z52_6 z52_7 z52_8 z52_9 z52_10 z52_11
                  refine Wlk.of (fun _ k => XS.iload X52.here hx rfl (hb hby at_132) rfl k) ?_
                  show Wlk p.tables e below (T52.setTop (mkF m 134 #[jv q1, sd, jv q2, sd, jv q3, sd, iv p4, iv p5, iv j1_0, iv j2_0, iv j3_0, iv v7, rv b8, rv b15, rv b29, un, un, un, un] [(.int j3_0)])) K
                  have J53 : ∀ (T53 : State) (h53 : Heap) (ls53 : List Loc) (j53_0 : Int64) (j53_1 : (Nat → Int64)) (j53_2 : Int64) (j53_3 : (Nat → Int64)), j53_0 = (if j3_0 = (0 : Int32) then j52_0 else (j52_0 + (1 : Int64))) → j53_1 = (if j3_0 = (0 : Int32) then j52_1 else (own_inc j52_1 (own_in q3))) → j53_2 = (if j3_0 = (0 : Int32) then j52_2 else (j52_2 + (1 : Int64))) → j53_3 = (if j3_0 = (0 : Int32) then j52_3 else (own_inc j52_3 (own_in q3))) → Stand p l e room_1 s m #[(.long q1), (.long q2), (.long q3), (.int p4), (.int p5)] below meth c T53 ls53 6 21894 → T53.heap = h53 → Fr n0 ls53 → Keep h0 h53 [] → Exa Z h53 b8 "com/example/eimer/eimer/cli/Latencies" → Fld Z h53 b8 "com/example/eimer/eimer/cli/Latencies" "counts" "[J" (.ref ca_11) → Fld Z h53 b8 "com/example/eimer/eimer/cli/Latencies" "total" "J" (.long j51_0) → Arl Z h53 ca_11 .long (own_vs j51_1) → Exa Z h53 b15 "com/example/eimer/eimer/cli/Latencies" → Fld Z h53 b15 "com/example/eimer/eimer/cli/Latencies" "counts" "[J" (.ref ca_21) → Fld Z h53 b15 "com/example/eimer/eimer/cli/Latencies" "total" "J" (.long j53_0) → Arl Z h53 ca_21 .long (own_vs j53_1) → Exa Z h53 b29 "com/example/eimer/eimer/cli/Latencies" → Fld Z h53 b29 "com/example/eimer/eimer/cli/Latencies" "counts" "[J" (.ref ca_39) → Fld Z h53 b29 "com/example/eimer/eimer/cli/Latencies" "total" "J" (.long j53_2) → Arl Z h53 ca_39 .long (own_vs j53_3) → Wlk p.tables e below (T53.setTop (mkF m 151 #[jv q1, sd, jv q2, sd, jv q3, sd, iv p4, iv p5, iv j1_0, iv j2_0, iv j3_0, iv v7, rv b8, rv b15, rv b29, un, un, un, un] [])) K := by
                    intro T53 h53 ls53 j53_0 j53_1 j53_2 j53_3 hj53_0 hj53_1 hj53_2 hj53_3 X53 e53 N53 K53 z53_0 z53_1 z53_2 z53_3 z53_4 z53_5 z53_6 z53_7 z53_8 z53_9 z53_10 z53_11
                    obtain ⟨hF, hT, hS, h123⟩ := own_all (own_ixb q1).2 (own_ixb q2).2 (own_ixb q3).2 (fun q => hc6 q.2.2) hj51_1 hj51_3 hj52_1 hj52_3 hj53_1 hj53_3 hj51_0 hj51_2 hj52_0 hj52_2 hj53_0 hj53_2
                    obtain ⟨ht0, N, hN, hstop, hgo⟩ := own_stop hv7 hS h123
                    refine Wlk.of (fun _ k => XS.aload X53.here hx rfl (hb hby at_151) rfl rfl k) ?_
                    show Wlk p.tables e below (T53.setTop (mkF m 153 #[jv q1, sd, jv q2, sd, jv q3, sd, iv p4, iv p5, iv j1_0, iv j2_0, iv j3_0, iv v7, rv b8, rv b15, rv b29, un, un, un, un] [(.ref b8)])) K
                    refine Wlk.of (fun _ k => XS.aload X53.here hx rfl (hb hby at_153) rfl rfl k) ?_
                    show Wlk p.tables e below (T53.setTop (mkF m 155 #[jv q1, sd, jv q2, sd, jv q3, sd, iv p4, iv p5, iv j1_0, iv j2_0, iv j3_0, iv v7, rv b8, rv b15, rv b29, un, un, un, un] [(.ref b15), (.ref b8)])) K
                    obtain ⟨v54, T54, L54, X54, q54, st54⟩ := Ctr.virtual (y := (⟨"com/example/eimer/eimer/cli/Latencies", "add", "(Lcom/example/eimer/eimer/cli/Latencies;)V"⟩ : MethodName)) (rmA l Z a0 hw b8 b15 ca_11 ca_21 j51_0 j53_0 j51_1 j53_1 h53 n0 (Nat.le_trans Z0 K53.1) z53_0 z53_1 z53_2 z53_3 z53_5 z53_6 z53_7 ne13 ne16 ne24 (Ne.symm ne18) ne26 g_b8 g_ca_11) X53 hx hZ e53 hown (wd hw 36 rfl) (wd hw 37 rfl) (notFace_of_selects (args := #[]) (mvT hZ (wd hw 39 rfl))) (wd hw 39 rfl) (wd hw 38 rfl) (wd hw 3 rfl) (wd hw 40 rfl) (by decide) z53_0 pd_232 (g := (mkF m 155 #[jv q1, sd, jv q2, sd, jv q3, sd, iv p4, iv p5, iv j1_0, iv j2_0, iv j3_0, iv v7, rv b8, rv b15, rv b29, un, un, un, un] [(.ref b15), (.ref b8)])) rfl (by rw [hml]; rfl) (argsL := [(.ref b15)]) (rest := []) rfl rfl rfl (W := 0) (by show 2 * 0 + _ ≤ _; exact Nat.le_of_eq rfl) (by decide) (by decide) (hb hby at_155) (by decide) (by decide)
                    obtain ⟨rfl, N54q, K54q, p54_0, p54_1, p54_2⟩ := q54
                    have N55 := Fr.app N53 N54q
                    refine Wlk.of (fun _ k => st54 _ k) ?_
                    have K56 : Keep h0 T54.heap [] := K53.trans K54q (allS (Or.inr sz_b8) (allS (Or.inr sz_ca_11) all0))
                    show Wlk p.tables e below (T54.setTop (mkF m 158 #[jv q1, sd, jv q2, sd, jv q3, sd, iv p4, iv p5, iv j1_0, iv j2_0, iv j3_0, iv v7, rv b8, rv b15, rv b29, un, un, un, un] [])) K
                    refine Wlk.of (fun _ k => XS.aload X54.here hx rfl (hb hby at_158) rfl rfl k) ?_
                    show Wlk p.tables e below (T54.setTop (mkF m 160 #[jv q1, sd, jv q2, sd, jv q3, sd, iv p4, iv p5, iv j1_0, iv j2_0, iv j3_0, iv v7, rv b8, rv b15, rv b29, un, un, un, un] [(.ref b8)])) K
                    refine Wlk.of (fun _ k => XS.iload X54.here hx rfl (hb hby at_160) rfl k) ?_
                    show Wlk p.tables e below (T54.setTop (mkF m 162 #[jv q1, sd, jv q2, sd, jv q3, sd, iv p4, iv p5, iv j1_0, iv j2_0, iv j3_0, iv v7, rv b8, rv b15, rv b29, un, un, un, un] [(.int v7), (.ref b8)])) K
                    have f57 : Exa Z T54.heap b8 "com/example/eimer/eimer/cli/Latencies" := (z53_0.keep K54q)
                    obtain ⟨v58, T58, L58, X58, q58, st58⟩ := Ctr.virtual (y := (⟨"com/example/eimer/eimer/cli/Latencies", "percentile", "(I)D"⟩ : MethodName)) (rmP l Z a0 hw b8 v7 ca_11 ((j51_0 + j53_0)) ((own_sum j51_1 j53_1)) N T54.heap n0 (Nat.le_trans Z0 K56.1) p54_0 p54_1 p54_2 (by rw [hT]; exact ht0) hN (by rw [hT, hF]; exact hstop) (by rw [hT, hF]; exact hgo)) X54 hx hZ rfl hown (wd hw 41 rfl) (wd hw 42 rfl) (notFace_of_selects (args := #[]) (mvT hZ (wd hw 44 rfl))) (wd hw 44 rfl) (wd hw 43 rfl) (wd hw 3 rfl) (wd hw 45 rfl) (by decide) f57 pd_233 (g := (mkF m 162 #[jv q1, sd, jv q2, sd, jv q3, sd, iv p4, iv p5, iv j1_0, iv j2_0, iv j3_0, iv v7, rv b8, rv b15, rv b29, un, un, un, un] [(.int v7), (.ref b8)])) rfl (by rw [hml]; rfl) (argsL := [(.int v7)]) (rest := []) rfl rfl rfl (W := 0) (by show 2 * 0 + _ ≤ _; exact Nat.le_of_eq rfl) (by decide) (by decide) (hb hby at_162) (by decide) (by decide)
                    obtain ⟨rfl, N58q, hh58⟩ := q58
                    have N59 := Fr.app N55 N58q
                    refine Wlk.of (fun _ k => st58 _ k) ?_
                    show Wlk p.tables e below (T58.setTop (mkF m 165 #[jv q1, sd, jv q2, sd, jv q3, sd, iv p4, iv p5, iv j1_0, iv j2_0, iv j3_0, iv v7, rv b8, rv b15, rv b29, un, un, un, un] [(.double (own_pv (Int32.ofNat N) (own_ps (Int32.ofNat N))))])) K
                    refine Wlk.of (fun _ k => XS.dstore X58.here hx rfl (hb hby at_165) rfl (l' := #[jv q1, sd, jv q2, sd, jv q3, sd, iv p4, iv p5, iv j1_0, iv j2_0, iv j3_0, iv v7, rv b8, rv b15, rv b29, dv (own_pv (Int32.ofNat N) (own_ps (Int32.ofNat N))), sd, un, un]) rfl k) ?_
                    show Wlk p.tables e below (T58.setTop (mkF m 167 #[jv q1, sd, jv q2, sd, jv q3, sd, iv p4, iv p5, iv j1_0, iv j2_0, iv j3_0, iv v7, rv b8, rv b15, rv b29, dv (own_pv (Int32.ofNat N) (own_ps (Int32.ofNat N))), sd, un, un] [])) K
                    generalize hv60 : (own_pv (Int32.ofNat N) (own_ps (Int32.ofNat N))) = v60
                    refine Wlk.of (fun _ k => XS.aload X58.here hx rfl (hb hby at_167) rfl rfl k) ?_
                    show Wlk p.tables e below (T58.setTop (mkF m 169 #[jv q1, sd, jv q2, sd, jv q3, sd, iv p4, iv p5, iv j1_0, iv j2_0, iv j3_0, iv v7, rv b8, rv b15, rv b29, dv v60, sd, un, un] [(.ref b29)])) K
                    refine Wlk.of (fun _ k => XS.iload X58.here hx rfl (hb hby at_169) rfl k) ?_
                    show Wlk p.tables e below (T58.setTop (mkF m 171 #[jv q1, sd, jv q2, sd, jv q3, sd, iv p4, iv p5, iv j1_0, iv j2_0, iv j3_0, iv v7, rv b8, rv b15, rv b29, dv v60, sd, un, un] [(.int v7), (.ref b29)])) K
                    have f61 : Fld Z T54.heap b29 "com/example/eimer/eimer/cli/Latencies" "counts" "[J" (.ref ca_39) := (z53_9.keep K54q (ninS (Ne.symm ne32) (ninS (Ne.symm ne34) nin0)))
                    have f62 : Fld Z T54.heap b29 "com/example/eimer/eimer/cli/Latencies" "total" "J" (.long j53_2) := (z53_10.keep K54q (ninS (Ne.symm ne32) (ninS (Ne.symm ne34) nin0)))
                    have f63 : Arl Z T54.heap ca_39 .long (own_vs j53_3) := (z53_11.keep K54q (ninS (Ne.symm ne44) (ninS (Ne.symm ne46) nin0)))
                    have f64 : Exa Z T54.heap b29 "com/example/eimer/eimer/cli/Latencies" := (z53_8.keep K54q)
                    obtain ⟨v65, T65, L65, X65, q65, st65⟩ := Ctr.virtual (y := (⟨"com/example/eimer/eimer/cli/Latencies", "percentile", "(I)D"⟩ : MethodName)) (rmP l Z a0 hw b29 v7 ca_39 j53_2 j53_3 N T54.heap n0 (Nat.le_trans Z0 K56.1) f61 f62 f63 ht0 hN hstop hgo) X58 hx hZ hh58 hown (wd hw 41 rfl) (wd hw 42 rfl) (notFace_of_selects (args := #[]) (mvT hZ (wd hw 44 rfl))) (wd hw 44 rfl) (wd hw 43 rfl) (wd hw 3 rfl) (wd hw 45 rfl) (by decide) f64 pd_233 (g := (mkF m 171 #[jv q1, sd, jv q2, sd, jv q3, sd, iv p4, iv p5, iv j1_0, iv j2_0, iv j3_0, iv v7, rv b8, rv b15, rv b29, dv v60, sd, un, un] [(.int v7), (.ref b29)])) rfl (by rw [hml]; rfl) (argsL := [(.int v7)]) (rest := []) rfl rfl rfl (W := 0) (by show 2 * 0 + _ ≤ _; exact Nat.le_of_eq rfl) (by decide) (by decide) (hb hby at_171) (by decide) (by decide)
                    obtain ⟨rfl, N65q, hh65⟩ := q65
                    have N66 := Fr.app N59 N65q
                    refine Wlk.of (fun _ k => st65 _ k) ?_
                    show Wlk p.tables e below (T65.setTop (mkF m 174 #[jv q1, sd, jv q2, sd, jv q3, sd, iv p4, iv p5, iv j1_0, iv j2_0, iv j3_0, iv v7, rv b8, rv b15, rv b29, dv v60, sd, un, un] [(.double (own_pv (Int32.ofNat N) (own_ps (Int32.ofNat N))))])) K
                    refine Wlk.of (fun _ k => XS.dstore X65.here hx rfl (hb hby at_174) rfl (l' := #[jv q1, sd, jv q2, sd, jv q3, sd, iv p4, iv p5, iv j1_0, iv j2_0, iv j3_0, iv v7, rv b8, rv b15, rv b29, dv v60, sd, dv (own_pv (Int32.ofNat N) (own_ps (Int32.ofNat N))), sd]) rfl k) ?_
                    show Wlk p.tables e below (T65.setTop (mkF m 176 #[jv q1, sd, jv q2, sd, jv q3, sd, iv p4, iv p5, iv j1_0, iv j2_0, iv j3_0, iv v7, rv b8, rv b15, rv b29, dv v60, sd, dv (own_pv (Int32.ofNat N) (own_ps (Int32.ofNat N))), sd] [])) K
                    generalize hv67 : (own_pv (Int32.ofNat N) (own_ps (Int32.ofNat N))) = v67
                    refine Wlk.of (fun _ k => XS.dload X65.here hx rfl (hb hby at_176) rfl k) ?_
                    show Wlk p.tables e below (T65.setTop (mkF m 178 #[jv q1, sd, jv q2, sd, jv q3, sd, iv p4, iv p5, iv j1_0, iv j2_0, iv j3_0, iv v7, rv b8, rv b15, rv b29, dv v60, sd, dv v67, sd] [(.double v60)])) K
                    refine Wlk.of (fun _ k => XS.dload X65.here hx rfl (hb hby at_178) rfl k) ?_
                    show Wlk p.tables e below (T65.setTop (mkF m 180 #[jv q1, sd, jv q2, sd, jv q3, sd, iv p4, iv p5, iv j1_0, iv j2_0, iv j3_0, iv v7, rv b8, rv b15, rv b29, dv v60, sd, dv v67, sd] [(.double v67), (.double v60)])) K
                    refine Wlk.of (fun _ k => XS.dcmpS X65.here hx rfl (hb hby at_180) rfl rfl k) ?_
                    show Wlk p.tables e below (T65.setTop (mkF m 181 #[jv q1, sd, jv q2, sd, jv q3, sd, iv p4, iv p5, iv j1_0, iv j2_0, iv j3_0, iv v7, rv b8, rv b15, rv b29, dv v60, sd, dv v67, sd] [(.int (cmpValue (FP.dcmp v60 v67) .l))])) K
                    refine Wlk.of (fun _ k => XS.ifNo X65.here hx rfl (hb hby at_181) rfl ((if0 _ _).trans (teq (show (cmpValue (FP.dcmp v60 v67) .l) = (0 : Int32) by rw [← hv60, ← hv67]; exact dcmpV_self (by unfold own_pv; exact (own_pn _ _).2) _)).2) k) ?_
                    show Wlk p.tables e below (T65.setTop (mkF m 184 #[jv q1, sd, jv q2, sd, jv q3, sd, iv p4, iv p5, iv j1_0, iv j2_0, iv j3_0, iv v7, rv b8, rv b15, rv b29, dv v60, sd, dv v67, sd] [])) K
                    refine Wlk.of (fun _ k => XS.iconst X65.here hx rfl (hb hby at_184) k) ?_
                    show Wlk p.tables e below (T65.setTop (mkF m 185 #[jv q1, sd, jv q2, sd, jv q3, sd, iv p4, iv p5, iv j1_0, iv j2_0, iv j3_0, iv v7, rv b8, rv b15, rv b29, dv v60, sd, dv v67, sd] [(.int (1 : Int32))])) K
                    refine Wlk.of (fun _ k => XS.goto X65.here hx rfl (pc0 := 185) (pc' := 189) rfl (hb hby at_185) (by decide) (by decide) k) ?_
                    show Wlk p.tables e below (T65.setTop (mkF m 189 #[jv q1, sd, jv q2, sd, jv q3, sd, iv p4, iv p5, iv j1_0, iv j2_0, iv j3_0, iv v7, rv b8, rv b15, rv b29, dv v60, sd, dv v67, sd] [(.int (1 : Int32))])) K
                    refine hK (some (.int (1 : Int32))) X65 (fun q => by cases q) (fun fs hr => retN X65 hx (t := .boolean) hret (by simp) (hb hby at_189) hr) ?_ (by decide) (by decide)
                    rw [show T65.heap = T54.heap from hh65]
                    exact ⟨rfl, N66⟩
                  by_cases hc68 : j3_0 = (0 : Int32)
                  · refine Wlk.of (fun _ k => XS.ifYes X52.here hx rfl (pc0 := 134) (pc' := 151) rfl (hb hby at_134) rfl ((if0 _ _).trans (teq hc68).1) (by decide) (by decide) k) ?_
                    show Wlk p.tables e below (T52.setTop (mkF m 151 #[jv q1, sd, jv q2, sd, jv q3, sd, iv p4, iv p5, iv j1_0, iv j2_0, iv j3_0, iv v7, rv b8, rv b15, rv b29, un, un, un, un] [])) K
                    exact J53 _ _ _ j52_0 j52_1 j52_2 j52_3 (by rw [if_pos hc68]) (by rw [if_pos hc68]) (by rw [if_pos hc68]) (by rw [if_pos hc68]) (X52.more (by decide) (by decide)) e52 N52 K52 z52_0 z52_1 z52_2 z52_3 z52_4 z52_5 z52_6 z52_7 z52_8 z52_9 z52_10 z52_11
                  · refine Wlk.of (fun _ k => XS.ifNo X52.here hx rfl (hb hby at_134) rfl ((if0 _ _).trans (feq hc68).1) k) ?_
                    show Wlk p.tables e below (T52.setTop (mkF m 137 #[jv q1, sd, jv q2, sd, jv q3, sd, iv p4, iv p5, iv j1_0, iv j2_0, iv j3_0, iv v7, rv b8, rv b15, rv b29, un, un, un, un] [])) K
                    refine Wlk.of (fun _ k => XS.aload X52.here hx rfl (hb hby at_137) rfl rfl k) ?_
                    show Wlk p.tables e below (T52.setTop (mkF m 139 #[jv q1, sd, jv q2, sd, jv q3, sd, iv p4, iv p5, iv j1_0, iv j2_0, iv j3_0, iv v7, rv b8, rv b15, rv b29, un, un, un, un] [(.ref b15)])) K
                    refine Wlk.of (fun _ k => XS.lload X52.here hx rfl (hb hby at_139) rfl k) ?_
                    show Wlk p.tables e below (T52.setTop (mkF m 141 #[jv q1, sd, jv q2, sd, jv q3, sd, iv p4, iv p5, iv j1_0, iv j2_0, iv j3_0, iv v7, rv b8, rv b15, rv b29, un, un, un, un] [(.long q3), (.ref b15)])) K
                    obtain ⟨v69, T69, L69, X69, q69, st69⟩ := Ctr.virtual (y := (⟨"com/example/eimer/eimer/cli/Latencies", "record", "(J)V"⟩ : MethodName)) (rmR l Z a0 hw b15 q3 ca_21 j52_0 j52_1 h52 n0 (Nat.le_trans Z0 K52.1) z52_4 z52_5 z52_6 z52_7 ne23 g_b15 g_ca_21) X52 hx hZ e52 hown (wd hw 13 rfl) (wd hw 14 rfl) (notFace_of_selects (args := #[]) (mvT hZ (wd hw 16 rfl))) (wd hw 16 rfl) (wd hw 15 rfl) (wd hw 3 rfl) (wd hw 17 rfl) (by decide) z52_4 pd_231 (g := (mkF m 141 #[jv q1, sd, jv q2, sd, jv q3, sd, iv p4, iv p5, iv j1_0, iv j2_0, iv j3_0, iv v7, rv b8, rv b15, rv b29, un, un, un, un] [(.long q3), (.ref b15)])) rfl (by rw [hml]; rfl) (argsL := [(.long q3)]) (rest := []) rfl rfl rfl (W := 0) (by show 2 * 0 + _ ≤ _; exact Nat.le_of_eq rfl) (by decide) (by decide) (hb hby at_141) (by decide) (by decide)
                    obtain ⟨rfl, N69q, K69q, p69_0, p69_1, p69_2⟩ := q69
                    have N70 := Fr.app N52 N69q
                    refine Wlk.of (fun _ k => st69 _ k) ?_
                    have K71 : Keep h0 T69.heap [] := K52.trans K69q (allS (Or.inr sz_b15) (allS (Or.inr sz_ca_21) all0))
                    show Wlk p.tables e below (T69.setTop (mkF m 144 #[jv q1, sd, jv q2, sd, jv q3, sd, iv p4, iv p5, iv j1_0, iv j2_0, iv j3_0, iv v7, rv b8, rv b15, rv b29, un, un, un, un] [])) K
                    refine Wlk.of (fun _ k => XS.aload X69.here hx rfl (hb hby at_144) rfl rfl k) ?_
                    show Wlk p.tables e below (T69.setTop (mkF m 146 #[jv q1, sd, jv q2, sd, jv q3, sd, iv p4, iv p5, iv j1_0, iv j2_0, iv j3_0, iv v7, rv b8, rv b15, rv b29, un, un, un, un] [(.ref b29)])) K
                    refine Wlk.of (fun _ k => XS.lload X69.here hx rfl (hb hby at_146) rfl k) ?_
                    show Wlk p.tables e below (T69.setTop (mkF m 148 #[jv q1, sd, jv q2, sd, jv q3, sd, iv p4, iv p5, iv j1_0, iv j2_0, iv j3_0, iv v7, rv b8, rv b15, rv b29, un, un, un, un] [(.long q3), (.ref b29)])) K
                    have f72 : Exa Z T69.heap b29 "com/example/eimer/eimer/cli/Latencies" := (z52_8.keep K69q)
                    have f73 : Fld Z T69.heap b29 "com/example/eimer/eimer/cli/Latencies" "counts" "[J" (.ref ca_39) := (z52_9.keep K69q (ninS (Ne.symm ne30) (ninS (Ne.symm ne36) nin0)))
                    have f74 : Fld Z T69.heap b29 "com/example/eimer/eimer/cli/Latencies" "total" "J" (.long j52_2) := (z52_10.keep K69q (ninS (Ne.symm ne30) (ninS (Ne.symm ne36) nin0)))
                    have f75 : Arl Z T69.heap ca_39 .long (own_vs j52_3) := (z52_11.keep K69q (ninS (Ne.symm ne41) (ninS (Ne.symm ne48) nin0)))
                    obtain ⟨v76, T76, L76, X76, q76, st76⟩ := Ctr.virtual (y := (⟨"com/example/eimer/eimer/cli/Latencies", "record", "(J)V"⟩ : MethodName)) (rmR l Z a0 hw b29 q3 ca_39 j52_2 j52_3 T69.heap n0 (Nat.le_trans Z0 K71.1) f72 f73 f74 f75 ne43 g_b29 g_ca_39) X69 hx hZ rfl hown (wd hw 13 rfl) (wd hw 14 rfl) (notFace_of_selects (args := #[]) (mvT hZ (wd hw 16 rfl))) (wd hw 16 rfl) (wd hw 15 rfl) (wd hw 3 rfl) (wd hw 17 rfl) (by decide) f72 pd_231 (g := (mkF m 148 #[jv q1, sd, jv q2, sd, jv q3, sd, iv p4, iv p5, iv j1_0, iv j2_0, iv j3_0, iv v7, rv b8, rv b15, rv b29, un, un, un, un] [(.long q3), (.ref b29)])) rfl (by rw [hml]; rfl) (argsL := [(.long q3)]) (rest := []) rfl rfl rfl (W := 0) (by show 2 * 0 + _ ≤ _; exact Nat.le_of_eq rfl) (by decide) (by decide) (hb hby at_148) (by decide) (by decide)
                    obtain ⟨rfl, N76q, K76q, p76_0, p76_1, p76_2⟩ := q76
                    have N77 := Fr.app N70 N76q
                    refine Wlk.of (fun _ k => st76 _ k) ?_
                    have K78 : Keep h0 T76.heap [] := K71.trans K76q (allS (Or.inr sz_b29) (allS (Or.inr sz_ca_39) all0))
                    show Wlk p.tables e below (T76.setTop (mkF m 151 #[jv q1, sd, jv q2, sd, jv q3, sd, iv p4, iv p5, iv j1_0, iv j2_0, iv j3_0, iv v7, rv b8, rv b15, rv b29, un, un, un, un] [])) K
                    have f79 : Exa Z T76.heap b8 "com/example/eimer/eimer/cli/Latencies" := ((z52_0.keep K69q).keep K76q)
                    have f80 : Fld Z T76.heap b8 "com/example/eimer/eimer/cli/Latencies" "counts" "[J" (.ref ca_11) := ((z52_1.keep K69q (ninS ne16 (ninS ne24 nin0))).keep K76q (ninS ne32 (ninS ne44 nin0)))
                    have f81 : Fld Z T76.heap b8 "com/example/eimer/eimer/cli/Latencies" "total" "J" (.long j51_0) := ((z52_2.keep K69q (ninS ne16 (ninS ne24 nin0))).keep K76q (ninS ne32 (ninS ne44 nin0)))
                    have f82 : Arl Z T76.heap ca_11 .long (own_vs j51_1) := ((z52_3.keep K69q (ninS ne18 (ninS ne26 nin0))).keep K76q (ninS ne34 (ninS ne46 nin0)))
                    have f83 : Exa Z T76.heap b15 "com/example/eimer/eimer/cli/Latencies" := ((z52_4.keep K69q).keep K76q)
                    have f84 : Fld Z T76.heap b15 "com/example/eimer/eimer/cli/Latencies" "counts" "[J" (.ref ca_21) := (p69_0.keep K76q (ninS ne30 (ninS ne41 nin0)))
                    have f85 : Fld Z T76.heap b15 "com/example/eimer/eimer/cli/Latencies" "total" "J" (.long (j52_0 + (1 : Int64))) := (p69_1.keep K76q (ninS ne30 (ninS ne41 nin0)))
                    have f86 : Arl Z T76.heap ca_21 .long (own_vs (own_inc j52_1 (own_in q3))) := (p69_2.keep K76q (ninS ne36 (ninS ne48 nin0)))
                    have f87 : Exa Z T76.heap b29 "com/example/eimer/eimer/cli/Latencies" := (f72.keep K76q)
                    exact J53 _ _ _ (j52_0 + (1 : Int64)) (own_inc j52_1 (own_in q3)) (j52_2 + (1 : Int64)) (own_inc j52_3 (own_in q3)) (by rw [if_neg hc68]) (by rw [if_neg hc68]) (by rw [if_neg hc68]) (by rw [if_neg hc68]) (X76.more (by decide) (by decide)) rfl N77 K78 f79 f80 f81 f82 f83 f84 f85 f86 f87 p76_0 p76_1 p76_2
                by_cases hc88 : j2_0 = (0 : Int32)
                · refine Wlk.of (fun _ k => XS.ifYes X51.here hx rfl (pc0 := 117) (pc' := 132) rfl (hb hby at_117) rfl ((if0 _ _).trans (teq hc88).1) (by decide) (by decide) k) ?_
                  show Wlk p.tables e below (T51.setTop (mkF m 132 #[jv q1, sd, jv q2, sd, jv q3, sd, iv p4, iv p5, iv j1_0, iv j2_0, iv j3_0, iv v7, rv b8, rv b15, rv b29, un, un, un, un] [])) K
                  exact J52 _ _ _ (0 : Int64) own_zero j51_2 j51_3 (by rw [if_pos hc88]) (by rw [if_pos hc88]) (by rw [if_pos hc88]) (by rw [if_pos hc88]) (X51.more (by decide) (by decide)) e51 N51 K51 z51_0 z51_1 z51_2 z51_3 z51_4 z51_5 z51_6 z51_7 z51_8 z51_9 z51_10 z51_11
                · refine Wlk.of (fun _ k => XS.ifNo X51.here hx rfl (hb hby at_117) rfl ((if0 _ _).trans (feq hc88).1) k) ?_
                  show Wlk p.tables e below (T51.setTop (mkF m 120 #[jv q1, sd, jv q2, sd, jv q3, sd, iv p4, iv p5, iv j1_0, iv j2_0, iv j3_0, iv v7, rv b8, rv b15, rv b29, un, un, un, un] [])) K
                  refine Wlk.of (fun _ k => XS.aload X51.here hx rfl (hb hby at_120) rfl rfl k) ?_
                  show Wlk p.tables e below (T51.setTop (mkF m 122 #[jv q1, sd, jv q2, sd, jv q3, sd, iv p4, iv p5, iv j1_0, iv j2_0, iv j3_0, iv v7, rv b8, rv b15, rv b29, un, un, un, un] [(.ref b15)])) K
                  refine Wlk.of (fun _ k => XS.lloadN X51.here hx rfl (hb hby at_122) rfl k) ?_
                  show Wlk p.tables e below (T51.setTop (mkF m 123 #[jv q1, sd, jv q2, sd, jv q3, sd, iv p4, iv p5, iv j1_0, iv j2_0, iv j3_0, iv v7, rv b8, rv b15, rv b29, un, un, un, un] [(.long q2), (.ref b15)])) K
                  obtain ⟨v89, T89, L89, X89, q89, st89⟩ := Ctr.virtual (y := (⟨"com/example/eimer/eimer/cli/Latencies", "record", "(J)V"⟩ : MethodName)) (rmR l Z a0 hw b15 q2 ca_21 (0 : Int64) own_zero h51 n0 (Nat.le_trans Z0 K51.1) z51_4 z51_5 z51_6 z51_7 ne23 g_b15 g_ca_21) X51 hx hZ e51 hown (wd hw 13 rfl) (wd hw 14 rfl) (notFace_of_selects (args := #[]) (mvT hZ (wd hw 16 rfl))) (wd hw 16 rfl) (wd hw 15 rfl) (wd hw 3 rfl) (wd hw 17 rfl) (by decide) z51_4 pd_231 (g := (mkF m 123 #[jv q1, sd, jv q2, sd, jv q3, sd, iv p4, iv p5, iv j1_0, iv j2_0, iv j3_0, iv v7, rv b8, rv b15, rv b29, un, un, un, un] [(.long q2), (.ref b15)])) rfl (by rw [hml]; rfl) (argsL := [(.long q2)]) (rest := []) rfl rfl rfl (W := 0) (by show 2 * 0 + _ ≤ _; exact Nat.le_of_eq rfl) (by decide) (by decide) (hb hby at_123) (by decide) (by decide)
                  obtain ⟨rfl, N89q, K89q, p89_0, p89_1, p89_2⟩ := q89
                  have N90 := Fr.app N51 N89q
                  refine Wlk.of (fun _ k => st89 _ k) ?_
                  have K91 : Keep h0 T89.heap [] := K51.trans K89q (allS (Or.inr sz_b15) (allS (Or.inr sz_ca_21) all0))
                  show Wlk p.tables e below (T89.setTop (mkF m 126 #[jv q1, sd, jv q2, sd, jv q3, sd, iv p4, iv p5, iv j1_0, iv j2_0, iv j3_0, iv v7, rv b8, rv b15, rv b29, un, un, un, un] [])) K
                  refine Wlk.of (fun _ k => XS.aload X89.here hx rfl (hb hby at_126) rfl rfl k) ?_
                  show Wlk p.tables e below (T89.setTop (mkF m 128 #[jv q1, sd, jv q2, sd, jv q3, sd, iv p4, iv p5, iv j1_0, iv j2_0, iv j3_0, iv v7, rv b8, rv b15, rv b29, un, un, un, un] [(.ref b29)])) K
                  refine Wlk.of (fun _ k => XS.lloadN X89.here hx rfl (hb hby at_128) rfl k) ?_
                  show Wlk p.tables e below (T89.setTop (mkF m 129 #[jv q1, sd, jv q2, sd, jv q3, sd, iv p4, iv p5, iv j1_0, iv j2_0, iv j3_0, iv v7, rv b8, rv b15, rv b29, un, un, un, un] [(.long q2), (.ref b29)])) K
                  have f92 : Exa Z T89.heap b29 "com/example/eimer/eimer/cli/Latencies" := (z51_8.keep K89q)
                  have f93 : Fld Z T89.heap b29 "com/example/eimer/eimer/cli/Latencies" "counts" "[J" (.ref ca_39) := (z51_9.keep K89q (ninS (Ne.symm ne30) (ninS (Ne.symm ne36) nin0)))
                  have f94 : Fld Z T89.heap b29 "com/example/eimer/eimer/cli/Latencies" "total" "J" (.long j51_2) := (z51_10.keep K89q (ninS (Ne.symm ne30) (ninS (Ne.symm ne36) nin0)))
                  have f95 : Arl Z T89.heap ca_39 .long (own_vs j51_3) := (z51_11.keep K89q (ninS (Ne.symm ne41) (ninS (Ne.symm ne48) nin0)))
                  obtain ⟨v96, T96, L96, X96, q96, st96⟩ := Ctr.virtual (y := (⟨"com/example/eimer/eimer/cli/Latencies", "record", "(J)V"⟩ : MethodName)) (rmR l Z a0 hw b29 q2 ca_39 j51_2 j51_3 T89.heap n0 (Nat.le_trans Z0 K91.1) f92 f93 f94 f95 ne43 g_b29 g_ca_39) X89 hx hZ rfl hown (wd hw 13 rfl) (wd hw 14 rfl) (notFace_of_selects (args := #[]) (mvT hZ (wd hw 16 rfl))) (wd hw 16 rfl) (wd hw 15 rfl) (wd hw 3 rfl) (wd hw 17 rfl) (by decide) f92 pd_231 (g := (mkF m 129 #[jv q1, sd, jv q2, sd, jv q3, sd, iv p4, iv p5, iv j1_0, iv j2_0, iv j3_0, iv v7, rv b8, rv b15, rv b29, un, un, un, un] [(.long q2), (.ref b29)])) rfl (by rw [hml]; rfl) (argsL := [(.long q2)]) (rest := []) rfl rfl rfl (W := 0) (by show 2 * 0 + _ ≤ _; exact Nat.le_of_eq rfl) (by decide) (by decide) (hb hby at_129) (by decide) (by decide)
                  obtain ⟨rfl, N96q, K96q, p96_0, p96_1, p96_2⟩ := q96
                  have N97 := Fr.app N90 N96q
                  refine Wlk.of (fun _ k => st96 _ k) ?_
                  have K98 : Keep h0 T96.heap [] := K91.trans K96q (allS (Or.inr sz_b29) (allS (Or.inr sz_ca_39) all0))
                  show Wlk p.tables e below (T96.setTop (mkF m 132 #[jv q1, sd, jv q2, sd, jv q3, sd, iv p4, iv p5, iv j1_0, iv j2_0, iv j3_0, iv v7, rv b8, rv b15, rv b29, un, un, un, un] [])) K
                  have f99 : Exa Z T96.heap b8 "com/example/eimer/eimer/cli/Latencies" := ((z51_0.keep K89q).keep K96q)
                  have f100 : Fld Z T96.heap b8 "com/example/eimer/eimer/cli/Latencies" "counts" "[J" (.ref ca_11) := ((z51_1.keep K89q (ninS ne16 (ninS ne24 nin0))).keep K96q (ninS ne32 (ninS ne44 nin0)))
                  have f101 : Fld Z T96.heap b8 "com/example/eimer/eimer/cli/Latencies" "total" "J" (.long j51_0) := ((z51_2.keep K89q (ninS ne16 (ninS ne24 nin0))).keep K96q (ninS ne32 (ninS ne44 nin0)))
                  have f102 : Arl Z T96.heap ca_11 .long (own_vs j51_1) := ((z51_3.keep K89q (ninS ne18 (ninS ne26 nin0))).keep K96q (ninS ne34 (ninS ne46 nin0)))
                  have f103 : Exa Z T96.heap b15 "com/example/eimer/eimer/cli/Latencies" := ((z51_4.keep K89q).keep K96q)
                  have f104 : Fld Z T96.heap b15 "com/example/eimer/eimer/cli/Latencies" "counts" "[J" (.ref ca_21) := (p89_0.keep K96q (ninS ne30 (ninS ne41 nin0)))
                  have f105 : Fld Z T96.heap b15 "com/example/eimer/eimer/cli/Latencies" "total" "J" (.long ((0 : Int64) + (1 : Int64))) := (p89_1.keep K96q (ninS ne30 (ninS ne41 nin0)))
                  have f106 : Arl Z T96.heap ca_21 .long (own_vs (own_inc own_zero (own_in q2))) := (p89_2.keep K96q (ninS ne36 (ninS ne48 nin0)))
                  have f107 : Exa Z T96.heap b29 "com/example/eimer/eimer/cli/Latencies" := (f92.keep K96q)
                  exact J52 _ _ _ ((0 : Int64) + (1 : Int64)) (own_inc own_zero (own_in q2)) (j51_2 + (1 : Int64)) (own_inc j51_3 (own_in q2)) (by rw [if_neg hc88]) (by rw [if_neg hc88]) (by rw [if_neg hc88]) (by rw [if_neg hc88]) (X96.more (by decide) (by decide)) rfl N97 K98 f99 f100 f101 f102 f103 f104 f105 f106 f107 p96_0 p96_1 p96_2
              by_cases hc108 : j1_0 = (0 : Int32)
              · refine Wlk.of (fun _ k => XS.ifYes X39.here hx rfl (pc0 := 100) (pc' := 115) rfl (hb hby at_100) rfl ((if0 _ _).trans (teq hc108).1) (by decide) (by decide) k) ?_
                show Wlk p.tables e below (T39.setTop (mkF m 115 #[jv q1, sd, jv q2, sd, jv q3, sd, iv p4, iv p5, iv j1_0, iv j2_0, iv j3_0, iv v7, rv b8, rv b15, rv b29, un, un, un, un] [])) K
                have f109 : Exa Z T39.heap b8 "com/example/eimer/eimer/cli/Latencies" := (f45.keep K39q)
                have f110 : Fld Z T39.heap b8 "com/example/eimer/eimer/cli/Latencies" "counts" "[J" (.ref ca_11) := ((((p11_1.ext E15).keep K21q (ninS ne16 nin0)).ext E29).keep K39q (ninS ne32 nin0))
                have f111 : Fld Z T39.heap b8 "com/example/eimer/eimer/cli/Latencies" "total" "J" (.long (0 : Int64)) := ((((p11_2.ext E15).keep K21q (ninS ne16 nin0)).ext E29).keep K39q (ninS ne32 nin0))
                have f112 : Arl Z T39.heap ca_11 .long (own_vs own_zero) := (f47.keep K39q (ninS ne34 nin0))
                have f113 : Exa Z T39.heap b15 "com/example/eimer/eimer/cli/Latencies" := (f42.keep K39q)
                have f114 : Fld Z T39.heap b15 "com/example/eimer/eimer/cli/Latencies" "counts" "[J" (.ref ca_21) := ((p21_1.ext E29).keep K39q (ninS ne30 nin0))
                have f115 : Fld Z T39.heap b15 "com/example/eimer/eimer/cli/Latencies" "total" "J" (.long (0 : Int64)) := ((p21_2.ext E29).keep K39q (ninS ne30 nin0))
                have f116 : Arl Z T39.heap ca_21 .long (own_vs own_zero) := (f49.keep K39q (ninS ne36 nin0))
                have f117 : Exa Z T39.heap b29 "com/example/eimer/eimer/cli/Latencies" := (A29.keep K39q)
                exact J51 _ _ _ (0 : Int64) own_zero (0 : Int64) own_zero (by rw [if_pos hc108]) (by rw [if_pos hc108]) (by rw [if_pos hc108]) (by rw [if_pos hc108]) (X39.more (by decide) (by decide)) rfl N40 K50 f109 f110 f111 f112 f113 f114 f115 f116 f117 p39_1 p39_2 p39_3
              · refine Wlk.of (fun _ k => XS.ifNo X39.here hx rfl (hb hby at_100) rfl ((if0 _ _).trans (feq hc108).1) k) ?_
                show Wlk p.tables e below (T39.setTop (mkF m 103 #[jv q1, sd, jv q2, sd, jv q3, sd, iv p4, iv p5, iv j1_0, iv j2_0, iv j3_0, iv v7, rv b8, rv b15, rv b29, un, un, un, un] [])) K
                refine Wlk.of (fun _ k => XS.aload X39.here hx rfl (hb hby at_103) rfl rfl k) ?_
                show Wlk p.tables e below (T39.setTop (mkF m 105 #[jv q1, sd, jv q2, sd, jv q3, sd, iv p4, iv p5, iv j1_0, iv j2_0, iv j3_0, iv v7, rv b8, rv b15, rv b29, un, un, un, un] [(.ref b8)])) K
                refine Wlk.of (fun _ k => XS.lloadN X39.here hx rfl (hb hby at_105) rfl k) ?_
                show Wlk p.tables e below (T39.setTop (mkF m 106 #[jv q1, sd, jv q2, sd, jv q3, sd, iv p4, iv p5, iv j1_0, iv j2_0, iv j3_0, iv v7, rv b8, rv b15, rv b29, un, un, un, un] [(.long q1), (.ref b8)])) K
                have f118 : Exa Z T39.heap b8 "com/example/eimer/eimer/cli/Latencies" := (f45.keep K39q)
                have f119 : Fld Z T39.heap b8 "com/example/eimer/eimer/cli/Latencies" "counts" "[J" (.ref ca_11) := ((((p11_1.ext E15).keep K21q (ninS ne16 nin0)).ext E29).keep K39q (ninS ne32 nin0))
                have f120 : Fld Z T39.heap b8 "com/example/eimer/eimer/cli/Latencies" "total" "J" (.long (0 : Int64)) := ((((p11_2.ext E15).keep K21q (ninS ne16 nin0)).ext E29).keep K39q (ninS ne32 nin0))
                have f121 : Arl Z T39.heap ca_11 .long (own_vs own_zero) := (f47.keep K39q (ninS ne34 nin0))
                obtain ⟨v122, T122, L122, X122, q122, st122⟩ := Ctr.virtual (y := (⟨"com/example/eimer/eimer/cli/Latencies", "record", "(J)V"⟩ : MethodName)) (rmR l Z a0 hw b8 q1 ca_11 (0 : Int64) own_zero T39.heap n0 (Nat.le_trans Z0 K50.1) f118 f119 f120 f121 ne13 g_b8 g_ca_11) X39 hx hZ rfl hown (wd hw 13 rfl) (wd hw 14 rfl) (notFace_of_selects (args := #[]) (mvT hZ (wd hw 16 rfl))) (wd hw 16 rfl) (wd hw 15 rfl) (wd hw 3 rfl) (wd hw 17 rfl) (by decide) f118 pd_231 (g := (mkF m 106 #[jv q1, sd, jv q2, sd, jv q3, sd, iv p4, iv p5, iv j1_0, iv j2_0, iv j3_0, iv v7, rv b8, rv b15, rv b29, un, un, un, un] [(.long q1), (.ref b8)])) rfl (by rw [hml]; rfl) (argsL := [(.long q1)]) (rest := []) rfl rfl rfl (W := 0) (by show 2 * 0 + _ ≤ _; exact Nat.le_of_eq rfl) (by decide) (by decide) (hb hby at_106) (by decide) (by decide)
                obtain ⟨rfl, N122q, K122q, p122_0, p122_1, p122_2⟩ := q122
                have N123 := Fr.app N40 N122q
                refine Wlk.of (fun _ k => st122 _ k) ?_
                have K124 : Keep h0 T122.heap [] := K50.trans K122q (allS (Or.inr sz_b8) (allS (Or.inr sz_ca_11) all0))
                show Wlk p.tables e below (T122.setTop (mkF m 109 #[jv q1, sd, jv q2, sd, jv q3, sd, iv p4, iv p5, iv j1_0, iv j2_0, iv j3_0, iv v7, rv b8, rv b15, rv b29, un, un, un, un] [])) K
                refine Wlk.of (fun _ k => XS.aload X122.here hx rfl (hb hby at_109) rfl rfl k) ?_
                show Wlk p.tables e below (T122.setTop (mkF m 111 #[jv q1, sd, jv q2, sd, jv q3, sd, iv p4, iv p5, iv j1_0, iv j2_0, iv j3_0, iv v7, rv b8, rv b15, rv b29, un, un, un, un] [(.ref b29)])) K
                refine Wlk.of (fun _ k => XS.lloadN X122.here hx rfl (hb hby at_111) rfl k) ?_
                show Wlk p.tables e below (T122.setTop (mkF m 112 #[jv q1, sd, jv q2, sd, jv q3, sd, iv p4, iv p5, iv j1_0, iv j2_0, iv j3_0, iv v7, rv b8, rv b15, rv b29, un, un, un, un] [(.long q1), (.ref b29)])) K
                have f125 : Exa Z T122.heap b29 "com/example/eimer/eimer/cli/Latencies" := ((A29.keep K39q).keep K122q)
                have f126 : Fld Z T122.heap b29 "com/example/eimer/eimer/cli/Latencies" "counts" "[J" (.ref ca_39) := (p39_1.keep K122q (ninS (Ne.symm ne32) (ninS (Ne.symm ne34) nin0)))
                have f127 : Fld Z T122.heap b29 "com/example/eimer/eimer/cli/Latencies" "total" "J" (.long (0 : Int64)) := (p39_2.keep K122q (ninS (Ne.symm ne32) (ninS (Ne.symm ne34) nin0)))
                have f128 : Arl Z T122.heap ca_39 .long (own_vs own_zero) := (p39_3.keep K122q (ninS (Ne.symm ne44) (ninS (Ne.symm ne46) nin0)))
                obtain ⟨v129, T129, L129, X129, q129, st129⟩ := Ctr.virtual (y := (⟨"com/example/eimer/eimer/cli/Latencies", "record", "(J)V"⟩ : MethodName)) (rmR l Z a0 hw b29 q1 ca_39 (0 : Int64) own_zero T122.heap n0 (Nat.le_trans Z0 K124.1) f125 f126 f127 f128 ne43 g_b29 g_ca_39) X122 hx hZ rfl hown (wd hw 13 rfl) (wd hw 14 rfl) (notFace_of_selects (args := #[]) (mvT hZ (wd hw 16 rfl))) (wd hw 16 rfl) (wd hw 15 rfl) (wd hw 3 rfl) (wd hw 17 rfl) (by decide) f125 pd_231 (g := (mkF m 112 #[jv q1, sd, jv q2, sd, jv q3, sd, iv p4, iv p5, iv j1_0, iv j2_0, iv j3_0, iv v7, rv b8, rv b15, rv b29, un, un, un, un] [(.long q1), (.ref b29)])) rfl (by rw [hml]; rfl) (argsL := [(.long q1)]) (rest := []) rfl rfl rfl (W := 0) (by show 2 * 0 + _ ≤ _; exact Nat.le_of_eq rfl) (by decide) (by decide) (hb hby at_112) (by decide) (by decide)
                obtain ⟨rfl, N129q, K129q, p129_0, p129_1, p129_2⟩ := q129
                have N130 := Fr.app N123 N129q
                refine Wlk.of (fun _ k => st129 _ k) ?_
                have K131 : Keep h0 T129.heap [] := K124.trans K129q (allS (Or.inr sz_b29) (allS (Or.inr sz_ca_39) all0))
                show Wlk p.tables e below (T129.setTop (mkF m 115 #[jv q1, sd, jv q2, sd, jv q3, sd, iv p4, iv p5, iv j1_0, iv j2_0, iv j3_0, iv v7, rv b8, rv b15, rv b29, un, un, un, un] [])) K
                have f132 : Exa Z T129.heap b8 "com/example/eimer/eimer/cli/Latencies" := ((f118.keep K122q).keep K129q)
                have f133 : Fld Z T129.heap b8 "com/example/eimer/eimer/cli/Latencies" "counts" "[J" (.ref ca_11) := (p122_0.keep K129q (ninS ne32 (ninS ne44 nin0)))
                have f134 : Fld Z T129.heap b8 "com/example/eimer/eimer/cli/Latencies" "total" "J" (.long ((0 : Int64) + (1 : Int64))) := (p122_1.keep K129q (ninS ne32 (ninS ne44 nin0)))
                have f135 : Arl Z T129.heap ca_11 .long (own_vs (own_inc own_zero (own_in q1))) := (p122_2.keep K129q (ninS ne34 (ninS ne46 nin0)))
                have f136 : Exa Z T129.heap b15 "com/example/eimer/eimer/cli/Latencies" := (((f42.keep K39q).keep K122q).keep K129q)
                have f137 : Fld Z T129.heap b15 "com/example/eimer/eimer/cli/Latencies" "counts" "[J" (.ref ca_21) := ((((p21_1.ext E29).keep K39q (ninS ne30 nin0)).keep K122q (ninS (Ne.symm ne16) (ninS (Ne.symm ne18) nin0))).keep K129q (ninS ne30 (ninS ne41 nin0)))
                have f138 : Fld Z T129.heap b15 "com/example/eimer/eimer/cli/Latencies" "total" "J" (.long (0 : Int64)) := ((((p21_2.ext E29).keep K39q (ninS ne30 nin0)).keep K122q (ninS (Ne.symm ne16) (ninS (Ne.symm ne18) nin0))).keep K129q (ninS ne30 (ninS ne41 nin0)))
                have f139 : Arl Z T129.heap ca_21 .long (own_vs own_zero) := (((f49.keep K39q (ninS ne36 nin0)).keep K122q (ninS (Ne.symm ne24) (ninS (Ne.symm ne26) nin0))).keep K129q (ninS ne36 (ninS ne48 nin0)))
                have f140 : Exa Z T129.heap b29 "com/example/eimer/eimer/cli/Latencies" := (f125.keep K129q)
                exact J51 _ _ _ ((0 : Int64) + (1 : Int64)) (own_inc own_zero (own_in q1)) ((0 : Int64) + (1 : Int64)) (own_inc own_zero (own_in q1)) (by rw [if_neg hc108]) (by rw [if_neg hc108]) (by rw [if_neg hc108]) (by rw [if_neg hc108]) (X129.more (by decide) (by decide)) rfl N130 K131 f132 f133 f134 f135 f136 f137 f138 f139 f140 p129_0 p129_1 p129_2
          · refine Wlk.of (fun _ k => XS.ifYes X3.here hx rfl (pc0 := 49) (pc' := 59) rfl (hb hby at_49) rfl ((if0 _ _).trans (feq hc5).2) (by decide) (by decide) k) ?_
            show Wlk p.tables e below (T3.setTop (mkF m 59 #[jv q1, sd, jv q2, sd, jv q3, sd, iv p4, iv p5, iv j1_0, iv j2_0, iv j3_0, un, un, un, un, un, un, un, un] [])) K
            refine Wlk.of (fun _ k => XS.iconst X3.here hx rfl (hb hby at_59) k) ?_
            show Wlk p.tables e below (T3.setTop (mkF m 60 #[jv q1, sd, jv q2, sd, jv q3, sd, iv p4, iv p5, iv j1_0, iv j2_0, iv j3_0, un, un, un, un, un, un, un, un] [(.int (1 : Int32))])) K
            refine Wlk.of (fun _ k => XS.iload X3.here hx rfl (hb hby at_60) rfl k) ?_
            show Wlk p.tables e below (T3.setTop (mkF m 62 #[jv q1, sd, jv q2, sd, jv q3, sd, iv p4, iv p5, iv j1_0, iv j2_0, iv j3_0, un, un, un, un, un, un, un, un] [(.int p5), (.int (1 : Int32))])) K
            refine Wlk.of (fun _ k => X3.ldcInt hx hown (mvT hZ (wd hw 0 rfl)) (g := (mkF m 62 #[jv q1, sd, jv q2, sd, jv q3, sd, iv p4, iv p5, iv j1_0, iv j2_0, iv j3_0, un, un, un, un, un, un, un, un] [(.int p5), (.int (1 : Int32))])) rfl (hb hby at_62) _ k) ?_
            show Wlk p.tables e below (T3.setTop (mkF m 64 #[jv q1, sd, jv q2, sd, jv q3, sd, iv p4, iv p5, iv j1_0, iv j2_0, iv j3_0, un, un, un, un, un, un, un, un] [(.int (2147483647 : Int32)), (.int p5), (.int (1 : Int32))])) K
            refine Wlk.of (fun _ k => XS.iand X3.here hx rfl (hb hby at_64) rfl k) ?_
            show Wlk p.tables e below (T3.setTop (mkF m 65 #[jv q1, sd, jv q2, sd, jv q3, sd, iv p4, iv p5, iv j1_0, iv j2_0, iv j3_0, un, un, un, un, un, un, un, un] [(.int (p5 &&& (2147483647 : Int32))), (.int (1 : Int32))])) K
            refine Wlk.of (fun _ k => XS.bipush X3.here hx rfl (hb hby at_65) k) ?_
            show Wlk p.tables e below (T3.setTop (mkF m 67 #[jv q1, sd, jv q2, sd, jv q3, sd, iv p4, iv p5, iv j1_0, iv j2_0, iv j3_0, un, un, un, un, un, un, un, un] [(.int (100 : Int32)), (.int (p5 &&& (2147483647 : Int32))), (.int (1 : Int32))])) K
            refine Wlk.of (fun _ k => iremM X3 hx rfl (hb hby at_67) rfl (by decide) k) ?_
            show Wlk p.tables e below (T3.setTop (mkF m 68 #[jv q1, sd, jv q2, sd, jv q3, sd, iv p4, iv p5, iv j1_0, iv j2_0, iv j3_0, un, un, un, un, un, un, un, un] [(.int ((p5 &&& (2147483647 : Int32)) % (100 : Int32))), (.int (1 : Int32))])) K
            refine Wlk.of (fun _ k => XS.iadd X3.here hx rfl (hb hby at_68) rfl k) ?_
            show Wlk p.tables e below (T3.setTop (mkF m 69 #[jv q1, sd, jv q2, sd, jv q3, sd, iv p4, iv p5, iv j1_0, iv j2_0, iv j3_0, un, un, un, un, un, un, un, un] [(.int ((1 : Int32) + ((p5 &&& (2147483647 : Int32)) % (100 : Int32))))])) K
            refine Wlk.of (fun _ k => XS.istore X3.here hx rfl (hb hby at_69) rfl (l' := #[jv q1, sd, jv q2, sd, jv q3, sd, iv p4, iv p5, iv j1_0, iv j2_0, iv j3_0, iv ((1 : Int32) + ((p5 &&& (2147483647 : Int32)) % (100 : Int32))), un, un, un, un, un, un, un]) rfl k) ?_
            show Wlk p.tables e below (T3.setTop (mkF m 71 #[jv q1, sd, jv q2, sd, jv q3, sd, iv p4, iv p5, iv j1_0, iv j2_0, iv j3_0, iv ((1 : Int32) + ((p5 &&& (2147483647 : Int32)) % (100 : Int32))), un, un, un, un, un, un, un] [])) K
            generalize hv141 : ((1 : Int32) + ((p5 &&& (2147483647 : Int32)) % (100 : Int32))) = v141
            obtain ⟨T142, h142, X142, e142, E142, A142, D142, -, st142⟩ := newO X3 hx hZ hown (wd hw 1 rfl) (wd hw 2 rfl) (wd hw 3 rfl) e3 (g := (mkF m 71 #[jv q1, sd, jv q2, sd, jv q3, sd, iv p4, iv p5, iv j1_0, iv j2_0, iv j3_0, iv v141, un, un, un, un, un, un, un] [])) rfl (hb hby at_71) (by decide) (by decide)
            obtain ⟨b142, g142⟩ : ∃ z, z = h0.size := ⟨_, rfl⟩
            rw [← g142] at A142 D142 st142
            have sz_b142 : h0.size ≤ b142 := Nat.le_trans K0.1 (Nat.le_of_eq g142.symm)
            have g_b142 : n0 ≤ b142 := Nat.le_trans Z0 sz_b142
            have K144 : Keep h0 h142 [] := K0.ext E142
            have F_b142_counts : Fld Z h142 b142 "com/example/eimer/eimer/cli/Latencies" "counts" "[J" .null := D142 (Or.inr (wd hw 12 rfl)) (ty := (.array .long)) (by decide)
            have F_b142_total : Fld Z h142 b142 "com/example/eimer/eimer/cli/Latencies" "total" "J" (.long (0 : Int64)) := D142 (Or.inl (wd hw 35 rfl)) (ty := .long) (by decide)
            refine Wlk.of (fun _ k => st142 _ k) ?_
            show Wlk p.tables e below (T142.setTop (mkF m 74 #[jv q1, sd, jv q2, sd, jv q3, sd, iv p4, iv p5, iv j1_0, iv j2_0, iv j3_0, iv v141, un, un, un, un, un, un, un] [(.ref b142)])) K
            refine Wlk.of (fun _ k => XS.dup X142.here hx rfl (hb hby at_74) rfl rfl k) ?_
            show Wlk p.tables e below (T142.setTop (mkF m 75 #[jv q1, sd, jv q2, sd, jv q3, sd, iv p4, iv p5, iv j1_0, iv j2_0, iv j3_0, iv v141, un, un, un, un, un, un, un] [(.ref b142), (.ref b142)])) K
            obtain ⟨v145, T145, L145, X145, q145, st145⟩ := Ctr.special (rmI l Z a0 hw b142 h142 n0 (Nat.le_trans Z0 K144.1) A142 F_b142_counts F_b142_total g_b142) X142 hx hZ e142 hown rfl (wd hw 4 rfl) (wd hw 5 rfl) (wd hw 3 rfl) (wd hw 6 rfl) (by decide) pd_230 (g := (mkF m 75 #[jv q1, sd, jv q2, sd, jv q3, sd, iv p4, iv p5, iv j1_0, iv j2_0, iv j3_0, iv v141, un, un, un, un, un, un, un] [(.ref b142), (.ref b142)])) rfl (by rw [hml]; rfl) (a := b142) (argsL := []) (rest := [(.ref b142)]) rfl rfl rfl (W := 1) (by show 2 * 0 + _ ≤ _; exact Nat.le_of_eq rfl) (by decide) (by decide) (hb hby at_75) (by decide) (by decide)
            obtain ⟨ca_145, rfl, N145q, K145q, p145_0, p145_1, p145_2, p145_3⟩ := q145
            have N146 := Fr.app N0 N145q
            refine Wlk.of (fun _ k => st145 _ k) ?_
            have ne147 : b142 ≠ ca_145 := Nat.ne_of_lt (Nat.lt_of_lt_of_le A142.lt p145_0)
            have sz_ca_145 : h0.size ≤ ca_145 := Nat.le_trans K144.1 p145_0
            have g_ca_145 : n0 ≤ ca_145 := Nat.le_trans Z0 sz_ca_145
            have K148 : Keep h0 T145.heap [] := K144.trans K145q (allS (Or.inr sz_b142) all0)
            show Wlk p.tables e below (T145.setTop (mkF m 78 #[jv q1, sd, jv q2, sd, jv q3, sd, iv p4, iv p5, iv j1_0, iv j2_0, iv j3_0, iv v141, un, un, un, un, un, un, un] [(.ref b142)])) K
            refine Wlk.of (fun _ k => XS.astore X145.here hx rfl (hb hby at_78) rfl rfl (l' := #[jv q1, sd, jv q2, sd, jv q3, sd, iv p4, iv p5, iv j1_0, iv j2_0, iv j3_0, iv v141, rv b142, un, un, un, un, un, un]) rfl k) ?_
            show Wlk p.tables e below (T145.setTop (mkF m 80 #[jv q1, sd, jv q2, sd, jv q3, sd, iv p4, iv p5, iv j1_0, iv j2_0, iv j3_0, iv v141, rv b142, un, un, un, un, un, un] [])) K
            obtain ⟨T149, h149, X149, e149, E149, A149, D149, -, st149⟩ := newO X145 hx hZ hown (wd hw 1 rfl) (wd hw 2 rfl) (wd hw 3 rfl) rfl (g := (mkF m 80 #[jv q1, sd, jv q2, sd, jv q3, sd, iv p4, iv p5, iv j1_0, iv j2_0, iv j3_0, iv v141, rv b142, un, un, un, un, un, un] [])) rfl (hb hby at_80) (by decide) (by decide)
            obtain ⟨b149, g149⟩ : ∃ z, z = T145.heap.size := ⟨_, rfl⟩
            rw [← g149] at A149 D149 st149
            have f151 : Exa Z T145.heap b142 "com/example/eimer/eimer/cli/Latencies" := (A142.keep K145q)
            have ne150 : b142 ≠ b149 := Nat.ne_of_lt (Nat.lt_of_lt_of_le f151.lt (Nat.le_of_eq g149.symm))
            have ne152 : ca_145 ≠ b149 := Nat.ne_of_lt (Nat.lt_of_lt_of_le p145_3.lt (Nat.le_of_eq g149.symm))
            have sz_b149 : h0.size ≤ b149 := Nat.le_trans K148.1 (Nat.le_of_eq g149.symm)
            have g_b149 : n0 ≤ b149 := Nat.le_trans Z0 sz_b149
            have K154 : Keep h0 h149 [] := K148.ext E149
            have F_b149_counts : Fld Z h149 b149 "com/example/eimer/eimer/cli/Latencies" "counts" "[J" .null := D149 (Or.inr (wd hw 12 rfl)) (ty := (.array .long)) (by decide)
            have F_b149_total : Fld Z h149 b149 "com/example/eimer/eimer/cli/Latencies" "total" "J" (.long (0 : Int64)) := D149 (Or.inl (wd hw 35 rfl)) (ty := .long) (by decide)
            refine Wlk.of (fun _ k => st149 _ k) ?_
            show Wlk p.tables e below (T149.setTop (mkF m 83 #[jv q1, sd, jv q2, sd, jv q3, sd, iv p4, iv p5, iv j1_0, iv j2_0, iv j3_0, iv v141, rv b142, un, un, un, un, un, un] [(.ref b149)])) K
            refine Wlk.of (fun _ k => XS.dup X149.here hx rfl (hb hby at_83) rfl rfl k) ?_
            show Wlk p.tables e below (T149.setTop (mkF m 84 #[jv q1, sd, jv q2, sd, jv q3, sd, iv p4, iv p5, iv j1_0, iv j2_0, iv j3_0, iv v141, rv b142, un, un, un, un, un, un] [(.ref b149), (.ref b149)])) K
            obtain ⟨v155, T155, L155, X155, q155, st155⟩ := Ctr.special (rmI l Z a0 hw b149 h149 n0 (Nat.le_trans Z0 K154.1) A149 F_b149_counts F_b149_total g_b149) X149 hx hZ e149 hown rfl (wd hw 4 rfl) (wd hw 5 rfl) (wd hw 3 rfl) (wd hw 6 rfl) (by decide) pd_230 (g := (mkF m 84 #[jv q1, sd, jv q2, sd, jv q3, sd, iv p4, iv p5, iv j1_0, iv j2_0, iv j3_0, iv v141, rv b142, un, un, un, un, un, un] [(.ref b149), (.ref b149)])) rfl (by rw [hml]; rfl) (a := b149) (argsL := []) (rest := [(.ref b149)]) rfl rfl rfl (W := 1) (by show 2 * 0 + _ ≤ _; exact Nat.le_of_eq rfl) (by decide) (by decide) (hb hby at_84) (by decide) (by decide)
            obtain ⟨ca_155, rfl, N155q, K155q, p155_0, p155_1, p155_2, p155_3⟩ := q155
            have N156 := Fr.app N146 N155q
            refine Wlk.of (fun _ k => st155 _ k) ?_
            have f158 : Exa Z h149 b142 "com/example/eimer/eimer/cli/Latencies" := (f151.ext E149)
            have ne157 : b142 ≠ ca_155 := Nat.ne_of_lt (Nat.lt_of_lt_of_le f158.lt p155_0)
            have ne159 : b149 ≠ ca_155 := Nat.ne_of_lt (Nat.lt_of_lt_of_le A149.lt p155_0)
            have f161 : Arl Z h149 ca_145 .long (own_vs own_zero) := (p145_3.ext E149)
            have ne160 : ca_145 ≠ ca_155 := Nat.ne_of_lt (Nat.lt_of_lt_of_le f161.lt p155_0)
            have sz_ca_155 : h0.size ≤ ca_155 := Nat.le_trans K154.1 p155_0
            have g_ca_155 : n0 ≤ ca_155 := Nat.le_trans Z0 sz_ca_155
            have K162 : Keep h0 T155.heap [] := K154.trans K155q (allS (Or.inr sz_b149) all0)
            show Wlk p.tables e below (T155.setTop (mkF m 87 #[jv q1, sd, jv q2, sd, jv q3, sd, iv p4, iv p5, iv j1_0, iv j2_0, iv j3_0, iv v141, rv b142, un, un, un, un, un, un] [(.ref b149)])) K
            refine Wlk.of (fun _ k => XS.astore X155.here hx rfl (hb hby at_87) rfl rfl (l' := #[jv q1, sd, jv q2, sd, jv q3, sd, iv p4, iv p5, iv j1_0, iv j2_0, iv j3_0, iv v141, rv b142, rv b149, un, un, un, un, un]) rfl k) ?_
            show Wlk p.tables e below (T155.setTop (mkF m 89 #[jv q1, sd, jv q2, sd, jv q3, sd, iv p4, iv p5, iv j1_0, iv j2_0, iv j3_0, iv v141, rv b142, rv b149, un, un, un, un, un] [])) K
            obtain ⟨T163, h163, X163, e163, E163, A163, D163, -, st163⟩ := newO X155 hx hZ hown (wd hw 1 rfl) (wd hw 2 rfl) (wd hw 3 rfl) rfl (g := (mkF m 89 #[jv q1, sd, jv q2, sd, jv q3, sd, iv p4, iv p5, iv j1_0, iv j2_0, iv j3_0, iv v141, rv b142, rv b149, un, un, un, un, un] [])) rfl (hb hby at_89) (by decide) (by decide)
            obtain ⟨b163, g163⟩ : ∃ z, z = T155.heap.size := ⟨_, rfl⟩
            rw [← g163] at A163 D163 st163
            have f165 : Exa Z T155.heap b142 "com/example/eimer/eimer/cli/Latencies" := (f158.keep K155q)
            have ne164 : b142 ≠ b163 := Nat.ne_of_lt (Nat.lt_of_lt_of_le f165.lt (Nat.le_of_eq g163.symm))
            have f167 : Exa Z T155.heap b149 "com/example/eimer/eimer/cli/Latencies" := (A149.keep K155q)
            have ne166 : b149 ≠ b163 := Nat.ne_of_lt (Nat.lt_of_lt_of_le f167.lt (Nat.le_of_eq g163.symm))
            have f169 : Arl Z T155.heap ca_145 .long (own_vs own_zero) := (f161.keep K155q (ninS ne152 nin0))
            have ne168 : ca_145 ≠ b163 := Nat.ne_of_lt (Nat.lt_of_lt_of_le f169.lt (Nat.le_of_eq g163.symm))
            have ne170 : ca_155 ≠ b163 := Nat.ne_of_lt (Nat.lt_of_lt_of_le p155_3.lt (Nat.le_of_eq g163.symm))
            have sz_b163 : h0.size ≤ b163 := Nat.le_trans K162.1 (Nat.le_of_eq g163.symm)
            have g_b163 : n0 ≤ b163 := Nat.le_trans Z0 sz_b163
            have K172 : Keep h0 h163 [] := K162.ext E163
            have F_b163_counts : Fld Z h163 b163 "com/example/eimer/eimer/cli/Latencies" "counts" "[J" .null := D163 (Or.inr (wd hw 12 rfl)) (ty := (.array .long)) (by decide)
            have F_b163_total : Fld Z h163 b163 "com/example/eimer/eimer/cli/Latencies" "total" "J" (.long (0 : Int64)) := D163 (Or.inl (wd hw 35 rfl)) (ty := .long) (by decide)
            refine Wlk.of (fun _ k => st163 _ k) ?_
            show Wlk p.tables e below (T163.setTop (mkF m 92 #[jv q1, sd, jv q2, sd, jv q3, sd, iv p4, iv p5, iv j1_0, iv j2_0, iv j3_0, iv v141, rv b142, rv b149, un, un, un, un, un] [(.ref b163)])) K
            refine Wlk.of (fun _ k => XS.dup X163.here hx rfl (hb hby at_92) rfl rfl k) ?_
            show Wlk p.tables e below (T163.setTop (mkF m 93 #[jv q1, sd, jv q2, sd, jv q3, sd, iv p4, iv p5, iv j1_0, iv j2_0, iv j3_0, iv v141, rv b142, rv b149, un, un, un, un, un] [(.ref b163), (.ref b163)])) K
            obtain ⟨v173, T173, L173, X173, q173, st173⟩ := Ctr.special (rmI l Z a0 hw b163 h163 n0 (Nat.le_trans Z0 K172.1) A163 F_b163_counts F_b163_total g_b163) X163 hx hZ e163 hown rfl (wd hw 4 rfl) (wd hw 5 rfl) (wd hw 3 rfl) (wd hw 6 rfl) (by decide) pd_230 (g := (mkF m 93 #[jv q1, sd, jv q2, sd, jv q3, sd, iv p4, iv p5, iv j1_0, iv j2_0, iv j3_0, iv v141, rv b142, rv b149, un, un, un, un, un] [(.ref b163), (.ref b163)])) rfl (by rw [hml]; rfl) (a := b163) (argsL := []) (rest := [(.ref b163)]) rfl rfl rfl (W := 1) (by show 2 * 0 + _ ≤ _; exact Nat.le_of_eq rfl) (by decide) (by decide) (hb hby at_93) (by decide) (by decide)
            obtain ⟨ca_173, rfl, N173q, K173q, p173_0, p173_1, p173_2, p173_3⟩ := q173
            have N174 := Fr.app N156 N173q
            refine Wlk.of (fun _ k => st173 _ k) ?_
            have f176 : Exa Z h163 b142 "com/example/eimer/eimer/cli/Latencies" := (f165.ext E163)
            have ne175 : b142 ≠ ca_173 := Nat.ne_of_lt (Nat.lt_of_lt_of_le f176.lt p173_0)
            have f178 : Exa Z h163 b149 "com/example/eimer/eimer/cli/Latencies" := (f167.ext E163)
            have ne177 : b149 ≠ ca_173 := Nat.ne_of_lt (Nat.lt_of_lt_of_le f178.lt p173_0)
            have ne179 : b163 ≠ ca_173 := Nat.ne_of_lt (Nat.lt_of_lt_of_le A163.lt p173_0)
            have f181 : Arl Z h163 ca_145 .long (own_vs own_zero) := (f169.ext E163)
            have ne180 : ca_145 ≠ ca_173 := Nat.ne_of_lt (Nat.lt_of_lt_of_le f181.lt p173_0)
            have f183 : Arl Z h163 ca_155 .long (own_vs own_zero) := (p155_3.ext E163)
            have ne182 : ca_155 ≠ ca_173 := Nat.ne_of_lt (Nat.lt_of_lt_of_le f183.lt p173_0)
            have sz_ca_173 : h0.size ≤ ca_173 := Nat.le_trans K172.1 p173_0
            have g_ca_173 : n0 ≤ ca_173 := Nat.le_trans Z0 sz_ca_173
            have K184 : Keep h0 T173.heap [] := K172.trans K173q (allS (Or.inr sz_b163) all0)
            show Wlk p.tables e below (T173.setTop (mkF m 96 #[jv q1, sd, jv q2, sd, jv q3, sd, iv p4, iv p5, iv j1_0, iv j2_0, iv j3_0, iv v141, rv b142, rv b149, un, un, un, un, un] [(.ref b163)])) K
            refine Wlk.of (fun _ k => XS.astore X173.here hx rfl (hb hby at_96) rfl rfl (l' := #[jv q1, sd, jv q2, sd, jv q3, sd, iv p4, iv p5, iv j1_0, iv j2_0, iv j3_0, iv v141, rv b142, rv b149, rv b163, un, un, un, un]) rfl k) ?_
            show Wlk p.tables e below (T173.setTop (mkF m 98 #[jv q1, sd, jv q2, sd, jv q3, sd, iv p4, iv p5, iv j1_0, iv j2_0, iv j3_0, iv v141, rv b142, rv b149, rv b163, un, un, un, un] [])) K
            refine Wlk.of (fun _ k => XS.iload X173.here hx rfl (hb hby at_98) rfl k) ?_
            show Wlk p.tables e below (T173.setTop (mkF m 100 #[jv q1, sd, jv q2, sd, jv q3, sd, iv p4, iv p5, iv j1_0, iv j2_0, iv j3_0, iv v141, rv b142, rv b149, rv b163, un, un, un, un] [(.int j1_0)])) K
            have J185 : ∀ (T185 : State) (h185 : Heap) (ls185 : List Loc) (j185_0 : Int64) (j185_1 : (Nat → Int64)) (j185_2 : Int64) (j185_3 : (Nat → Int64)), j185_0 = (if j1_0 = (0 : Int32) then (0 : Int64) else ((0 : Int64) + (1 : Int64))) → j185_1 = (if j1_0 = (0 : Int32) then own_zero else (own_inc own_zero (own_in q1))) → j185_2 = (if j1_0 = (0 : Int32) then (0 : Int64) else ((0 : Int64) + (1 : Int64))) → j185_3 = (if j1_0 = (0 : Int32) then own_zero else (own_inc own_zero (own_in q1))) → Stand p l e room_1 s m #[(.long q1), (.long q2), (.long q3), (.int p4), (.int p5)] below meth c T185 ls185 6 21894 → T185.heap = h185 → Fr n0 ls185 → Keep h0 h185 [] → Exa Z h185 b142 "com/example/eimer/eimer/cli/Latencies" → Fld Z h185 b142 "com/example/eimer/eimer/cli/Latencies" "counts" "[J" (.ref ca_145) → Fld Z h185 b142 "com/example/eimer/eimer/cli/Latencies" "total" "J" (.long j185_0) → Arl Z h185 ca_145 .long (own_vs j185_1) → Exa Z h185 b149 "com/example/eimer/eimer/cli/Latencies" → Fld Z h185 b149 "com/example/eimer/eimer/cli/Latencies" "counts" "[J" (.ref ca_155) → Fld Z h185 b149 "com/example/eimer/eimer/cli/Latencies" "total" "J" (.long (0 : Int64)) → Arl Z h185 ca_155 .long (own_vs own_zero) → Exa Z h185 b163 "com/example/eimer/eimer/cli/Latencies" → Fld Z h185 b163 "com/example/eimer/eimer/cli/Latencies" "counts" "[J" (.ref ca_173) → Fld Z h185 b163 "com/example/eimer/eimer/cli/Latencies" "total" "J" (.long j185_2) → Arl Z h185 ca_173 .long (own_vs j185_3) → Wlk p.tables e below (T185.setTop (mkF m 115 #[jv q1, sd, jv q2, sd, jv q3, sd, iv p4, iv p5, iv j1_0, iv j2_0, iv j3_0, iv v141, rv b142, rv b149, rv b163, un, un, un, un] [])) K := by
              intro T185 h185 ls185 j185_0 j185_1 j185_2 j185_3 hj185_0 hj185_1 hj185_2 hj185_3 X185 e185 N185 K185 z185_0 z185_1 z185_2 z185_3 z185_4 z185_5 z185_6 z185_7 z185_8 z185_9 z185_10 z185_11
              refine Wlk.of (fun _ k => XS.iload X185.here hx rfl (hb hby at_115) rfl k) ?_
              show Wlk p.tables e below (T185.setTop (mkF m 117 #[jv q1, sd, jv q2, sd, jv q3, sd, iv p4, iv p5, iv j1_0, iv j2_0, iv j3_0, iv v141, rv b142, rv b149, rv b163, un, un, un, un] [(.int j2_0)])) K
              have J186 : ∀ (T186 : State) (h186 : Heap) (ls186 : List Loc) (j186_0 : Int64) (j186_1 : (Nat → Int64)) (j186_2 : Int64) (j186_3 : (Nat → Int64)), j186_0 = (if j2_0 = (0 : Int32) then (0 : Int64) else ((0 : Int64) + (1 : Int64))) → j186_1 = (if j2_0 = (0 : Int32) then own_zero else (own_inc own_zero (own_in q2))) → j186_2 = (if j2_0 = (0 : Int32) then j185_2 else (j185_2 + (1 : Int64))) → j186_3 = (if j2_0 = (0 : Int32) then j185_3 else (own_inc j185_3 (own_in q2))) → Stand p l e room_1 s m #[(.long q1), (.long q2), (.long q3), (.int p4), (.int p5)] below meth c T186 ls186 6 21894 → T186.heap = h186 → Fr n0 ls186 → Keep h0 h186 [] → Exa Z h186 b142 "com/example/eimer/eimer/cli/Latencies" → Fld Z h186 b142 "com/example/eimer/eimer/cli/Latencies" "counts" "[J" (.ref ca_145) → Fld Z h186 b142 "com/example/eimer/eimer/cli/Latencies" "total" "J" (.long j185_0) → Arl Z h186 ca_145 .long (own_vs j185_1) → Exa Z h186 b149 "com/example/eimer/eimer/cli/Latencies" → Fld Z h186 b149 "com/example/eimer/eimer/cli/Latencies" "counts" "[J" (.ref ca_155) → Fld Z h186 b149 "com/example/eimer/eimer/cli/Latencies" "total" "J" (.long j186_0) → Arl Z h186 ca_155 .long (own_vs j186_1) → Exa Z h186 b163 "com/example/eimer/eimer/cli/Latencies" → Fld Z h186 b163 "com/example/eimer/eimer/cli/Latencies" "counts" "[J" (.ref ca_173) → Fld Z h186 b163 "com/example/eimer/eimer/cli/Latencies" "total" "J" (.long j186_2) → Arl Z h186 ca_173 .long (own_vs j186_3) → Wlk p.tables e below (T186.setTop (mkF m 132 #[jv q1, sd, jv q2, sd, jv q3, sd, iv p4, iv p5, iv j1_0, iv j2_0, iv j3_0, iv v141, rv b142, rv b149, rv b163, un, un, un, un] [])) K := by
                intro T186 h186 ls186 j186_0 j186_1 j186_2 j186_3 hj186_0 hj186_1 hj186_2 hj186_3 X186 e186 N186 K186 z186_0 z186_1 z186_2 z186_3 z186_4 z186_5 z186_6 z186_7 z186_8 z186_9 z186_10 z186_11
                refine Wlk.of (fun _ k => XS.iload X186.here hx rfl (hb hby at_132) rfl k) ?_
                show Wlk p.tables e below (T186.setTop (mkF m 134 #[jv q1, sd, jv q2, sd, jv q3, sd, iv p4, iv p5, iv j1_0, iv j2_0, iv j3_0, iv v141, rv b142, rv b149, rv b163, un, un, un, un] [(.int j3_0)])) K
                have J187 : ∀ (T187 : State) (h187 : Heap) (ls187 : List Loc) (j187_0 : Int64) (j187_1 : (Nat → Int64)) (j187_2 : Int64) (j187_3 : (Nat → Int64)), j187_0 = (if j3_0 = (0 : Int32) then j186_0 else (j186_0 + (1 : Int64))) → j187_1 = (if j3_0 = (0 : Int32) then j186_1 else (own_inc j186_1 (own_in q3))) → j187_2 = (if j3_0 = (0 : Int32) then j186_2 else (j186_2 + (1 : Int64))) → j187_3 = (if j3_0 = (0 : Int32) then j186_3 else (own_inc j186_3 (own_in q3))) → Stand p l e room_1 s m #[(.long q1), (.long q2), (.long q3), (.int p4), (.int p5)] below meth c T187 ls187 6 21894 → T187.heap = h187 → Fr n0 ls187 → Keep h0 h187 [] → Exa Z h187 b142 "com/example/eimer/eimer/cli/Latencies" → Fld Z h187 b142 "com/example/eimer/eimer/cli/Latencies" "counts" "[J" (.ref ca_145) → Fld Z h187 b142 "com/example/eimer/eimer/cli/Latencies" "total" "J" (.long j185_0) → Arl Z h187 ca_145 .long (own_vs j185_1) → Exa Z h187 b149 "com/example/eimer/eimer/cli/Latencies" → Fld Z h187 b149 "com/example/eimer/eimer/cli/Latencies" "counts" "[J" (.ref ca_155) → Fld Z h187 b149 "com/example/eimer/eimer/cli/Latencies" "total" "J" (.long j187_0) → Arl Z h187 ca_155 .long (own_vs j187_1) → Exa Z h187 b163 "com/example/eimer/eimer/cli/Latencies" → Fld Z h187 b163 "com/example/eimer/eimer/cli/Latencies" "counts" "[J" (.ref ca_173) → Fld Z h187 b163 "com/example/eimer/eimer/cli/Latencies" "total" "J" (.long j187_2) → Arl Z h187 ca_173 .long (own_vs j187_3) → Wlk p.tables e below (T187.setTop (mkF m 151 #[jv q1, sd, jv q2, sd, jv q3, sd, iv p4, iv p5, iv j1_0, iv j2_0, iv j3_0, iv v141, rv b142, rv b149, rv b163, un, un, un, un] [])) K := by
                  intro T187 h187 ls187 j187_0 j187_1 j187_2 j187_3 hj187_0 hj187_1 hj187_2 hj187_3 X187 e187 N187 K187 z187_0 z187_1 z187_2 z187_3 z187_4 z187_5 z187_6 z187_7 z187_8 z187_9 z187_10 z187_11
                  obtain ⟨hF, hT, hS, h123⟩ := own_all (own_ixb q1).2 (own_ixb q2).2 (own_ixb q3).2 (fun q => hc5 q.2.1) hj185_1 hj185_3 hj186_1 hj186_3 hj187_1 hj187_3 hj185_0 hj185_2 hj186_0 hj186_2 hj187_0 hj187_2
                  obtain ⟨ht0, N, hN, hstop, hgo⟩ := own_stop hv141 hS h123
                  refine Wlk.of (fun _ k => XS.aload X187.here hx rfl (hb hby at_151) rfl rfl k) ?_
                  show Wlk p.tables e below (T187.setTop (mkF m 153 #[jv q1, sd, jv q2, sd, jv q3, sd, iv p4, iv p5, iv j1_0, iv j2_0, iv j3_0, iv v141, rv b142, rv b149, rv b163, un, un, un, un] [(.ref b142)])) K
                  refine Wlk.of (fun _ k => XS.aload X187.here hx rfl (hb hby at_153) rfl rfl k) ?_
                  show Wlk p.tables e below (T187.setTop (mkF m 155 #[jv q1, sd, jv q2, sd, jv q3, sd, iv p4, iv p5, iv j1_0, iv j2_0, iv j3_0, iv v141, rv b142, rv b149, rv b163, un, un, un, un] [(.ref b149), (.ref b142)])) K
                  obtain ⟨v188, T188, L188, X188, q188, st188⟩ := Ctr.virtual (y := (⟨"com/example/eimer/eimer/cli/Latencies", "add", "(Lcom/example/eimer/eimer/cli/Latencies;)V"⟩ : MethodName)) (rmA l Z a0 hw b142 b149 ca_145 ca_155 j185_0 j187_0 j185_1 j187_1 h187 n0 (Nat.le_trans Z0 K187.1) z187_0 z187_1 z187_2 z187_3 z187_5 z187_6 z187_7 ne147 ne150 ne157 (Ne.symm ne152) ne160 g_b142 g_ca_145) X187 hx hZ e187 hown (wd hw 36 rfl) (wd hw 37 rfl) (notFace_of_selects (args := #[]) (mvT hZ (wd hw 39 rfl))) (wd hw 39 rfl) (wd hw 38 rfl) (wd hw 3 rfl) (wd hw 40 rfl) (by decide) z187_0 pd_232 (g := (mkF m 155 #[jv q1, sd, jv q2, sd, jv q3, sd, iv p4, iv p5, iv j1_0, iv j2_0, iv j3_0, iv v141, rv b142, rv b149, rv b163, un, un, un, un] [(.ref b149), (.ref b142)])) rfl (by rw [hml]; rfl) (argsL := [(.ref b149)]) (rest := []) rfl rfl rfl (W := 0) (by show 2 * 0 + _ ≤ _; exact Nat.le_of_eq rfl) (by decide) (by decide) (hb hby at_155) (by decide) (by decide)
                  obtain ⟨rfl, N188q, K188q, p188_0, p188_1, p188_2⟩ := q188
                  have N189 := Fr.app N187 N188q
                  refine Wlk.of (fun _ k => st188 _ k) ?_
                  have K190 : Keep h0 T188.heap [] := K187.trans K188q (allS (Or.inr sz_b142) (allS (Or.inr sz_ca_145) all0))
                  show Wlk p.tables e below (T188.setTop (mkF m 158 #[jv q1, sd, jv q2, sd, jv q3, sd, iv p4, iv p5, iv j1_0, iv j2_0, iv j3_0, iv v141, rv b142, rv b149, rv b163, un, un, un, un] [])) K
                  refine Wlk.of (fun _ k => XS.aload X188.here hx rfl (hb hby at_158) rfl rfl k) ?_
                  show Wlk p.tables e below (T188.setTop (mkF m 160 #[jv q1, sd, jv q2, sd, jv q3, sd, iv p4, iv p5, iv j1_0, iv j2_0, iv j3_0, iv v141, rv b142, rv b149, rv b163, un, un, un, un] [(.ref b142)])) K
                  refine Wlk.of (fun _ k => XS.iload X188.here hx rfl (hb hby at_160) rfl k) ?_
                  show Wlk p.tables e below (T188.setTop (mkF m 162 #[jv q1, sd, jv q2, sd, jv q3, sd, iv p4, iv p5, iv j1_0, iv j2_0, iv j3_0, iv v141, rv b142, rv b149, rv b163, un, un, un, un] [(.int v141), (.ref b142)])) K
                  have f191 : Exa Z T188.heap b142 "com/example/eimer/eimer/cli/Latencies" := (z187_0.keep K188q)
                  obtain ⟨v192, T192, L192, X192, q192, st192⟩ := Ctr.virtual (y := (⟨"com/example/eimer/eimer/cli/Latencies", "percentile", "(I)D"⟩ : MethodName)) (rmP l Z a0 hw b142 v141 ca_145 ((j185_0 + j187_0)) ((own_sum j185_1 j187_1)) N T188.heap n0 (Nat.le_trans Z0 K190.1) p188_0 p188_1 p188_2 (by rw [hT]; exact ht0) hN (by rw [hT, hF]; exact hstop) (by rw [hT, hF]; exact hgo)) X188 hx hZ rfl hown (wd hw 41 rfl) (wd hw 42 rfl) (notFace_of_selects (args := #[]) (mvT hZ (wd hw 44 rfl))) (wd hw 44 rfl) (wd hw 43 rfl) (wd hw 3 rfl) (wd hw 45 rfl) (by decide) f191 pd_233 (g := (mkF m 162 #[jv q1, sd, jv q2, sd, jv q3, sd, iv p4, iv p5, iv j1_0, iv j2_0, iv j3_0, iv v141, rv b142, rv b149, rv b163, un, un, un, un] [(.int v141), (.ref b142)])) rfl (by rw [hml]; rfl) (argsL := [(.int v141)]) (rest := []) rfl rfl rfl (W := 0) (by show 2 * 0 + _ ≤ _; exact Nat.le_of_eq rfl) (by decide) (by decide) (hb hby at_162) (by decide) (by decide)
                  obtain ⟨rfl, N192q, hh192⟩ := q192
                  have N193 := Fr.app N189 N192q
                  refine Wlk.of (fun _ k => st192 _ k) ?_
                  show Wlk p.tables e below (T192.setTop (mkF m 165 #[jv q1, sd, jv q2, sd, jv q3, sd, iv p4, iv p5, iv j1_0, iv j2_0, iv j3_0, iv v141, rv b142, rv b149, rv b163, un, un, un, un] [(.double (own_pv (Int32.ofNat N) (own_ps (Int32.ofNat N))))])) K
                  refine Wlk.of (fun _ k => XS.dstore X192.here hx rfl (hb hby at_165) rfl (l' := #[jv q1, sd, jv q2, sd, jv q3, sd, iv p4, iv p5, iv j1_0, iv j2_0, iv j3_0, iv v141, rv b142, rv b149, rv b163, dv (own_pv (Int32.ofNat N) (own_ps (Int32.ofNat N))), sd, un, un]) rfl k) ?_
                  show Wlk p.tables e below (T192.setTop (mkF m 167 #[jv q1, sd, jv q2, sd, jv q3, sd, iv p4, iv p5, iv j1_0, iv j2_0, iv j3_0, iv v141, rv b142, rv b149, rv b163, dv (own_pv (Int32.ofNat N) (own_ps (Int32.ofNat N))), sd, un, un] [])) K
                  generalize hv194 : (own_pv (Int32.ofNat N) (own_ps (Int32.ofNat N))) = v194
                  refine Wlk.of (fun _ k => XS.aload X192.here hx rfl (hb hby at_167) rfl rfl k) ?_
                  show Wlk p.tables e below (T192.setTop (mkF m 169 #[jv q1, sd, jv q2, sd, jv q3, sd, iv p4, iv p5, iv j1_0, iv j2_0, iv j3_0, iv v141, rv b142, rv b149, rv b163, dv v194, sd, un, un] [(.ref b163)])) K
                  refine Wlk.of (fun _ k => XS.iload X192.here hx rfl (hb hby at_169) rfl k) ?_
                  show Wlk p.tables e below (T192.setTop (mkF m 171 #[jv q1, sd, jv q2, sd, jv q3, sd, iv p4, iv p5, iv j1_0, iv j2_0, iv j3_0, iv v141, rv b142, rv b149, rv b163, dv v194, sd, un, un] [(.int v141), (.ref b163)])) K
                  have f195 : Fld Z T188.heap b163 "com/example/eimer/eimer/cli/Latencies" "counts" "[J" (.ref ca_173) := (z187_9.keep K188q (ninS (Ne.symm ne164) (ninS (Ne.symm ne168) nin0)))
                  have f196 : Fld Z T188.heap b163 "com/example/eimer/eimer/cli/Latencies" "total" "J" (.long j187_2) := (z187_10.keep K188q (ninS (Ne.symm ne164) (ninS (Ne.symm ne168) nin0)))
                  have f197 : Arl Z T188.heap ca_173 .long (own_vs j187_3) := (z187_11.keep K188q (ninS (Ne.symm ne175) (ninS (Ne.symm ne180) nin0)))
                  have f198 : Exa Z T188.heap b163 "com/example/eimer/eimer/cli/Latencies" := (z187_8.keep K188q)
                  obtain ⟨v199, T199, L199, X199, q199, st199⟩ := Ctr.virtual (y := (⟨"com/example/eimer/eimer/cli/Latencies", "percentile", "(I)D"⟩ : MethodName)) (rmP l Z a0 hw b163 v141 ca_173 j187_2 j187_3 N T188.heap n0 (Nat.le_trans Z0 K190.1) f195 f196 f197 ht0 hN hstop hgo) X192 hx hZ hh192 hown (wd hw 41 rfl) (wd hw 42 rfl) (notFace_of_selects (args := #[]) (mvT hZ (wd hw 44 rfl))) (wd hw 44 rfl) (wd hw 43 rfl) (wd hw 3 rfl) (wd hw 45 rfl) (by decide) f198 pd_233 (g := (mkF m 171 #[jv q1, sd, jv q2, sd, jv q3, sd, iv p4, iv p5, iv j1_0, iv j2_0, iv j3_0, iv v141, rv b142, rv b149, rv b163, dv v194, sd, un, un] [(.int v141), (.ref b163)])) rfl (by rw [hml]; rfl) (argsL := [(.int v141)]) (rest := []) rfl rfl rfl (W := 0) (by show 2 * 0 + _ ≤ _; exact Nat.le_of_eq rfl) (by decide) (by decide) (hb hby at_171) (by decide) (by decide)
                  obtain ⟨rfl, N199q, hh199⟩ := q199
                  have N200 := Fr.app N193 N199q
                  refine Wlk.of (fun _ k => st199 _ k) ?_
                  show Wlk p.tables e below (T199.setTop (mkF m 174 #[jv q1, sd, jv q2, sd, jv q3, sd, iv p4, iv p5, iv j1_0, iv j2_0, iv j3_0, iv v141, rv b142, rv b149, rv b163, dv v194, sd, un, un] [(.double (own_pv (Int32.ofNat N) (own_ps (Int32.ofNat N))))])) K
                  refine Wlk.of (fun _ k => XS.dstore X199.here hx rfl (hb hby at_174) rfl (l' := #[jv q1, sd, jv q2, sd, jv q3, sd, iv p4, iv p5, iv j1_0, iv j2_0, iv j3_0, iv v141, rv b142, rv b149, rv b163, dv v194, sd, dv (own_pv (Int32.ofNat N) (own_ps (Int32.ofNat N))), sd]) rfl k) ?_
                  show Wlk p.tables e below (T199.setTop (mkF m 176 #[jv q1, sd, jv q2, sd, jv q3, sd, iv p4, iv p5, iv j1_0, iv j2_0, iv j3_0, iv v141, rv b142, rv b149, rv b163, dv v194, sd, dv (own_pv (Int32.ofNat N) (own_ps (Int32.ofNat N))), sd] [])) K
                  generalize hv201 : (own_pv (Int32.ofNat N) (own_ps (Int32.ofNat N))) = v201
                  refine Wlk.of (fun _ k => XS.dload X199.here hx rfl (hb hby at_176) rfl k) ?_
                  show Wlk p.tables e below (T199.setTop (mkF m 178 #[jv q1, sd, jv q2, sd, jv q3, sd, iv p4, iv p5, iv j1_0, iv j2_0, iv j3_0, iv v141, rv b142, rv b149, rv b163, dv v194, sd, dv v201, sd] [(.double v194)])) K
                  refine Wlk.of (fun _ k => XS.dload X199.here hx rfl (hb hby at_178) rfl k) ?_
                  show Wlk p.tables e below (T199.setTop (mkF m 180 #[jv q1, sd, jv q2, sd, jv q3, sd, iv p4, iv p5, iv j1_0, iv j2_0, iv j3_0, iv v141, rv b142, rv b149, rv b163, dv v194, sd, dv v201, sd] [(.double v201), (.double v194)])) K
                  refine Wlk.of (fun _ k => XS.dcmpS X199.here hx rfl (hb hby at_180) rfl rfl k) ?_
                  show Wlk p.tables e below (T199.setTop (mkF m 181 #[jv q1, sd, jv q2, sd, jv q3, sd, iv p4, iv p5, iv j1_0, iv j2_0, iv j3_0, iv v141, rv b142, rv b149, rv b163, dv v194, sd, dv v201, sd] [(.int (cmpValue (FP.dcmp v194 v201) .l))])) K
                  refine Wlk.of (fun _ k => XS.ifNo X199.here hx rfl (hb hby at_181) rfl ((if0 _ _).trans (teq (show (cmpValue (FP.dcmp v194 v201) .l) = (0 : Int32) by rw [← hv194, ← hv201]; exact dcmpV_self (by unfold own_pv; exact (own_pn _ _).2) _)).2) k) ?_
                  show Wlk p.tables e below (T199.setTop (mkF m 184 #[jv q1, sd, jv q2, sd, jv q3, sd, iv p4, iv p5, iv j1_0, iv j2_0, iv j3_0, iv v141, rv b142, rv b149, rv b163, dv v194, sd, dv v201, sd] [])) K
                  refine Wlk.of (fun _ k => XS.iconst X199.here hx rfl (hb hby at_184) k) ?_
                  show Wlk p.tables e below (T199.setTop (mkF m 185 #[jv q1, sd, jv q2, sd, jv q3, sd, iv p4, iv p5, iv j1_0, iv j2_0, iv j3_0, iv v141, rv b142, rv b149, rv b163, dv v194, sd, dv v201, sd] [(.int (1 : Int32))])) K
                  refine Wlk.of (fun _ k => XS.goto X199.here hx rfl (pc0 := 185) (pc' := 189) rfl (hb hby at_185) (by decide) (by decide) k) ?_
                  show Wlk p.tables e below (T199.setTop (mkF m 189 #[jv q1, sd, jv q2, sd, jv q3, sd, iv p4, iv p5, iv j1_0, iv j2_0, iv j3_0, iv v141, rv b142, rv b149, rv b163, dv v194, sd, dv v201, sd] [(.int (1 : Int32))])) K
                  refine hK (some (.int (1 : Int32))) X199 (fun q => by cases q) (fun fs hr => retN X199 hx (t := .boolean) hret (by simp) (hb hby at_189) hr) ?_ (by decide) (by decide)
                  rw [show T199.heap = T188.heap from hh199]
                  exact ⟨rfl, N200⟩
                by_cases hc202 : j3_0 = (0 : Int32)
                · refine Wlk.of (fun _ k => XS.ifYes X186.here hx rfl (pc0 := 134) (pc' := 151) rfl (hb hby at_134) rfl ((if0 _ _).trans (teq hc202).1) (by decide) (by decide) k) ?_
                  show Wlk p.tables e below (T186.setTop (mkF m 151 #[jv q1, sd, jv q2, sd, jv q3, sd, iv p4, iv p5, iv j1_0, iv j2_0, iv j3_0, iv v141, rv b142, rv b149, rv b163, un, un, un, un] [])) K
                  exact J187 _ _ _ j186_0 j186_1 j186_2 j186_3 (by rw [if_pos hc202]) (by rw [if_pos hc202]) (by rw [if_pos hc202]) (by rw [if_pos hc202]) (X186.more (by decide) (by decide)) e186 N186 K186 z186_0 z186_1 z186_2 z186_3 z186_4 z186_5 z186_6 z186_7 z186_8 z186_9 z186_10 z186_11
                · refine Wlk.of (fun _ k => XS.ifNo X186.here hx rfl (hb hby at_134) rfl ((if0 _ _).trans (feq hc202).1) k) ?_
                  show Wlk p.tables e below (T186.setTop (mkF m 137 #[jv q1, sd, jv q2, sd, jv q3, sd, iv p4, iv p5, iv j1_0, iv j2_0, iv j3_0, iv v141, rv b142, rv b149, rv b163, un, un, un, un] [])) K
                  refine Wlk.of (fun _ k => XS.aload X186.here hx rfl (hb hby at_137) rfl rfl k) ?_
                  show Wlk p.tables e below (T186.setTop (mkF m 139 #[jv q1, sd, jv q2, sd, jv q3, sd, iv p4, iv p5, iv j1_0, iv j2_0, iv j3_0, iv v141, rv b142, rv b149, rv b163, un, un, un, un] [(.ref b149)])) K
                  refine Wlk.of (fun _ k => XS.lload X186.here hx rfl (hb hby at_139) rfl k) ?_
                  show Wlk p.tables e below (T186.setTop (mkF m 141 #[jv q1, sd, jv q2, sd, jv q3, sd, iv p4, iv p5, iv j1_0, iv j2_0, iv j3_0, iv v141, rv b142, rv b149, rv b163, un, un, un, un] [(.long q3), (.ref b149)])) K
                  obtain ⟨v203, T203, L203, X203, q203, st203⟩ := Ctr.virtual (y := (⟨"com/example/eimer/eimer/cli/Latencies", "record", "(J)V"⟩ : MethodName)) (rmR l Z a0 hw b149 q3 ca_155 j186_0 j186_1 h186 n0 (Nat.le_trans Z0 K186.1) z186_4 z186_5 z186_6 z186_7 ne159 g_b149 g_ca_155) X186 hx hZ e186 hown (wd hw 13 rfl) (wd hw 14 rfl) (notFace_of_selects (args := #[]) (mvT hZ (wd hw 16 rfl))) (wd hw 16 rfl) (wd hw 15 rfl) (wd hw 3 rfl) (wd hw 17 rfl) (by decide) z186_4 pd_231 (g := (mkF m 141 #[jv q1, sd, jv q2, sd, jv q3, sd, iv p4, iv p5, iv j1_0, iv j2_0, iv j3_0, iv v141, rv b142, rv b149, rv b163, un, un, un, un] [(.long q3), (.ref b149)])) rfl (by rw [hml]; rfl) (argsL := [(.long q3)]) (rest := []) rfl rfl rfl (W := 0) (by show 2 * 0 + _ ≤ _; exact Nat.le_of_eq rfl) (by decide) (by decide) (hb hby at_141) (by decide) (by decide)
                  obtain ⟨rfl, N203q, K203q, p203_0, p203_1, p203_2⟩ := q203
                  have N204 := Fr.app N186 N203q
                  refine Wlk.of (fun _ k => st203 _ k) ?_
                  have K205 : Keep h0 T203.heap [] := K186.trans K203q (allS (Or.inr sz_b149) (allS (Or.inr sz_ca_155) all0))
                  show Wlk p.tables e below (T203.setTop (mkF m 144 #[jv q1, sd, jv q2, sd, jv q3, sd, iv p4, iv p5, iv j1_0, iv j2_0, iv j3_0, iv v141, rv b142, rv b149, rv b163, un, un, un, un] [])) K
                  refine Wlk.of (fun _ k => XS.aload X203.here hx rfl (hb hby at_144) rfl rfl k) ?_
                  show Wlk p.tables e below (T203.setTop (mkF m 146 #[jv q1, sd, jv q2, sd, jv q3, sd, iv p4, iv p5, iv j1_0, iv j2_0, iv j3_0, iv v141, rv b142, rv b149, rv b163, un, un, un, un] [(.ref b163)])) K
                  refine Wlk.of (fun _ k => XS.lload X203.here hx rfl (hb hby at_146) rfl k) ?_
                  show Wlk p.tables e below (T203.setTop (mkF m 148 #[jv q1, sd, jv q2, sd, jv q3, sd, iv p4, iv p5, iv j1_0, iv j2_0, iv j3_0, iv v141, rv b142, rv b149, rv b163, un, un, un, un] [(.long q3), (.ref b163)])) K
                  have f206 : Exa Z T203.heap b163 "com/example/eimer/eimer/cli/Latencies" := (z186_8.keep K203q)
                  have f207 : Fld Z T203.heap b163 "com/example/eimer/eimer/cli/Latencies" "counts" "[J" (.ref ca_173) := (z186_9.keep K203q (ninS (Ne.symm ne166) (ninS (Ne.symm ne170) nin0)))
                  have f208 : Fld Z T203.heap b163 "com/example/eimer/eimer/cli/Latencies" "total" "J" (.long j186_2) := (z186_10.keep K203q (ninS (Ne.symm ne166) (ninS (Ne.symm ne170) nin0)))
                  have f209 : Arl Z T203.heap ca_173 .long (own_vs j186_3) := (z186_11.keep K203q (ninS (Ne.symm ne177) (ninS (Ne.symm ne182) nin0)))
                  obtain ⟨v210, T210, L210, X210, q210, st210⟩ := Ctr.virtual (y := (⟨"com/example/eimer/eimer/cli/Latencies", "record", "(J)V"⟩ : MethodName)) (rmR l Z a0 hw b163 q3 ca_173 j186_2 j186_3 T203.heap n0 (Nat.le_trans Z0 K205.1) f206 f207 f208 f209 ne179 g_b163 g_ca_173) X203 hx hZ rfl hown (wd hw 13 rfl) (wd hw 14 rfl) (notFace_of_selects (args := #[]) (mvT hZ (wd hw 16 rfl))) (wd hw 16 rfl) (wd hw 15 rfl) (wd hw 3 rfl) (wd hw 17 rfl) (by decide) f206 pd_231 (g := (mkF m 148 #[jv q1, sd, jv q2, sd, jv q3, sd, iv p4, iv p5, iv j1_0, iv j2_0, iv j3_0, iv v141, rv b142, rv b149, rv b163, un, un, un, un] [(.long q3), (.ref b163)])) rfl (by rw [hml]; rfl) (argsL := [(.long q3)]) (rest := []) rfl rfl rfl (W := 0) (by show 2 * 0 + _ ≤ _; exact Nat.le_of_eq rfl) (by decide) (by decide) (hb hby at_148) (by decide) (by decide)
                  obtain ⟨rfl, N210q, K210q, p210_0, p210_1, p210_2⟩ := q210
                  have N211 := Fr.app N204 N210q
                  refine Wlk.of (fun _ k => st210 _ k) ?_
                  have K212 : Keep h0 T210.heap [] := K205.trans K210q (allS (Or.inr sz_b163) (allS (Or.inr sz_ca_173) all0))
                  show Wlk p.tables e below (T210.setTop (mkF m 151 #[jv q1, sd, jv q2, sd, jv q3, sd, iv p4, iv p5, iv j1_0, iv j2_0, iv j3_0, iv v141, rv b142, rv b149, rv b163, un, un, un, un] [])) K
                  have f213 : Exa Z T210.heap b142 "com/example/eimer/eimer/cli/Latencies" := ((z186_0.keep K203q).keep K210q)
                  have f214 : Fld Z T210.heap b142 "com/example/eimer/eimer/cli/Latencies" "counts" "[J" (.ref ca_145) := ((z186_1.keep K203q (ninS ne150 (ninS ne157 nin0))).keep K210q (ninS ne164 (ninS ne175 nin0)))
                  have f215 : Fld Z T210.heap b142 "com/example/eimer/eimer/cli/Latencies" "total" "J" (.long j185_0) := ((z186_2.keep K203q (ninS ne150 (ninS ne157 nin0))).keep K210q (ninS ne164 (ninS ne175 nin0)))
                  have f216 : Arl Z T210.heap ca_145 .long (own_vs j185_1) := ((z186_3.keep K203q (ninS ne152 (ninS ne160 nin0))).keep K210q (ninS ne168 (ninS ne180 nin0)))
                  have f217 : Exa Z T210.heap b149 "com/example/eimer/eimer/cli/Latencies" := ((z186_4.keep K203q).keep K210q)
                  have f218 : Fld Z T210.heap b149 "com/example/eimer/eimer/cli/Latencies" "counts" "[J" (.ref ca_155) := (p203_0.keep K210q (ninS ne166 (ninS ne177 nin0)))
                  have f219 : Fld Z T210.heap b149 "com/example/eimer/eimer/cli/Latencies" "total" "J" (.long (j186_0 + (1 : Int64))) := (p203_1.keep K210q (ninS ne166 (ninS ne177 nin0)))
                  have f220 : Arl Z T210.heap ca_155 .long (own_vs (own_inc j186_1 (own_in q3))) := (p203_2.keep K210q (ninS ne170 (ninS ne182 nin0)))
                  have f221 : Exa Z T210.heap b163 "com/example/eimer/eimer/cli/Latencies" := (f206.keep K210q)
                  exact J187 _ _ _ (j186_0 + (1 : Int64)) (own_inc j186_1 (own_in q3)) (j186_2 + (1 : Int64)) (own_inc j186_3 (own_in q3)) (by rw [if_neg hc202]) (by rw [if_neg hc202]) (by rw [if_neg hc202]) (by rw [if_neg hc202]) (X210.more (by decide) (by decide)) rfl N211 K212 f213 f214 f215 f216 f217 f218 f219 f220 f221 p210_0 p210_1 p210_2
              by_cases hc222 : j2_0 = (0 : Int32)
              · refine Wlk.of (fun _ k => XS.ifYes X185.here hx rfl (pc0 := 117) (pc' := 132) rfl (hb hby at_117) rfl ((if0 _ _).trans (teq hc222).1) (by decide) (by decide) k) ?_
                show Wlk p.tables e below (T185.setTop (mkF m 132 #[jv q1, sd, jv q2, sd, jv q3, sd, iv p4, iv p5, iv j1_0, iv j2_0, iv j3_0, iv v141, rv b142, rv b149, rv b163, un, un, un, un] [])) K
                exact J186 _ _ _ (0 : Int64) own_zero j185_2 j185_3 (by rw [if_pos hc222]) (by rw [if_pos hc222]) (by rw [if_pos hc222]) (by rw [if_pos hc222]) (X185.more (by decide) (by decide)) e185 N185 K185 z185_0 z185_1 z185_2 z185_3 z185_4 z185_5 z185_6 z185_7 z185_8 z185_9 z185_10 z185_11
              · refine Wlk.of (fun _ k => XS.ifNo X185.here hx rfl (hb hby at_117) rfl ((if0 _ _).trans (feq hc222).1) k) ?_
                show Wlk p.tables e below (T185.setTop (mkF m 120 #[jv q1, sd, jv q2, sd, jv q3, sd, iv p4, iv p5, iv j1_0, iv j2_0, iv j3_0, iv v141, rv b142, rv b149, rv b163, un, un, un, un] [])) K
                refine Wlk.of (fun _ k => XS.aload X185.here hx rfl (hb hby at_120) rfl rfl k) ?_
                show Wlk p.tables e below (T185.setTop (mkF m 122 #[jv q1, sd, jv q2, sd, jv q3, sd, iv p4, iv p5, iv j1_0, iv j2_0, iv j3_0, iv v141, rv b142, rv b149, rv b163, un, un, un, un] [(.ref b149)])) K
                refine Wlk.of (fun _ k => XS.lloadN X185.here hx rfl (hb hby at_122) rfl k) ?_
                show Wlk p.tables e below (T185.setTop (mkF m 123 #[jv q1, sd, jv q2, sd, jv q3, sd, iv p4, iv p5, iv j1_0, iv j2_0, iv j3_0, iv v141, rv b142, rv b149, rv b163, un, un, un, un] [(.long q2), (.ref b149)])) K
                obtain ⟨v223, T223, L223, X223, q223, st223⟩ := Ctr.virtual (y := (⟨"com/example/eimer/eimer/cli/Latencies", "record", "(J)V"⟩ : MethodName)) (rmR l Z a0 hw b149 q2 ca_155 (0 : Int64) own_zero h185 n0 (Nat.le_trans Z0 K185.1) z185_4 z185_5 z185_6 z185_7 ne159 g_b149 g_ca_155) X185 hx hZ e185 hown (wd hw 13 rfl) (wd hw 14 rfl) (notFace_of_selects (args := #[]) (mvT hZ (wd hw 16 rfl))) (wd hw 16 rfl) (wd hw 15 rfl) (wd hw 3 rfl) (wd hw 17 rfl) (by decide) z185_4 pd_231 (g := (mkF m 123 #[jv q1, sd, jv q2, sd, jv q3, sd, iv p4, iv p5, iv j1_0, iv j2_0, iv j3_0, iv v141, rv b142, rv b149, rv b163, un, un, un, un] [(.long q2), (.ref b149)])) rfl (by rw [hml]; rfl) (argsL := [(.long q2)]) (rest := []) rfl rfl rfl (W := 0) (by show 2 * 0 + _ ≤ _; exact Nat.le_of_eq rfl) (by decide) (by decide) (hb hby at_123) (by decide) (by decide)
                obtain ⟨rfl, N223q, K223q, p223_0, p223_1, p223_2⟩ := q223
                have N224 := Fr.app N185 N223q
                refine Wlk.of (fun _ k => st223 _ k) ?_
                have K225 : Keep h0 T223.heap [] := K185.trans K223q (allS (Or.inr sz_b149) (allS (Or.inr sz_ca_155) all0))
                show Wlk p.tables e below (T223.setTop (mkF m 126 #[jv q1, sd, jv q2, sd, jv q3, sd, iv p4, iv p5, iv j1_0, iv j2_0, iv j3_0, iv v141, rv b142, rv b149, rv b163, un, un, un, un] [])) K
                refine Wlk.of (fun _ k => XS.aload X223.here hx rfl (hb hby at_126) rfl rfl k) ?_
                show Wlk p.tables e below (T223.setTop (mkF m 128 #[jv q1, sd, jv q2, sd, jv q3, sd, iv p4, iv p5, iv j1_0, iv j2_0, iv j3_0, iv v141, rv b142, rv b149, rv b163, un, un, un, un] [(.ref b163)])) K
                refine Wlk.of (fun _ k => XS.lloadN X223.here hx rfl (hb hby at_128) rfl k) ?_
                show Wlk p.tables e below (T223.setTop (mkF m 129 #[jv q1, sd, jv q2, sd, jv q3, sd, iv p4, iv p5, iv j1_0, iv j2_0, iv j3_0, iv v141, rv b142, rv b149, rv b163, un, un, un, un] [(.long q2), (.ref b163)])) K
                have f226 : Exa Z T223.heap b163 "com/example/eimer/eimer/cli/Latencies" := (z185_8.keep K223q)
                have f227 : Fld Z T223.heap b163 "com/example/eimer/eimer/cli/Latencies" "counts" "[J" (.ref ca_173) := (z185_9.keep K223q (ninS (Ne.symm ne166) (ninS (Ne.symm ne170) nin0)))
                have f228 : Fld Z T223.heap b163 "com/example/eimer/eimer/cli/Latencies" "total" "J" (.long j185_2) := (z185_10.keep K223q (ninS (Ne.symm ne166) (ninS (Ne.symm ne170) nin0)))
                have f229 : Arl Z T223.heap ca_173 .long (own_vs j185_3) := (z185_11.keep K223q (ninS (Ne.symm ne177) (ninS (Ne.symm ne182) nin0)))
                obtain ⟨v230, T230, L230, X230, q230, st230⟩ := Ctr.virtual (y := (⟨"com/example/eimer/eimer/cli/Latencies", "record", "(J)V"⟩ : MethodName)) (rmR l Z a0 hw b163 q2 ca_173 j185_2 j185_3 T223.heap n0 (Nat.le_trans Z0 K225.1) f226 f227 f228 f229 ne179 g_b163 g_ca_173) X223 hx hZ rfl hown (wd hw 13 rfl) (wd hw 14 rfl) (notFace_of_selects (args := #[]) (mvT hZ (wd hw 16 rfl))) (wd hw 16 rfl) (wd hw 15 rfl) (wd hw 3 rfl) (wd hw 17 rfl) (by decide) f226 pd_231 (g := (mkF m 129 #[jv q1, sd, jv q2, sd, jv q3, sd, iv p4, iv p5, iv j1_0, iv j2_0, iv j3_0, iv v141, rv b142, rv b149, rv b163, un, un, un, un] [(.long q2), (.ref b163)])) rfl (by rw [hml]; rfl) (argsL := [(.long q2)]) (rest := []) rfl rfl rfl (W := 0) (by show 2 * 0 + _ ≤ _; exact Nat.le_of_eq rfl) (by decide) (by decide) (hb hby at_129) (by decide) (by decide)
                obtain ⟨rfl, N230q, K230q, p230_0, p230_1, p230_2⟩ := q230
                have N231 := Fr.app N224 N230q
                refine Wlk.of (fun _ k => st230 _ k) ?_
                have K232 : Keep h0 T230.heap [] := K225.trans K230q (allS (Or.inr sz_b163) (allS (Or.inr sz_ca_173) all0))
                show Wlk p.tables e below (T230.setTop (mkF m 132 #[jv q1, sd, jv q2, sd, jv q3, sd, iv p4, iv p5, iv j1_0, iv j2_0, iv j3_0, iv v141, rv b142, rv b149, rv b163, un, un, un, un] [])) K
                have f233 : Exa Z T230.heap b142 "com/example/eimer/eimer/cli/Latencies" := ((z185_0.keep K223q).keep K230q)
                have f234 : Fld Z T230.heap b142 "com/example/eimer/eimer/cli/Latencies" "counts" "[J" (.ref ca_145) := ((z185_1.keep K223q (ninS ne150 (ninS ne157 nin0))).keep K230q (ninS ne164 (ninS ne175 nin0)))
                have f235 : Fld Z T230.heap b142 "com/example/eimer/eimer/cli/Latencies" "total" "J" (.long j185_0) := ((z185_2.keep K223q (ninS ne150 (ninS ne157 nin0))).keep K230q (ninS ne164 (ninS ne175 nin0)))
                have f236 : Arl Z T230.heap ca_145 .long (own_vs j185_1) := ((z185_3.keep K223q (ninS ne152 (ninS ne160 nin0))).keep K230q (ninS ne168 (ninS ne180 nin0)))
                have f237 : Exa Z T230.heap b149 "com/example/eimer/eimer/cli/Latencies" := ((z185_4.keep K223q).keep K230q)
                have f238 : Fld Z T230.heap b149 "com/example/eimer/eimer/cli/Latencies" "counts" "[J" (.ref ca_155) := (p223_0.keep K230q (ninS ne166 (ninS ne177 nin0)))
                have f239 : Fld Z T230.heap b149 "com/example/eimer/eimer/cli/Latencies" "total" "J" (.long ((0 : Int64) + (1 : Int64))) := (p223_1.keep K230q (ninS ne166 (ninS ne177 nin0)))
                have f240 : Arl Z T230.heap ca_155 .long (own_vs (own_inc own_zero (own_in q2))) := (p223_2.keep K230q (ninS ne170 (ninS ne182 nin0)))
                have f241 : Exa Z T230.heap b163 "com/example/eimer/eimer/cli/Latencies" := (f226.keep K230q)
                exact J186 _ _ _ ((0 : Int64) + (1 : Int64)) (own_inc own_zero (own_in q2)) (j185_2 + (1 : Int64)) (own_inc j185_3 (own_in q2)) (by rw [if_neg hc222]) (by rw [if_neg hc222]) (by rw [if_neg hc222]) (by rw [if_neg hc222]) (X230.more (by decide) (by decide)) rfl N231 K232 f233 f234 f235 f236 f237 f238 f239 f240 f241 p230_0 p230_1 p230_2
            by_cases hc242 : j1_0 = (0 : Int32)
            · refine Wlk.of (fun _ k => XS.ifYes X173.here hx rfl (pc0 := 100) (pc' := 115) rfl (hb hby at_100) rfl ((if0 _ _).trans (teq hc242).1) (by decide) (by decide) k) ?_
              show Wlk p.tables e below (T173.setTop (mkF m 115 #[jv q1, sd, jv q2, sd, jv q3, sd, iv p4, iv p5, iv j1_0, iv j2_0, iv j3_0, iv v141, rv b142, rv b149, rv b163, un, un, un, un] [])) K
              have f243 : Exa Z T173.heap b142 "com/example/eimer/eimer/cli/Latencies" := (f176.keep K173q)
              have f244 : Fld Z T173.heap b142 "com/example/eimer/eimer/cli/Latencies" "counts" "[J" (.ref ca_145) := ((((p145_1.ext E149).keep K155q (ninS ne150 nin0)).ext E163).keep K173q (ninS ne164 nin0))
              have f245 : Fld Z T173.heap b142 "com/example/eimer/eimer/cli/Latencies" "total" "J" (.long (0 : Int64)) := ((((p145_2.ext E149).keep K155q (ninS ne150 nin0)).ext E163).keep K173q (ninS ne164 nin0))
              have f246 : Arl Z T173.heap ca_145 .long (own_vs own_zero) := (f181.keep K173q (ninS ne168 nin0))
              have f247 : Exa Z T173.heap b149 "com/example/eimer/eimer/cli/Latencies" := (f178.keep K173q)
              have f248 : Fld Z T173.heap b149 "com/example/eimer/eimer/cli/Latencies" "counts" "[J" (.ref ca_155) := ((p155_1.ext E163).keep K173q (ninS ne166 nin0))
              have f249 : Fld Z T173.heap b149 "com/example/eimer/eimer/cli/Latencies" "total" "J" (.long (0 : Int64)) := ((p155_2.ext E163).keep K173q (ninS ne166 nin0))
              have f250 : Arl Z T173.heap ca_155 .long (own_vs own_zero) := (f183.keep K173q (ninS ne170 nin0))
              have f251 : Exa Z T173.heap b163 "com/example/eimer/eimer/cli/Latencies" := (A163.keep K173q)
              exact J185 _ _ _ (0 : Int64) own_zero (0 : Int64) own_zero (by rw [if_pos hc242]) (by rw [if_pos hc242]) (by rw [if_pos hc242]) (by rw [if_pos hc242]) (X173.more (by decide) (by decide)) rfl N174 K184 f243 f244 f245 f246 f247 f248 f249 f250 f251 p173_1 p173_2 p173_3
            · refine Wlk.of (fun _ k => XS.ifNo X173.here hx rfl (hb hby at_100) rfl ((if0 _ _).trans (feq hc242).1) k) ?_
              show Wlk p.tables e below (T173.setTop (mkF m 103 #[jv q1, sd, jv q2, sd, jv q3, sd, iv p4, iv p5, iv j1_0, iv j2_0, iv j3_0, iv v141, rv b142, rv b149, rv b163, un, un, un, un] [])) K
              refine Wlk.of (fun _ k => XS.aload X173.here hx rfl (hb hby at_103) rfl rfl k) ?_
              show Wlk p.tables e below (T173.setTop (mkF m 105 #[jv q1, sd, jv q2, sd, jv q3, sd, iv p4, iv p5, iv j1_0, iv j2_0, iv j3_0, iv v141, rv b142, rv b149, rv b163, un, un, un, un] [(.ref b142)])) K
              refine Wlk.of (fun _ k => XS.lloadN X173.here hx rfl (hb hby at_105) rfl k) ?_
              show Wlk p.tables e below (T173.setTop (mkF m 106 #[jv q1, sd, jv q2, sd, jv q3, sd, iv p4, iv p5, iv j1_0, iv j2_0, iv j3_0, iv v141, rv b142, rv b149, rv b163, un, un, un, un] [(.long q1), (.ref b142)])) K
              have f252 : Exa Z T173.heap b142 "com/example/eimer/eimer/cli/Latencies" := (f176.keep K173q)
              have f253 : Fld Z T173.heap b142 "com/example/eimer/eimer/cli/Latencies" "counts" "[J" (.ref ca_145) := ((((p145_1.ext E149).keep K155q (ninS ne150 nin0)).ext E163).keep K173q (ninS ne164 nin0))
              have f254 : Fld Z T173.heap b142 "com/example/eimer/eimer/cli/Latencies" "total" "J" (.long (0 : Int64)) := ((((p145_2.ext E149).keep K155q (ninS ne150 nin0)).ext E163).keep K173q (ninS ne164 nin0))
              have f255 : Arl Z T173.heap ca_145 .long (own_vs own_zero) := (f181.keep K173q (ninS ne168 nin0))
              obtain ⟨v256, T256, L256, X256, q256, st256⟩ := Ctr.virtual (y := (⟨"com/example/eimer/eimer/cli/Latencies", "record", "(J)V"⟩ : MethodName)) (rmR l Z a0 hw b142 q1 ca_145 (0 : Int64) own_zero T173.heap n0 (Nat.le_trans Z0 K184.1) f252 f253 f254 f255 ne147 g_b142 g_ca_145) X173 hx hZ rfl hown (wd hw 13 rfl) (wd hw 14 rfl) (notFace_of_selects (args := #[]) (mvT hZ (wd hw 16 rfl))) (wd hw 16 rfl) (wd hw 15 rfl) (wd hw 3 rfl) (wd hw 17 rfl) (by decide) f252 pd_231 (g := (mkF m 106 #[jv q1, sd, jv q2, sd, jv q3, sd, iv p4, iv p5, iv j1_0, iv j2_0, iv j3_0, iv v141, rv b142, rv b149, rv b163, un, un, un, un] [(.long q1), (.ref b142)])) rfl (by rw [hml]; rfl) (argsL := [(.long q1)]) (rest := []) rfl rfl rfl (W := 0) (by show 2 * 0 + _ ≤ _; exact Nat.le_of_eq rfl) (by decide) (by decide) (hb hby at_106) (by decide) (by decide)
              obtain ⟨rfl, N256q, K256q, p256_0, p256_1, p256_2⟩ := q256
              have N257 := Fr.app N174 N256q
              refine Wlk.of (fun _ k => st256 _ k) ?_
              have K258 : Keep h0 T256.heap [] := K184.trans K256q (allS (Or.inr sz_b142) (allS (Or.inr sz_ca_145) all0))
              show Wlk p.tables e below (T256.setTop (mkF m 109 #[jv q1, sd, jv q2, sd, jv q3, sd, iv p4, iv p5, iv j1_0, iv j2_0, iv j3_0, iv v141, rv b142, rv b149, rv b163, un, un, un, un] [])) K
              refine Wlk.of (fun _ k => XS.aload X256.here hx rfl (hb hby at_109) rfl rfl k) ?_
              show Wlk p.tables e below (T256.setTop (mkF m 111 #[jv q1, sd, jv q2, sd, jv q3, sd, iv p4, iv p5, iv j1_0, iv j2_0, iv j3_0, iv v141, rv b142, rv b149, rv b163, un, un, un, un] [(.ref b163)])) K
              refine Wlk.of (fun _ k => XS.lloadN X256.here hx rfl (hb hby at_111) rfl k) ?_
              show Wlk p.tables e below (T256.setTop (mkF m 112 #[jv q1, sd, jv q2, sd, jv q3, sd, iv p4, iv p5, iv j1_0, iv j2_0, iv j3_0, iv v141, rv b142, rv b149, rv b163, un, un, un, un] [(.long q1), (.ref b163)])) K
              have f259 : Exa Z T256.heap b163 "com/example/eimer/eimer/cli/Latencies" := ((A163.keep K173q).keep K256q)
              have f260 : Fld Z T256.heap b163 "com/example/eimer/eimer/cli/Latencies" "counts" "[J" (.ref ca_173) := (p173_1.keep K256q (ninS (Ne.symm ne164) (ninS (Ne.symm ne168) nin0)))
              have f261 : Fld Z T256.heap b163 "com/example/eimer/eimer/cli/Latencies" "total" "J" (.long (0 : Int64)) := (p173_2.keep K256q (ninS (Ne.symm ne164) (ninS (Ne.symm ne168) nin0)))
              have f262 : Arl Z T256.heap ca_173 .long (own_vs own_zero) := (p173_3.keep K256q (ninS (Ne.symm ne175) (ninS (Ne.symm ne180) nin0)))
              obtain ⟨v263, T263, L263, X263, q263, st263⟩ := Ctr.virtual (y := (⟨"com/example/eimer/eimer/cli/Latencies", "record", "(J)V"⟩ : MethodName)) (rmR l Z a0 hw b163 q1 ca_173 (0 : Int64) own_zero T256.heap n0 (Nat.le_trans Z0 K258.1) f259 f260 f261 f262 ne179 g_b163 g_ca_173) X256 hx hZ rfl hown (wd hw 13 rfl) (wd hw 14 rfl) (notFace_of_selects (args := #[]) (mvT hZ (wd hw 16 rfl))) (wd hw 16 rfl) (wd hw 15 rfl) (wd hw 3 rfl) (wd hw 17 rfl) (by decide) f259 pd_231 (g := (mkF m 112 #[jv q1, sd, jv q2, sd, jv q3, sd, iv p4, iv p5, iv j1_0, iv j2_0, iv j3_0, iv v141, rv b142, rv b149, rv b163, un, un, un, un] [(.long q1), (.ref b163)])) rfl (by rw [hml]; rfl) (argsL := [(.long q1)]) (rest := []) rfl rfl rfl (W := 0) (by show 2 * 0 + _ ≤ _; exact Nat.le_of_eq rfl) (by decide) (by decide) (hb hby at_112) (by decide) (by decide)
              obtain ⟨rfl, N263q, K263q, p263_0, p263_1, p263_2⟩ := q263
              have N264 := Fr.app N257 N263q
              refine Wlk.of (fun _ k => st263 _ k) ?_
              have K265 : Keep h0 T263.heap [] := K258.trans K263q (allS (Or.inr sz_b163) (allS (Or.inr sz_ca_173) all0))
              show Wlk p.tables e below (T263.setTop (mkF m 115 #[jv q1, sd, jv q2, sd, jv q3, sd, iv p4, iv p5, iv j1_0, iv j2_0, iv j3_0, iv v141, rv b142, rv b149, rv b163, un, un, un, un] [])) K
              have f266 : Exa Z T263.heap b142 "com/example/eimer/eimer/cli/Latencies" := ((f252.keep K256q).keep K263q)
              have f267 : Fld Z T263.heap b142 "com/example/eimer/eimer/cli/Latencies" "counts" "[J" (.ref ca_145) := (p256_0.keep K263q (ninS ne164 (ninS ne175 nin0)))
              have f268 : Fld Z T263.heap b142 "com/example/eimer/eimer/cli/Latencies" "total" "J" (.long ((0 : Int64) + (1 : Int64))) := (p256_1.keep K263q (ninS ne164 (ninS ne175 nin0)))
              have f269 : Arl Z T263.heap ca_145 .long (own_vs (own_inc own_zero (own_in q1))) := (p256_2.keep K263q (ninS ne168 (ninS ne180 nin0)))
              have f270 : Exa Z T263.heap b149 "com/example/eimer/eimer/cli/Latencies" := (((f178.keep K173q).keep K256q).keep K263q)
              have f271 : Fld Z T263.heap b149 "com/example/eimer/eimer/cli/Latencies" "counts" "[J" (.ref ca_155) := ((((p155_1.ext E163).keep K173q (ninS ne166 nin0)).keep K256q (ninS (Ne.symm ne150) (ninS (Ne.symm ne152) nin0))).keep K263q (ninS ne166 (ninS ne177 nin0)))
              have f272 : Fld Z T263.heap b149 "com/example/eimer/eimer/cli/Latencies" "total" "J" (.long (0 : Int64)) := ((((p155_2.ext E163).keep K173q (ninS ne166 nin0)).keep K256q (ninS (Ne.symm ne150) (ninS (Ne.symm ne152) nin0))).keep K263q (ninS ne166 (ninS ne177 nin0)))
              have f273 : Arl Z T263.heap ca_155 .long (own_vs own_zero) := (((f183.keep K173q (ninS ne170 nin0)).keep K256q (ninS (Ne.symm ne157) (ninS (Ne.symm ne160) nin0))).keep K263q (ninS ne170 (ninS ne182 nin0)))
              have f274 : Exa Z T263.heap b163 "com/example/eimer/eimer/cli/Latencies" := (f259.keep K263q)
              exact J185 _ _ _ ((0 : Int64) + (1 : Int64)) (own_inc own_zero (own_in q1)) ((0 : Int64) + (1 : Int64)) (own_inc own_zero (own_in q1)) (by rw [if_neg hc242]) (by rw [if_neg hc242]) (by rw [if_neg hc242]) (by rw [if_neg hc242]) (X263.more (by decide) (by decide)) rfl N264 K265 f266 f267 f268 f269 f270 f271 f272 f273 f274 p263_0 p263_1 p263_2
        · refine Wlk.of (fun _ k => XS.ifYes X3.here hx rfl (pc0 := 44) (pc' := 59) rfl (hb hby at_44) rfl ((if0 _ _).trans (feq hc4).2) (by decide) (by decide) k) ?_
          show Wlk p.tables e below (T3.setTop (mkF m 59 #[jv q1, sd, jv q2, sd, jv q3, sd, iv p4, iv p5, iv j1_0, iv j2_0, iv j3_0, un, un, un, un, un, un, un, un] [])) K
          refine Wlk.of (fun _ k => XS.iconst X3.here hx rfl (hb hby at_59) k) ?_
          show Wlk p.tables e below (T3.setTop (mkF m 60 #[jv q1, sd, jv q2, sd, jv q3, sd, iv p4, iv p5, iv j1_0, iv j2_0, iv j3_0, un, un, un, un, un, un, un, un] [(.int (1 : Int32))])) K
          refine Wlk.of (fun _ k => XS.iload X3.here hx rfl (hb hby at_60) rfl k) ?_
          show Wlk p.tables e below (T3.setTop (mkF m 62 #[jv q1, sd, jv q2, sd, jv q3, sd, iv p4, iv p5, iv j1_0, iv j2_0, iv j3_0, un, un, un, un, un, un, un, un] [(.int p5), (.int (1 : Int32))])) K
          refine Wlk.of (fun _ k => X3.ldcInt hx hown (mvT hZ (wd hw 0 rfl)) (g := (mkF m 62 #[jv q1, sd, jv q2, sd, jv q3, sd, iv p4, iv p5, iv j1_0, iv j2_0, iv j3_0, un, un, un, un, un, un, un, un] [(.int p5), (.int (1 : Int32))])) rfl (hb hby at_62) _ k) ?_
          show Wlk p.tables e below (T3.setTop (mkF m 64 #[jv q1, sd, jv q2, sd, jv q3, sd, iv p4, iv p5, iv j1_0, iv j2_0, iv j3_0, un, un, un, un, un, un, un, un] [(.int (2147483647 : Int32)), (.int p5), (.int (1 : Int32))])) K
          refine Wlk.of (fun _ k => XS.iand X3.here hx rfl (hb hby at_64) rfl k) ?_
          show Wlk p.tables e below (T3.setTop (mkF m 65 #[jv q1, sd, jv q2, sd, jv q3, sd, iv p4, iv p5, iv j1_0, iv j2_0, iv j3_0, un, un, un, un, un, un, un, un] [(.int (p5 &&& (2147483647 : Int32))), (.int (1 : Int32))])) K
          refine Wlk.of (fun _ k => XS.bipush X3.here hx rfl (hb hby at_65) k) ?_
          show Wlk p.tables e below (T3.setTop (mkF m 67 #[jv q1, sd, jv q2, sd, jv q3, sd, iv p4, iv p5, iv j1_0, iv j2_0, iv j3_0, un, un, un, un, un, un, un, un] [(.int (100 : Int32)), (.int (p5 &&& (2147483647 : Int32))), (.int (1 : Int32))])) K
          refine Wlk.of (fun _ k => iremM X3 hx rfl (hb hby at_67) rfl (by decide) k) ?_
          show Wlk p.tables e below (T3.setTop (mkF m 68 #[jv q1, sd, jv q2, sd, jv q3, sd, iv p4, iv p5, iv j1_0, iv j2_0, iv j3_0, un, un, un, un, un, un, un, un] [(.int ((p5 &&& (2147483647 : Int32)) % (100 : Int32))), (.int (1 : Int32))])) K
          refine Wlk.of (fun _ k => XS.iadd X3.here hx rfl (hb hby at_68) rfl k) ?_
          show Wlk p.tables e below (T3.setTop (mkF m 69 #[jv q1, sd, jv q2, sd, jv q3, sd, iv p4, iv p5, iv j1_0, iv j2_0, iv j3_0, un, un, un, un, un, un, un, un] [(.int ((1 : Int32) + ((p5 &&& (2147483647 : Int32)) % (100 : Int32))))])) K
          refine Wlk.of (fun _ k => XS.istore X3.here hx rfl (hb hby at_69) rfl (l' := #[jv q1, sd, jv q2, sd, jv q3, sd, iv p4, iv p5, iv j1_0, iv j2_0, iv j3_0, iv ((1 : Int32) + ((p5 &&& (2147483647 : Int32)) % (100 : Int32))), un, un, un, un, un, un, un]) rfl k) ?_
          show Wlk p.tables e below (T3.setTop (mkF m 71 #[jv q1, sd, jv q2, sd, jv q3, sd, iv p4, iv p5, iv j1_0, iv j2_0, iv j3_0, iv ((1 : Int32) + ((p5 &&& (2147483647 : Int32)) % (100 : Int32))), un, un, un, un, un, un, un] [])) K
          generalize hv275 : ((1 : Int32) + ((p5 &&& (2147483647 : Int32)) % (100 : Int32))) = v275
          obtain ⟨T276, h276, X276, e276, E276, A276, D276, -, st276⟩ := newO X3 hx hZ hown (wd hw 1 rfl) (wd hw 2 rfl) (wd hw 3 rfl) e3 (g := (mkF m 71 #[jv q1, sd, jv q2, sd, jv q3, sd, iv p4, iv p5, iv j1_0, iv j2_0, iv j3_0, iv v275, un, un, un, un, un, un, un] [])) rfl (hb hby at_71) (by decide) (by decide)
          obtain ⟨b276, g276⟩ : ∃ z, z = h0.size := ⟨_, rfl⟩
          rw [← g276] at A276 D276 st276
          have sz_b276 : h0.size ≤ b276 := Nat.le_trans K0.1 (Nat.le_of_eq g276.symm)
          have g_b276 : n0 ≤ b276 := Nat.le_trans Z0 sz_b276
          have K278 : Keep h0 h276 [] := K0.ext E276
          have F_b276_counts : Fld Z h276 b276 "com/example/eimer/eimer/cli/Latencies" "counts" "[J" .null := D276 (Or.inr (wd hw 12 rfl)) (ty := (.array .long)) (by decide)
          have F_b276_total : Fld Z h276 b276 "com/example/eimer/eimer/cli/Latencies" "total" "J" (.long (0 : Int64)) := D276 (Or.inl (wd hw 35 rfl)) (ty := .long) (by decide)
          refine Wlk.of (fun _ k => st276 _ k) ?_
          show Wlk p.tables e below (T276.setTop (mkF m 74 #[jv q1, sd, jv q2, sd, jv q3, sd, iv p4, iv p5, iv j1_0, iv j2_0, iv j3_0, iv v275, un, un, un, un, un, un, un] [(.ref b276)])) K
          refine Wlk.of (fun _ k => XS.dup X276.here hx rfl (hb hby at_74) rfl rfl k) ?_
          show Wlk p.tables e below (T276.setTop (mkF m 75 #[jv q1, sd, jv q2, sd, jv q3, sd, iv p4, iv p5, iv j1_0, iv j2_0, iv j3_0, iv v275, un, un, un, un, un, un, un] [(.ref b276), (.ref b276)])) K
          obtain ⟨v279, T279, L279, X279, q279, st279⟩ := Ctr.special (rmI l Z a0 hw b276 h276 n0 (Nat.le_trans Z0 K278.1) A276 F_b276_counts F_b276_total g_b276) X276 hx hZ e276 hown rfl (wd hw 4 rfl) (wd hw 5 rfl) (wd hw 3 rfl) (wd hw 6 rfl) (by decide) pd_230 (g := (mkF m 75 #[jv q1, sd, jv q2, sd, jv q3, sd, iv p4, iv p5, iv j1_0, iv j2_0, iv j3_0, iv v275, un, un, un, un, un, un, un] [(.ref b276), (.ref b276)])) rfl (by rw [hml]; rfl) (a := b276) (argsL := []) (rest := [(.ref b276)]) rfl rfl rfl (W := 1) (by show 2 * 0 + _ ≤ _; exact Nat.le_of_eq rfl) (by decide) (by decide) (hb hby at_75) (by decide) (by decide)
          obtain ⟨ca_279, rfl, N279q, K279q, p279_0, p279_1, p279_2, p279_3⟩ := q279
          have N280 := Fr.app N0 N279q
          refine Wlk.of (fun _ k => st279 _ k) ?_
          have ne281 : b276 ≠ ca_279 := Nat.ne_of_lt (Nat.lt_of_lt_of_le A276.lt p279_0)
          have sz_ca_279 : h0.size ≤ ca_279 := Nat.le_trans K278.1 p279_0
          have g_ca_279 : n0 ≤ ca_279 := Nat.le_trans Z0 sz_ca_279
          have K282 : Keep h0 T279.heap [] := K278.trans K279q (allS (Or.inr sz_b276) all0)
          show Wlk p.tables e below (T279.setTop (mkF m 78 #[jv q1, sd, jv q2, sd, jv q3, sd, iv p4, iv p5, iv j1_0, iv j2_0, iv j3_0, iv v275, un, un, un, un, un, un, un] [(.ref b276)])) K
          refine Wlk.of (fun _ k => XS.astore X279.here hx rfl (hb hby at_78) rfl rfl (l' := #[jv q1, sd, jv q2, sd, jv q3, sd, iv p4, iv p5, iv j1_0, iv j2_0, iv j3_0, iv v275, rv b276, un, un, un, un, un, un]) rfl k) ?_
          show Wlk p.tables e below (T279.setTop (mkF m 80 #[jv q1, sd, jv q2, sd, jv q3, sd, iv p4, iv p5, iv j1_0, iv j2_0, iv j3_0, iv v275, rv b276, un, un, un, un, un, un] [])) K
          obtain ⟨T283, h283, X283, e283, E283, A283, D283, -, st283⟩ := newO X279 hx hZ hown (wd hw 1 rfl) (wd hw 2 rfl) (wd hw 3 rfl) rfl (g := (mkF m 80 #[jv q1, sd, jv q2, sd, jv q3, sd, iv p4, iv p5, iv j1_0, iv j2_0, iv j3_0, iv v275, rv b276, un, un, un, un, un, un] [])) rfl (hb hby at_80) (by decide) (by decide)
          obtain ⟨b283, g283⟩ : ∃ z, z = T279.heap.size := ⟨_, rfl⟩
          rw [← g283] at A283 D283 st283
          have f285 : Exa Z T279.heap b276 "com/example/eimer/eimer/cli/Latencies" := (A276.keep K279q)
          have ne284 : b276 ≠ b283 := Nat.ne_of_lt (Nat.lt_of_lt_of_le f285.lt (Nat.le_of_eq g283.symm))
          have ne286 : ca_279 ≠ b283 := Nat.ne_of_lt (Nat.lt_of_lt_of_le p279_3.lt (Nat.le_of_eq g283.symm))
          have sz_b283 : h0.size ≤ b283 := Nat.le_trans K282.1 (Nat.le_of_eq g283.symm)
          have g_b283 : n0 ≤ b283 := Nat.le_trans Z0 sz_b283
          have K288 : Keep h0 h283 [] := K282.ext E283
          have F_b283_counts : Fld Z h283 b283 "com/example/eimer/eimer/cli/Latencies" "counts" "[J" .null := D283 (Or.inr (wd hw 12 rfl)) (ty := (.array .long)) (by decide)
          have F_b283_total : Fld Z h283 b283 "com/example/eimer/eimer/cli/Latencies" "total" "J" (.long (0 : Int64)) := D283 (Or.inl (wd hw 35 rfl)) (ty := .long) (by decide)
          refine Wlk.of (fun _ k => st283 _ k) ?_
          show Wlk p.tables e below (T283.setTop (mkF m 83 #[jv q1, sd, jv q2, sd, jv q3, sd, iv p4, iv p5, iv j1_0, iv j2_0, iv j3_0, iv v275, rv b276, un, un, un, un, un, un] [(.ref b283)])) K
          refine Wlk.of (fun _ k => XS.dup X283.here hx rfl (hb hby at_83) rfl rfl k) ?_
          show Wlk p.tables e below (T283.setTop (mkF m 84 #[jv q1, sd, jv q2, sd, jv q3, sd, iv p4, iv p5, iv j1_0, iv j2_0, iv j3_0, iv v275, rv b276, un, un, un, un, un, un] [(.ref b283), (.ref b283)])) K
          obtain ⟨v289, T289, L289, X289, q289, st289⟩ := Ctr.special (rmI l Z a0 hw b283 h283 n0 (Nat.le_trans Z0 K288.1) A283 F_b283_counts F_b283_total g_b283) X283 hx hZ e283 hown rfl (wd hw 4 rfl) (wd hw 5 rfl) (wd hw 3 rfl) (wd hw 6 rfl) (by decide) pd_230 (g := (mkF m 84 #[jv q1, sd, jv q2, sd, jv q3, sd, iv p4, iv p5, iv j1_0, iv j2_0, iv j3_0, iv v275, rv b276, un, un, un, un, un, un] [(.ref b283), (.ref b283)])) rfl (by rw [hml]; rfl) (a := b283) (argsL := []) (rest := [(.ref b283)]) rfl rfl rfl (W := 1) (by show 2 * 0 + _ ≤ _; exact Nat.le_of_eq rfl) (by decide) (by decide) (hb hby at_84) (by decide) (by decide)
          obtain ⟨ca_289, rfl, N289q, K289q, p289_0, p289_1, p289_2, p289_3⟩ := q289
          have N290 := Fr.app N280 N289q
          refine Wlk.of (fun _ k => st289 _ k) ?_
          have f292 : Exa Z h283 b276 "com/example/eimer/eimer/cli/Latencies" := (f285.ext E283)
          have ne291 : b276 ≠ ca_289 := Nat.ne_of_lt (Nat.lt_of_lt_of_le f292.lt p289_0)
          have ne293 : b283 ≠ ca_289 := Nat.ne_of_lt (Nat.lt_of_lt_of_le A283.lt p289_0)
          have f295 : Arl Z h283 ca_279 .long (own_vs own_zero) := (p279_3.ext E283)
          have ne294 : ca_279 ≠ ca_289 := Nat.ne_of_lt (Nat.lt_of_lt_of_le f295.lt p289_0)
          have sz_ca_289 : h0.size ≤ ca_289 := Nat.le_trans K288.1 p289_0
          have g_ca_289 : n0 ≤ ca_289 := Nat.le_trans Z0 sz_ca_289
          have K296 : Keep h0 T289.heap [] := K288.trans K289q (allS (Or.inr sz_b283) all0)
          show Wlk p.tables e below (T289.setTop (mkF m 87 #[jv q1, sd, jv q2, sd, jv q3, sd, iv p4, iv p5, iv j1_0, iv j2_0, iv j3_0, iv v275, rv b276, un, un, un, un, un, un] [(.ref b283)])) K
          refine Wlk.of (fun _ k => XS.astore X289.here hx rfl (hb hby at_87) rfl rfl (l' := #[jv q1, sd, jv q2, sd, jv q3, sd, iv p4, iv p5, iv j1_0, iv j2_0, iv j3_0, iv v275, rv b276, rv b283, un, un, un, un, un]) rfl k) ?_
          show Wlk p.tables e below (T289.setTop (mkF m 89 #[jv q1, sd, jv q2, sd, jv q3, sd, iv p4, iv p5, iv j1_0, iv j2_0, iv j3_0, iv v275, rv b276, rv b283, un, un, un, un, un] [])) K
          obtain ⟨T297, h297, X297, e297, E297, A297, D297, -, st297⟩ := newO X289 hx hZ hown (wd hw 1 rfl) (wd hw 2 rfl) (wd hw 3 rfl) rfl (g := (mkF m 89 #[jv q1, sd, jv q2, sd, jv q3, sd, iv p4, iv p5, iv j1_0, iv j2_0, iv j3_0, iv v275, rv b276, rv b283, un, un, un, un, un] [])) rfl (hb hby at_89) (by decide) (by decide)
          obtain ⟨b297, g297⟩ : ∃ z, z = T289.heap.size := ⟨_, rfl⟩
          rw [← g297] at A297 D297 st297
          have f299 : Exa Z T289.heap b276 "com/example/eimer/eimer/cli/Latencies" := (f292.keep K289q)
          have ne298 : b276 ≠ b297 := Nat.ne_of_lt (Nat.lt_of_lt_of_le f299.lt (Nat.le_of_eq g297.symm))
          have f301 : Exa Z T289.heap b283 "com/example/eimer/eimer/cli/Latencies" := (A283.keep K289q)
          have ne300 : b283 ≠ b297 := Nat.ne_of_lt (Nat.lt_of_lt_of_le f301.lt (Nat.le_of_eq g297.symm))
          have f303 : Arl Z T289.heap ca_279 .long (own_vs own_zero) := (f295.keep K289q (ninS ne286 nin0))
          have ne302 : ca_279 ≠ b297 := Nat.ne_of_lt (Nat.lt_of_lt_of_le f303.lt (Nat.le_of_eq g297.symm))
          have ne304 : ca_289 ≠ b297 := Nat.ne_of_lt (Nat.lt_of_lt_of_le p289_3.lt (Nat.le_of_eq g297.symm))
          have sz_b297 : h0.size ≤ b297 := Nat.le_trans K296.1 (Nat.le_of_eq g297.symm)
          have g_b297 : n0 ≤ b297 := Nat.le_trans Z0 sz_b297
          have K306 : Keep h0 h297 [] := K296.ext E297
          have F_b297_counts : Fld Z h297 b297 "com/example/eimer/eimer/cli/Latencies" "counts" "[J" .null := D297 (Or.inr (wd hw 12 rfl)) (ty := (.array .long)) (by decide)
          have F_b297_total : Fld Z h297 b297 "com/example/eimer/eimer/cli/Latencies" "total" "J" (.long (0 : Int64)) := D297 (Or.inl (wd hw 35 rfl)) (ty := .long) (by decide)
          refine Wlk.of (fun _ k => st297 _ k) ?_
          show Wlk p.tables e below (T297.setTop (mkF m 92 #[jv q1, sd, jv q2, sd, jv q3, sd, iv p4, iv p5, iv j1_0, iv j2_0, iv j3_0, iv v275, rv b276, rv b283, un, un, un, un, un] [(.ref b297)])) K
          refine Wlk.of (fun _ k => XS.dup X297.here hx rfl (hb hby at_92) rfl rfl k) ?_
          show Wlk p.tables e below (T297.setTop (mkF m 93 #[jv q1, sd, jv q2, sd, jv q3, sd, iv p4, iv p5, iv j1_0, iv j2_0, iv j3_0, iv v275, rv b276, rv b283, un, un, un, un, un] [(.ref b297), (.ref b297)])) K
          obtain ⟨v307, T307, L307, X307, q307, st307⟩ := Ctr.special (rmI l Z a0 hw b297 h297 n0 (Nat.le_trans Z0 K306.1) A297 F_b297_counts F_b297_total g_b297) X297 hx hZ e297 hown rfl (wd hw 4 rfl) (wd hw 5 rfl) (wd hw 3 rfl) (wd hw 6 rfl) (by decide) pd_230 (g := (mkF m 93 #[jv q1, sd, jv q2, sd, jv q3, sd, iv p4, iv p5, iv j1_0, iv j2_0, iv j3_0, iv v275, rv b276, rv b283, un, un, un, un, un] [(.ref b297), (.ref b297)])) rfl (by rw [hml]; rfl) (a := b297) (argsL := []) (rest := [(.ref b297)]) rfl rfl rfl (W := 1) (by show 2 * 0 + _ ≤ _; exact Nat.le_of_eq rfl) (by decide) (by decide) (hb hby at_93) (by decide) (by decide)
          obtain ⟨ca_307, rfl, N307q, K307q, p307_0, p307_1, p307_2, p307_3⟩ := q307
          have N308 := Fr.app N290 N307q
          refine Wlk.of (fun _ k => st307 _ k) ?_
          have f310 : Exa Z h297 b276 "com/example/eimer/eimer/cli/Latencies" := (f299.ext E297)
          have ne309 : b276 ≠ ca_307 := Nat.ne_of_lt (Nat.lt_of_lt_of_le f310.lt p307_0)
          have f312 : Exa Z h297 b283 "com/example/eimer/eimer/cli/Latencies" := (f301.ext E297)
          have ne311 : b283 ≠ ca_307 := Nat.ne_of_lt (Nat.lt_of_lt_of_le f312.lt p307_0)
          have ne313 : b297 ≠ ca_307 := Nat.ne_of_lt (Nat.lt_of_lt_of_le A297.lt p307_0)
          have f315 : Arl Z h297 ca_279 .long (own_vs own_zero) := (f303.ext E297)
          have ne314 : ca_279 ≠ ca_307 := Nat.ne_of_lt (Nat.lt_of_lt_of_le f315.lt p307_0)
          have f317 : Arl Z h297 ca_289 .long (own_vs own_zero) := (p289_3.ext E297)
          have ne316 : ca_289 ≠ ca_307 := Nat.ne_of_lt (Nat.lt_of_lt_of_le f317.lt p307_0)
          have sz_ca_307 : h0.size ≤ ca_307 := Nat.le_trans K306.1 p307_0
          have g_ca_307 : n0 ≤ ca_307 := Nat.le_trans Z0 sz_ca_307
          have K318 : Keep h0 T307.heap [] := K306.trans K307q (allS (Or.inr sz_b297) all0)
          show Wlk p.tables e below (T307.setTop (mkF m 96 #[jv q1, sd, jv q2, sd, jv q3, sd, iv p4, iv p5, iv j1_0, iv j2_0, iv j3_0, iv v275, rv b276, rv b283, un, un, un, un, un] [(.ref b297)])) K
          refine Wlk.of (fun _ k => XS.astore X307.here hx rfl (hb hby at_96) rfl rfl (l' := #[jv q1, sd, jv q2, sd, jv q3, sd, iv p4, iv p5, iv j1_0, iv j2_0, iv j3_0, iv v275, rv b276, rv b283, rv b297, un, un, un, un]) rfl k) ?_
          show Wlk p.tables e below (T307.setTop (mkF m 98 #[jv q1, sd, jv q2, sd, jv q3, sd, iv p4, iv p5, iv j1_0, iv j2_0, iv j3_0, iv v275, rv b276, rv b283, rv b297, un, un, un, un] [])) K
          refine Wlk.of (fun _ k => XS.iload X307.here hx rfl (hb hby at_98) rfl k) ?_
          show Wlk p.tables e below (T307.setTop (mkF m 100 #[jv q1, sd, jv q2, sd, jv q3, sd, iv p4, iv p5, iv j1_0, iv j2_0, iv j3_0, iv v275, rv b276, rv b283, rv b297, un, un, un, un] [(.int j1_0)])) K
          have J319 : ∀ (T319 : State) (h319 : Heap) (ls319 : List Loc) (j319_0 : Int64) (j319_1 : (Nat → Int64)) (j319_2 : Int64) (j319_3 : (Nat → Int64)), j319_0 = (if j1_0 = (0 : Int32) then (0 : Int64) else ((0 : Int64) + (1 : Int64))) → j319_1 = (if j1_0 = (0 : Int32) then own_zero else (own_inc own_zero (own_in q1))) → j319_2 = (if j1_0 = (0 : Int32) then (0 : Int64) else ((0 : Int64) + (1 : Int64))) → j319_3 = (if j1_0 = (0 : Int32) then own_zero else (own_inc own_zero (own_in q1))) → Stand p l e room_1 s m #[(.long q1), (.long q2), (.long q3), (.int p4), (.int p5)] below meth c T319 ls319 6 21894 → T319.heap = h319 → Fr n0 ls319 → Keep h0 h319 [] → Exa Z h319 b276 "com/example/eimer/eimer/cli/Latencies" → Fld Z h319 b276 "com/example/eimer/eimer/cli/Latencies" "counts" "[J" (.ref ca_279) → Fld Z h319 b276 "com/example/eimer/eimer/cli/Latencies" "total" "J" (.long j319_0) → Arl Z h319 ca_279 .long (own_vs j319_1) → Exa Z h319 b283 "com/example/eimer/eimer/cli/Latencies" → Fld Z h319 b283 "com/example/eimer/eimer/cli/Latencies" "counts" "[J" (.ref ca_289) → Fld Z h319 b283 "com/example/eimer/eimer/cli/Latencies" "total" "J" (.long (0 : Int64)) → Arl Z h319 ca_289 .long (own_vs own_zero) → Exa Z h319 b297 "com/example/eimer/eimer/cli/Latencies" → Fld Z h319 b297 "com/example/eimer/eimer/cli/Latencies" "counts" "[J" (.ref ca_307) → Fld Z h319 b297 "com/example/eimer/eimer/cli/Latencies" "total" "J" (.long j319_2) → Arl Z h319 ca_307 .long (own_vs j319_3) → Wlk p.tables e below (T319.setTop (mkF m 115 #[jv q1, sd, jv q2, sd, jv q3, sd, iv p4, iv p5, iv j1_0, iv j2_0, iv j3_0, iv v275, rv b276, rv b283, rv b297, un, un, un, un] [])) K := by
            intro T319 h319 ls319 j319_0 j319_1 j319_2 j319_3 hj319_0 hj319_1 hj319_2 hj319_3 X319 e319 N319 K319 z319_0 z319_1 z319_2 z319_3 z319_4 z319_5 z319_6 z319_7 z319_8 z319_9 z319_10 z319_11
            refine Wlk.of (fun _ k => XS.iload X319.here hx rfl (hb hby at_115) rfl k) ?_
            show Wlk p.tables e below (T319.setTop (mkF m 117 #[jv q1, sd, jv q2, sd, jv q3, sd, iv p4, iv p5, iv j1_0, iv j2_0, iv j3_0, iv v275, rv b276, rv b283, rv b297, un, un, un, un] [(.int j2_0)])) K
            have J320 : ∀ (T320 : State) (h320 : Heap) (ls320 : List Loc) (j320_0 : Int64) (j320_1 : (Nat → Int64)) (j320_2 : Int64) (j320_3 : (Nat → Int64)), j320_0 = (if j2_0 = (0 : Int32) then (0 : Int64) else ((0 : Int64) + (1 : Int64))) → j320_1 = (if j2_0 = (0 : Int32) then own_zero else (own_inc own_zero (own_in q2))) → j320_2 = (if j2_0 = (0 : Int32) then j319_2 else (j319_2 + (1 : Int64))) → j320_3 = (if j2_0 = (0 : Int32) then j319_3 else (own_inc j319_3 (own_in q2))) → Stand p l e room_1 s m #[(.long q1), (.long q2), (.long q3), (.int p4), (.int p5)] below meth c T320 ls320 6 21894 → T320.heap = h320 → Fr n0 ls320 → Keep h0 h320 [] → Exa Z h320 b276 "com/example/eimer/eimer/cli/Latencies" → Fld Z h320 b276 "com/example/eimer/eimer/cli/Latencies" "counts" "[J" (.ref ca_279) → Fld Z h320 b276 "com/example/eimer/eimer/cli/Latencies" "total" "J" (.long j319_0) → Arl Z h320 ca_279 .long (own_vs j319_1) → Exa Z h320 b283 "com/example/eimer/eimer/cli/Latencies" → Fld Z h320 b283 "com/example/eimer/eimer/cli/Latencies" "counts" "[J" (.ref ca_289) → Fld Z h320 b283 "com/example/eimer/eimer/cli/Latencies" "total" "J" (.long j320_0) → Arl Z h320 ca_289 .long (own_vs j320_1) → Exa Z h320 b297 "com/example/eimer/eimer/cli/Latencies" → Fld Z h320 b297 "com/example/eimer/eimer/cli/Latencies" "counts" "[J" (.ref ca_307) → Fld Z h320 b297 "com/example/eimer/eimer/cli/Latencies" "total" "J" (.long j320_2) → Arl Z h320 ca_307 .long (own_vs j320_3) → Wlk p.tables e below (T320.setTop (mkF m 132 #[jv q1, sd, jv q2, sd, jv q3, sd, iv p4, iv p5, iv j1_0, iv j2_0, iv j3_0, iv v275, rv b276, rv b283, rv b297, un, un, un, un] [])) K := by
              intro T320 h320 ls320 j320_0 j320_1 j320_2 j320_3 hj320_0 hj320_1 hj320_2 hj320_3 X320 e320 N320 K320 z320_0 z320_1 z320_2 z320_3 z320_4 z320_5 z320_6 z320_7 z320_8 z320_9 z320_10 z320_11
              refine Wlk.of (fun _ k => XS.iload X320.here hx rfl (hb hby at_132) rfl k) ?_
              show Wlk p.tables e below (T320.setTop (mkF m 134 #[jv q1, sd, jv q2, sd, jv q3, sd, iv p4, iv p5, iv j1_0, iv j2_0, iv j3_0, iv v275, rv b276, rv b283, rv b297, un, un, un, un] [(.int j3_0)])) K
              have J321 : ∀ (T321 : State) (h321 : Heap) (ls321 : List Loc) (j321_0 : Int64) (j321_1 : (Nat → Int64)) (j321_2 : Int64) (j321_3 : (Nat → Int64)), j321_0 = (if j3_0 = (0 : Int32) then j320_0 else (j320_0 + (1 : Int64))) → j321_1 = (if j3_0 = (0 : Int32) then j320_1 else (own_inc j320_1 (own_in q3))) → j321_2 = (if j3_0 = (0 : Int32) then j320_2 else (j320_2 + (1 : Int64))) → j321_3 = (if j3_0 = (0 : Int32) then j320_3 else (own_inc j320_3 (own_in q3))) → Stand p l e room_1 s m #[(.long q1), (.long q2), (.long q3), (.int p4), (.int p5)] below meth c T321 ls321 6 21894 → T321.heap = h321 → Fr n0 ls321 → Keep h0 h321 [] → Exa Z h321 b276 "com/example/eimer/eimer/cli/Latencies" → Fld Z h321 b276 "com/example/eimer/eimer/cli/Latencies" "counts" "[J" (.ref ca_279) → Fld Z h321 b276 "com/example/eimer/eimer/cli/Latencies" "total" "J" (.long j319_0) → Arl Z h321 ca_279 .long (own_vs j319_1) → Exa Z h321 b283 "com/example/eimer/eimer/cli/Latencies" → Fld Z h321 b283 "com/example/eimer/eimer/cli/Latencies" "counts" "[J" (.ref ca_289) → Fld Z h321 b283 "com/example/eimer/eimer/cli/Latencies" "total" "J" (.long j321_0) → Arl Z h321 ca_289 .long (own_vs j321_1) → Exa Z h321 b297 "com/example/eimer/eimer/cli/Latencies" → Fld Z h321 b297 "com/example/eimer/eimer/cli/Latencies" "counts" "[J" (.ref ca_307) → Fld Z h321 b297 "com/example/eimer/eimer/cli/Latencies" "total" "J" (.long j321_2) → Arl Z h321 ca_307 .long (own_vs j321_3) → Wlk p.tables e below (T321.setTop (mkF m 151 #[jv q1, sd, jv q2, sd, jv q3, sd, iv p4, iv p5, iv j1_0, iv j2_0, iv j3_0, iv v275, rv b276, rv b283, rv b297, un, un, un, un] [])) K := by
                intro T321 h321 ls321 j321_0 j321_1 j321_2 j321_3 hj321_0 hj321_1 hj321_2 hj321_3 X321 e321 N321 K321 z321_0 z321_1 z321_2 z321_3 z321_4 z321_5 z321_6 z321_7 z321_8 z321_9 z321_10 z321_11
                obtain ⟨hF, hT, hS, h123⟩ := own_all (own_ixb q1).2 (own_ixb q2).2 (own_ixb q3).2 (fun q => hc4 q.1) hj319_1 hj319_3 hj320_1 hj320_3 hj321_1 hj321_3 hj319_0 hj319_2 hj320_0 hj320_2 hj321_0 hj321_2
                obtain ⟨ht0, N, hN, hstop, hgo⟩ := own_stop hv275 hS h123
                refine Wlk.of (fun _ k => XS.aload X321.here hx rfl (hb hby at_151) rfl rfl k) ?_
                show Wlk p.tables e below (T321.setTop (mkF m 153 #[jv q1, sd, jv q2, sd, jv q3, sd, iv p4, iv p5, iv j1_0, iv j2_0, iv j3_0, iv v275, rv b276, rv b283, rv b297, un, un, un, un] [(.ref b276)])) K
                refine Wlk.of (fun _ k => XS.aload X321.here hx rfl (hb hby at_153) rfl rfl k) ?_
                show Wlk p.tables e below (T321.setTop (mkF m 155 #[jv q1, sd, jv q2, sd, jv q3, sd, iv p4, iv p5, iv j1_0, iv j2_0, iv j3_0, iv v275, rv b276, rv b283, rv b297, un, un, un, un] [(.ref b283), (.ref b276)])) K
                obtain ⟨v322, T322, L322, X322, q322, st322⟩ := Ctr.virtual (y := (⟨"com/example/eimer/eimer/cli/Latencies", "add", "(Lcom/example/eimer/eimer/cli/Latencies;)V"⟩ : MethodName)) (rmA l Z a0 hw b276 b283 ca_279 ca_289 j319_0 j321_0 j319_1 j321_1 h321 n0 (Nat.le_trans Z0 K321.1) z321_0 z321_1 z321_2 z321_3 z321_5 z321_6 z321_7 ne281 ne284 ne291 (Ne.symm ne286) ne294 g_b276 g_ca_279) X321 hx hZ e321 hown (wd hw 36 rfl) (wd hw 37 rfl) (notFace_of_selects (args := #[]) (mvT hZ (wd hw 39 rfl))) (wd hw 39 rfl) (wd hw 38 rfl) (wd hw 3 rfl) (wd hw 40 rfl) (by decide) z321_0 pd_232 (g := (mkF m 155 #[jv q1, sd, jv q2, sd, jv q3, sd, iv p4, iv p5, iv j1_0, iv j2_0, iv j3_0, iv v275, rv b276, rv b283, rv b297, un, un, un, un] [(.ref b283), (.ref b276)])) rfl (by rw [hml]; rfl) (argsL := [(.ref b283)]) (rest := []) rfl rfl rfl (W := 0) (by show 2 * 0 + _ ≤ _; exact Nat.le_of_eq rfl) (by decide) (by decide) (hb hby at_155) (by decide) (by decide)
                obtain ⟨rfl, N322q, K322q, p322_0, p322_1, p322_2⟩ := q322
                have N323 := Fr.app N321 N322q
                refine Wlk.of (fun _ k => st322 _ k) ?_
                have K324 : Keep h0 T322.heap [] := K321.trans K322q (allS (Or.inr sz_b276) (allS (Or.inr sz_ca_279) all0))
                show Wlk p.tables e below (T322.setTop (mkF m 158 #[jv q1, sd, jv q2, sd, jv q3, sd, iv p4, iv p5, iv j1_0, iv j2_0, iv j3_0, iv v275, rv b276, rv b283, rv b297, un, un, un, un] [])) K
                refine Wlk.of (fun _ k => XS.aload X322.here hx rfl (hb hby at_158) rfl rfl k) ?_
                show Wlk p.tables e below (T322.setTop (mkF m 160 #[jv q1, sd, jv q2, sd, jv q3, sd, iv p4, iv p5, iv j1_0, iv j2_0, iv j3_0, iv v275, rv b276, rv b283, rv b297, un, un, un, un] [(.ref b276)])) K
                refine Wlk.of (fun _ k => XS.iload X322.here hx rfl (hb hby at_160) rfl k) ?_
                show Wlk p.tables e below (T322.setTop (mkF m 162 #[jv q1, sd, jv q2, sd, jv q3, sd, iv p4, iv p5, iv j1_0, iv j2_0, iv j3_0, iv v275, rv b276, rv b283, rv b297, un, un, un, un] [(.int v275), (.ref b276)])) K
                have f325 : Exa Z T322.heap b276 "com/example/eimer/eimer/cli/Latencies" := (z321_0.keep K322q)
                obtain ⟨v326, T326, L326, X326, q326, st326⟩ := Ctr.virtual (y := (⟨"com/example/eimer/eimer/cli/Latencies", "percentile", "(I)D"⟩ : MethodName)) (rmP l Z a0 hw b276 v275 ca_279 ((j319_0 + j321_0)) ((own_sum j319_1 j321_1)) N T322.heap n0 (Nat.le_trans Z0 K324.1) p322_0 p322_1 p322_2 (by rw [hT]; exact ht0) hN (by rw [hT, hF]; exact hstop) (by rw [hT, hF]; exact hgo)) X322 hx hZ rfl hown (wd hw 41 rfl) (wd hw 42 rfl) (notFace_of_selects (args := #[]) (mvT hZ (wd hw 44 rfl))) (wd hw 44 rfl) (wd hw 43 rfl) (wd hw 3 rfl) (wd hw 45 rfl) (by decide) f325 pd_233 (g := (mkF m 162 #[jv q1, sd, jv q2, sd, jv q3, sd, iv p4, iv p5, iv j1_0, iv j2_0, iv j3_0, iv v275, rv b276, rv b283, rv b297, un, un, un, un] [(.int v275), (.ref b276)])) rfl (by rw [hml]; rfl) (argsL := [(.int v275)]) (rest := []) rfl rfl rfl (W := 0) (by show 2 * 0 + _ ≤ _; exact Nat.le_of_eq rfl) (by decide) (by decide) (hb hby at_162) (by decide) (by decide)
                obtain ⟨rfl, N326q, hh326⟩ := q326
                have N327 := Fr.app N323 N326q
                refine Wlk.of (fun _ k => st326 _ k) ?_
                show Wlk p.tables e below (T326.setTop (mkF m 165 #[jv q1, sd, jv q2, sd, jv q3, sd, iv p4, iv p5, iv j1_0, iv j2_0, iv j3_0, iv v275, rv b276, rv b283, rv b297, un, un, un, un] [(.double (own_pv (Int32.ofNat N) (own_ps (Int32.ofNat N))))])) K
                refine Wlk.of (fun _ k => XS.dstore X326.here hx rfl (hb hby at_165) rfl (l' := #[jv q1, sd, jv q2, sd, jv q3, sd, iv p4, iv p5, iv j1_0, iv j2_0, iv j3_0, iv v275, rv b276, rv b283, rv b297, dv (own_pv (Int32.ofNat N) (own_ps (Int32.ofNat N))), sd, un, un]) rfl k) ?_
                show Wlk p.tables e below (T326.setTop (mkF m 167 #[jv q1, sd, jv q2, sd, jv q3, sd, iv p4, iv p5, iv j1_0, iv j2_0, iv j3_0, iv v275, rv b276, rv b283, rv b297, dv (own_pv (Int32.ofNat N) (own_ps (Int32.ofNat N))), sd, un, un] [])) K
                generalize hv328 : (own_pv (Int32.ofNat N) (own_ps (Int32.ofNat N))) = v328
                refine Wlk.of (fun _ k => XS.aload X326.here hx rfl (hb hby at_167) rfl rfl k) ?_
                show Wlk p.tables e below (T326.setTop (mkF m 169 #[jv q1, sd, jv q2, sd, jv q3, sd, iv p4, iv p5, iv j1_0, iv j2_0, iv j3_0, iv v275, rv b276, rv b283, rv b297, dv v328, sd, un, un] [(.ref b297)])) K
                refine Wlk.of (fun _ k => XS.iload X326.here hx rfl (hb hby at_169) rfl k) ?_
                show Wlk p.tables e below (T326.setTop (mkF m 171 #[jv q1, sd, jv q2, sd, jv q3, sd, iv p4, iv p5, iv j1_0, iv j2_0, iv j3_0, iv v275, rv b276, rv b283, rv b297, dv v328, sd, un, un] [(.int v275), (.ref b297)])) K
                have f329 : Fld Z T322.heap b297 "com/example/eimer/eimer/cli/Latencies" "counts" "[J" (.ref ca_307) := (z321_9.keep K322q (ninS (Ne.symm ne298) (ninS (Ne.symm ne302) nin0)))
                have f330 : Fld Z T322.heap b297 "com/example/eimer/eimer/cli/Latencies" "total" "J" (.long j321_2) := (z321_10.keep K322q (ninS (Ne.symm ne298) (ninS (Ne.symm ne302) nin0)))
                have f331 : Arl Z T322.heap ca_307 .long (own_vs j321_3) := (z321_11.keep K322q (ninS (Ne.symm ne309) (ninS (Ne.symm ne314) nin0)))
                have f332 : Exa Z T322.heap b297 "com/example/eimer/eimer/cli/Latencies" := (z321_8.keep K322q)
                obtain ⟨v333, T333, L333, X333, q333, st333⟩ := Ctr.virtual (y := (⟨"com/example/eimer/eimer/cli/Latencies", "percentile", "(I)D"⟩ : MethodName)) (rmP l Z a0 hw b297 v275 ca_307 j321_2 j321_3 N T322.heap n0 (Nat.le_trans Z0 K324.1) f329 f330 f331 ht0 hN hstop hgo) X326 hx hZ hh326 hown (wd hw 41 rfl) (wd hw 42 rfl) (notFace_of_selects (args := #[]) (mvT hZ (wd hw 44 rfl))) (wd hw 44 rfl) (wd hw 43 rfl) (wd hw 3 rfl) (wd hw 45 rfl) (by decide) f332 pd_233 (g := (mkF m 171 #[jv q1, sd, jv q2, sd, jv q3, sd, iv p4, iv p5, iv j1_0, iv j2_0, iv j3_0, iv v275, rv b276, rv b283, rv b297, dv v328, sd, un, un] [(.int v275), (.ref b297)])) rfl (by rw [hml]; rfl) (argsL := [(.int v275)]) (rest := []) rfl rfl rfl (W := 0) (by show 2 * 0 + _ ≤ _; exact Nat.le_of_eq rfl) (by decide) (by decide) (hb hby at_171) (by decide) (by decide)
                obtain ⟨rfl, N333q, hh333⟩ := q333
                have N334 := Fr.app N327 N333q
                refine Wlk.of (fun _ k => st333 _ k) ?_
                show Wlk p.tables e below (T333.setTop (mkF m 174 #[jv q1, sd, jv q2, sd, jv q3, sd, iv p4, iv p5, iv j1_0, iv j2_0, iv j3_0, iv v275, rv b276, rv b283, rv b297, dv v328, sd, un, un] [(.double (own_pv (Int32.ofNat N) (own_ps (Int32.ofNat N))))])) K
                refine Wlk.of (fun _ k => XS.dstore X333.here hx rfl (hb hby at_174) rfl (l' := #[jv q1, sd, jv q2, sd, jv q3, sd, iv p4, iv p5, iv j1_0, iv j2_0, iv j3_0, iv v275, rv b276, rv b283, rv b297, dv v328, sd, dv (own_pv (Int32.ofNat N) (own_ps (Int32.ofNat N))), sd]) rfl k) ?_
                show Wlk p.tables e below (T333.setTop (mkF m 176 #[jv q1, sd, jv q2, sd, jv q3, sd, iv p4, iv p5, iv j1_0, iv j2_0, iv j3_0, iv v275, rv b276, rv b283, rv b297, dv v328, sd, dv (own_pv (Int32.ofNat N) (own_ps (Int32.ofNat N))), sd] [])) K
                generalize hv335 : (own_pv (Int32.ofNat N) (own_ps (Int32.ofNat N))) = v335
                refine Wlk.of (fun _ k => XS.dload X333.here hx rfl (hb hby at_176) rfl k) ?_
                show Wlk p.tables e below (T333.setTop (mkF m 178 #[jv q1, sd, jv q2, sd, jv q3, sd, iv p4, iv p5, iv j1_0, iv j2_0, iv j3_0, iv v275, rv b276, rv b283, rv b297, dv v328, sd, dv v335, sd] [(.double v328)])) K
                refine Wlk.of (fun _ k => XS.dload X333.here hx rfl (hb hby at_178) rfl k) ?_
                show Wlk p.tables e below (T333.setTop (mkF m 180 #[jv q1, sd, jv q2, sd, jv q3, sd, iv p4, iv p5, iv j1_0, iv j2_0, iv j3_0, iv v275, rv b276, rv b283, rv b297, dv v328, sd, dv v335, sd] [(.double v335), (.double v328)])) K
                refine Wlk.of (fun _ k => XS.dcmpS X333.here hx rfl (hb hby at_180) rfl rfl k) ?_
                show Wlk p.tables e below (T333.setTop (mkF m 181 #[jv q1, sd, jv q2, sd, jv q3, sd, iv p4, iv p5, iv j1_0, iv j2_0, iv j3_0, iv v275, rv b276, rv b283, rv b297, dv v328, sd, dv v335, sd] [(.int (cmpValue (FP.dcmp v328 v335) .l))])) K
                refine Wlk.of (fun _ k => XS.ifNo X333.here hx rfl (hb hby at_181) rfl ((if0 _ _).trans (teq (show (cmpValue (FP.dcmp v328 v335) .l) = (0 : Int32) by rw [← hv328, ← hv335]; exact dcmpV_self (by unfold own_pv; exact (own_pn _ _).2) _)).2) k) ?_
                show Wlk p.tables e below (T333.setTop (mkF m 184 #[jv q1, sd, jv q2, sd, jv q3, sd, iv p4, iv p5, iv j1_0, iv j2_0, iv j3_0, iv v275, rv b276, rv b283, rv b297, dv v328, sd, dv v335, sd] [])) K
                refine Wlk.of (fun _ k => XS.iconst X333.here hx rfl (hb hby at_184) k) ?_
                show Wlk p.tables e below (T333.setTop (mkF m 185 #[jv q1, sd, jv q2, sd, jv q3, sd, iv p4, iv p5, iv j1_0, iv j2_0, iv j3_0, iv v275, rv b276, rv b283, rv b297, dv v328, sd, dv v335, sd] [(.int (1 : Int32))])) K
                refine Wlk.of (fun _ k => XS.goto X333.here hx rfl (pc0 := 185) (pc' := 189) rfl (hb hby at_185) (by decide) (by decide) k) ?_
                show Wlk p.tables e below (T333.setTop (mkF m 189 #[jv q1, sd, jv q2, sd, jv q3, sd, iv p4, iv p5, iv j1_0, iv j2_0, iv j3_0, iv v275, rv b276, rv b283, rv b297, dv v328, sd, dv v335, sd] [(.int (1 : Int32))])) K
                refine hK (some (.int (1 : Int32))) X333 (fun q => by cases q) (fun fs hr => retN X333 hx (t := .boolean) hret (by simp) (hb hby at_189) hr) ?_ (by decide) (by decide)
                rw [show T333.heap = T322.heap from hh333]
                exact ⟨rfl, N334⟩
              by_cases hc336 : j3_0 = (0 : Int32)
              · refine Wlk.of (fun _ k => XS.ifYes X320.here hx rfl (pc0 := 134) (pc' := 151) rfl (hb hby at_134) rfl ((if0 _ _).trans (teq hc336).1) (by decide) (by decide) k) ?_
                show Wlk p.tables e below (T320.setTop (mkF m 151 #[jv q1, sd, jv q2, sd, jv q3, sd, iv p4, iv p5, iv j1_0, iv j2_0, iv j3_0, iv v275, rv b276, rv b283, rv b297, un, un, un, un] [])) K
                exact J321 _ _ _ j320_0 j320_1 j320_2 j320_3 (by rw [if_pos hc336]) (by rw [if_pos hc336]) (by rw [if_pos hc336]) (by rw [if_pos hc336]) (X320.more (by decide) (by decide)) e320 N320 K320 z320_0 z320_1 z320_2 z320_3 z320_4 z320_5 z320_6 z320_7 z320_8 z320_9 z320_10 z320_11
              · refine Wlk.of (fun _ k => XS.ifNo X320.here hx rfl (hb hby at_134) rfl ((if0 _ _).trans (feq hc336).1) k) ?_
                show Wlk p.tables e below (T320.setTop (mkF m 137 #[jv q1, sd, jv q2, sd, jv q3, sd, iv p4, iv p5, iv j1_0, iv j2_0, iv j3_0, iv v275, rv b276, rv b283, rv b297, un, un, un, un] [])) K
                refine Wlk.of (fun _ k => XS.aload X320.here hx rfl (hb hby at_137) rfl rfl k) ?_
                show Wlk p.tables e below (T320.setTop (mkF m 139 #[jv q1, sd, jv q2, sd, jv q3, sd, iv p4, iv p5, iv j1_0, iv j2_0, iv j3_0, iv v275, rv b276, rv b283, rv b297, un, un, un, un] [(.ref b283)])) K
                refine Wlk.of (fun _ k => XS.lload X320.here hx rfl (hb hby at_139) rfl k) ?_
                show Wlk p.tables e below (T320.setTop (mkF m 141 #[jv q1, sd, jv q2, sd, jv q3, sd, iv p4, iv p5, iv j1_0, iv j2_0, iv j3_0, iv v275, rv b276, rv b283, rv b297, un, un, un, un] [(.long q3), (.ref b283)])) K
                obtain ⟨v337, T337, L337, X337, q337, st337⟩ := Ctr.virtual (y := (⟨"com/example/eimer/eimer/cli/Latencies", "record", "(J)V"⟩ : MethodName)) (rmR l Z a0 hw b283 q3 ca_289 j320_0 j320_1 h320 n0 (Nat.le_trans Z0 K320.1) z320_4 z320_5 z320_6 z320_7 ne293 g_b283 g_ca_289) X320 hx hZ e320 hown (wd hw 13 rfl) (wd hw 14 rfl) (notFace_of_selects (args := #[]) (mvT hZ (wd hw 16 rfl))) (wd hw 16 rfl) (wd hw 15 rfl) (wd hw 3 rfl) (wd hw 17 rfl) (by decide) z320_4 pd_231 (g := (mkF m 141 #[jv q1, sd, jv q2, sd, jv q3, sd, iv p4, iv p5, iv j1_0, iv j2_0, iv j3_0, iv v275, rv b276, rv b283, rv b297, un, un, un, un] [(.long q3), (.ref b283)])) rfl (by rw [hml]; rfl) (argsL := [(.long q3)]) (rest := []) rfl rfl rfl (W := 0) (by show 2 * 0 + _ ≤ _; exact Nat.le_of_eq rfl) (by decide) (by decide) (hb hby at_141) (by decide) (by decide)
                obtain ⟨rfl, N337q, K337q, p337_0, p337_1, p337_2⟩ := q337
                have N338 := Fr.app N320 N337q
                refine Wlk.of (fun _ k => st337 _ k) ?_
                have K339 : Keep h0 T337.heap [] := K320.trans K337q (allS (Or.inr sz_b283) (allS (Or.inr sz_ca_289) all0))
                show Wlk p.tables e below (T337.setTop (mkF m 144 #[jv q1, sd, jv q2, sd, jv q3, sd, iv p4, iv p5, iv j1_0, iv j2_0, iv j3_0, iv v275, rv b276, rv b283, rv b297, un, un, un, un] [])) K
                refine Wlk.of (fun _ k => XS.aload X337.here hx rfl (hb hby at_144) rfl rfl k) ?_
                show Wlk p.tables e below (T337.setTop (mkF m 146 #[jv q1, sd, jv q2, sd, jv q3, sd, iv p4, iv p5, iv j1_0, iv j2_0, iv j3_0, iv v275, rv b276, rv b283, rv b297, un, un, un, un] [(.ref b297)])) K
                refine Wlk.of (fun _ k => XS.lload X337.here hx rfl (hb hby at_146) rfl k) ?_
                show Wlk p.tables e below (T337.setTop (mkF m 148 #[jv q1, sd, jv q2, sd, jv q3, sd, iv p4, iv p5, iv j1_0, iv j2_0, iv j3_0, iv v275, rv b276, rv b283, rv b297, un, un, un, un] [(.long q3), (.ref b297)])) K
                have f340 : Exa Z T337.heap b297 "com/example/eimer/eimer/cli/Latencies" := (z320_8.keep K337q)
                have f341 : Fld Z T337.heap b297 "com/example/eimer/eimer/cli/Latencies" "counts" "[J" (.ref ca_307) := (z320_9.keep K337q (ninS (Ne.symm ne300) (ninS (Ne.symm ne304) nin0)))
                have f342 : Fld Z T337.heap b297 "com/example/eimer/eimer/cli/Latencies" "total" "J" (.long j320_2) := (z320_10.keep K337q (ninS (Ne.symm ne300) (ninS (Ne.symm ne304) nin0)))
                have f343 : Arl Z T337.heap ca_307 .long (own_vs j320_3) := (z320_11.keep K337q (ninS (Ne.symm ne311) (ninS (Ne.symm ne316) nin0)))
                obtain ⟨v344, T344, L344, X344, q344, st344⟩ := Ctr.virtual (y := (⟨"com/example/eimer/eimer/cli/Latencies", "record", "(J)V"⟩ : MethodName)) (rmR l Z a0 hw b297 q3 ca_307 j320_2 j320_3 T337.heap n0 (Nat.le_trans Z0 K339.1) f340 f341 f342 f343 ne313 g_b297 g_ca_307) X337 hx hZ rfl hown (wd hw 13 rfl) (wd hw 14 rfl) (notFace_of_selects (args := #[]) (mvT hZ (wd hw 16 rfl))) (wd hw 16 rfl) (wd hw 15 rfl) (wd hw 3 rfl) (wd hw 17 rfl) (by decide) f340 pd_231 (g := (mkF m 148 #[jv q1, sd, jv q2, sd, jv q3, sd, iv p4, iv p5, iv j1_0, iv j2_0, iv j3_0, iv v275, rv b276, rv b283, rv b297, un, un, un, un] [(.long q3), (.ref b297)])) rfl (by rw [hml]; rfl) (argsL := [(.long q3)]) (rest := []) rfl rfl rfl (W := 0) (by show 2 * 0 + _ ≤ _; exact Nat.le_of_eq rfl) (by decide) (by decide) (hb hby at_148) (by decide) (by decide)
                obtain ⟨rfl, N344q, K344q, p344_0, p344_1, p344_2⟩ := q344
                have N345 := Fr.app N338 N344q
                refine Wlk.of (fun _ k => st344 _ k) ?_
                have K346 : Keep h0 T344.heap [] := K339.trans K344q (allS (Or.inr sz_b297) (allS (Or.inr sz_ca_307) all0))
                show Wlk p.tables e below (T344.setTop (mkF m 151 #[jv q1, sd, jv q2, sd, jv q3, sd, iv p4, iv p5, iv j1_0, iv j2_0, iv j3_0, iv v275, rv b276, rv b283, rv b297, un, un, un, un] [])) K
                have f347 : Exa Z T344.heap b276 "com/example/eimer/eimer/cli/Latencies" := ((z320_0.keep K337q).keep K344q)
                have f348 : Fld Z T344.heap b276 "com/example/eimer/eimer/cli/Latencies" "counts" "[J" (.ref ca_279) := ((z320_1.keep K337q (ninS ne284 (ninS ne291 nin0))).keep K344q (ninS ne298 (ninS ne309 nin0)))
                have f349 : Fld Z T344.heap b276 "com/example/eimer/eimer/cli/Latencies" "total" "J" (.long j319_0) := ((z320_2.keep K337q (ninS ne284 (ninS ne291 nin0))).keep K344q (ninS ne298 (ninS ne309 nin0)))
                have f350 : Arl Z T344.heap ca_279 .long (own_vs j319_1) := ((z320_3.keep K337q (ninS ne286 (ninS ne294 nin0))).keep K344q (ninS ne302 (ninS ne314 nin0)))
                have f351 : Exa Z T344.heap b283 "com/example/eimer/eimer/cli/Latencies" := ((z320_4.keep K337q).keep K344q)
                have f352 : Fld Z T344.heap b283 "com/example/eimer/eimer/cli/Latencies" "counts" "[J" (.ref ca_289) := (p337_0.keep K344q (ninS ne300 (ninS ne311 nin0)))
                have f353 : Fld Z T344.heap b283 "com/example/eimer/eimer/cli/Latencies" "total" "J" (.long (j320_0 + (1 : Int64))) := (p337_1.keep K344q (ninS ne300 (ninS ne311 nin0)))
                have f354 : Arl Z T344.heap ca_289 .long (own_vs (own_inc j320_1 (own_in q3))) := (p337_2.keep K344q (ninS ne304 (ninS ne316 nin0)))
                have f355 : Exa Z T344.heap b297 "com/example/eimer/eimer/cli/Latencies" := (f340.keep K344q)
                exact J321 _ _ _ (j320_0 + (1 : Int64)) (own_inc j320_1 (own_in q3)) (j320_2 + (1 : Int64)) (own_inc j320_3 (own_in q3)) (by rw [if_neg hc336]) (by rw [if_neg hc336]) (by rw [if_neg hc336]) (by rw [if_neg hc336]) (X344.more (by decide) (by decide)) rfl N345 K346 f347 f348 f349 f350 f351 f352 f353 f354 f355 p344_0 p344_1 p344_2
            by_cases hc356 : j2_0 = (0 : Int32)
            · refine Wlk.of (fun _ k => XS.ifYes X319.here hx rfl (pc0 := 117) (pc' := 132) rfl (hb hby at_117) rfl ((if0 _ _).trans (teq hc356).1) (by decide) (by decide) k) ?_
              show Wlk p.tables e below (T319.setTop (mkF m 132 #[jv q1, sd, jv q2, sd, jv q3, sd, iv p4, iv p5, iv j1_0, iv j2_0, iv j3_0, iv v275, rv b276, rv b283, rv b297, un, un, un, un] [])) K
              exact J320 _ _ _ (0 : Int64) own_zero j319_2 j319_3 (by rw [if_pos hc356]) (by rw [if_pos hc356]) (by rw [if_pos hc356]) (by rw [if_pos hc356]) (X319.more (by decide) (by decide)) e319 N319 K319 z319_0 z319_1 z319_2 z319_3 z319_4 z319_5 z319_6 z319_7 z319_8 z319_9 z319_10 z319_11
            · refine Wlk.of (fun _ k => XS.ifNo X319.here hx rfl (hb hby at_117) rfl ((if0 _ _).trans (feq hc356).1) k) ?_
              show Wlk p.tables e below (T319.setTop (mkF m 120 #[jv q1, sd, jv q2, sd, jv q3, sd, iv p4, iv p5, iv j1_0, iv j2_0, iv j3_0, iv v275, rv b276, rv b283, rv b297, un, un, un, un] [])) K
              refine Wlk.of (fun _ k => XS.aload X319.here hx rfl (hb hby at_120) rfl rfl k) ?_
              show Wlk p.tables e below (T319.setTop (mkF m 122 #[jv q1, sd, jv q2, sd, jv q3, sd, iv p4, iv p5, iv j1_0, iv j2_0, iv j3_0, iv v275, rv b276, rv b283, rv b297, un, un, un, un] [(.ref b283)])) K
              refine Wlk.of (fun _ k => XS.lloadN X319.here hx rfl (hb hby at_122) rfl k) ?_
              show Wlk p.tables e below (T319.setTop (mkF m 123 #[jv q1, sd, jv q2, sd, jv q3, sd, iv p4, iv p5, iv j1_0, iv j2_0, iv j3_0, iv v275, rv b276, rv b283, rv b297, un, un, un, un] [(.long q2), (.ref b283)])) K
              obtain ⟨v357, T357, L357, X357, q357, st357⟩ := Ctr.virtual (y := (⟨"com/example/eimer/eimer/cli/Latencies", "record", "(J)V"⟩ : MethodName)) (rmR l Z a0 hw b283 q2 ca_289 (0 : Int64) own_zero h319 n0 (Nat.le_trans Z0 K319.1) z319_4 z319_5 z319_6 z319_7 ne293 g_b283 g_ca_289) X319 hx hZ e319 hown (wd hw 13 rfl) (wd hw 14 rfl) (notFace_of_selects (args := #[]) (mvT hZ (wd hw 16 rfl))) (wd hw 16 rfl) (wd hw 15 rfl) (wd hw 3 rfl) (wd hw 17 rfl) (by decide) z319_4 pd_231 (g := (mkF m 123 #[jv q1, sd, jv q2, sd, jv q3, sd, iv p4, iv p5, iv j1_0, iv j2_0, iv j3_0, iv v275, rv b276, rv b283, rv b297, un, un, un, un] [(.long q2), (.ref b283)])) rfl (by rw [hml]; rfl) (argsL := [(.long q2)]) (rest := []) rfl rfl rfl (W := 0) (by show 2 * 0 + _ ≤ _; exact Nat.le_of_eq rfl) (by decide) (by decide) (hb hby at_123) (by decide) (by decide)
              obtain ⟨rfl, N357q, K357q, p357_0, p357_1, p357_2⟩ := q357
              have N358 := Fr.app N319 N357q
              refine Wlk.of (fun _ k => st357 _ k) ?_
              have K359 : Keep h0 T357.heap [] := K319.trans K357q (allS (Or.inr sz_b283) (allS (Or.inr sz_ca_289) all0))
              show Wlk p.tables e below (T357.setTop (mkF m 126 #[jv q1, sd, jv q2, sd, jv q3, sd, iv p4, iv p5, iv j1_0, iv j2_0, iv j3_0, iv v275, rv b276, rv b283, rv b297, un, un, un, un] [])) K
              refine Wlk.of (fun _ k => XS.aload X357.here hx rfl (hb hby at_126) rfl rfl k) ?_
              show Wlk p.tables e below (T357.setTop (mkF m 128 #[jv q1, sd, jv q2, sd, jv q3, sd, iv p4, iv p5, iv j1_0, iv j2_0, iv j3_0, iv v275, rv b276, rv b283, rv b297, un, un, un, un] [(.ref b297)])) K
              refine Wlk.of (fun _ k => XS.lloadN X357.here hx rfl (hb hby at_128) rfl k) ?_
              show Wlk p.tables e below (T357.setTop (mkF m 129 #[jv q1, sd, jv q2, sd, jv q3, sd, iv p4, iv p5, iv j1_0, iv j2_0, iv j3_0, iv v275, rv b276, rv b283, rv b297, un, un, un, un] [(.long q2), (.ref b297)])) K
              have f360 : Exa Z T357.heap b297 "com/example/eimer/eimer/cli/Latencies" := (z319_8.keep K357q)
              have f361 : Fld Z T357.heap b297 "com/example/eimer/eimer/cli/Latencies" "counts" "[J" (.ref ca_307) := (z319_9.keep K357q (ninS (Ne.symm ne300) (ninS (Ne.symm ne304) nin0)))
              have f362 : Fld Z T357.heap b297 "com/example/eimer/eimer/cli/Latencies" "total" "J" (.long j319_2) := (z319_10.keep K357q (ninS (Ne.symm ne300) (ninS (Ne.symm ne304) nin0)))
              have f363 : Arl Z T357.heap ca_307 .long (own_vs j319_3) := (z319_11.keep K357q (ninS (Ne.symm ne311) (ninS (Ne.symm ne316) nin0)))
              obtain ⟨v364, T364, L364, X364, q364, st364⟩ := Ctr.virtual (y := (⟨"com/example/eimer/eimer/cli/Latencies", "record", "(J)V"⟩ : MethodName)) (rmR l Z a0 hw b297 q2 ca_307 j319_2 j319_3 T357.heap n0 (Nat.le_trans Z0 K359.1) f360 f361 f362 f363 ne313 g_b297 g_ca_307) X357 hx hZ rfl hown (wd hw 13 rfl) (wd hw 14 rfl) (notFace_of_selects (args := #[]) (mvT hZ (wd hw 16 rfl))) (wd hw 16 rfl) (wd hw 15 rfl) (wd hw 3 rfl) (wd hw 17 rfl) (by decide) f360 pd_231 (g := (mkF m 129 #[jv q1, sd, jv q2, sd, jv q3, sd, iv p4, iv p5, iv j1_0, iv j2_0, iv j3_0, iv v275, rv b276, rv b283, rv b297, un, un, un, un] [(.long q2), (.ref b297)])) rfl (by rw [hml]; rfl) (argsL := [(.long q2)]) (rest := []) rfl rfl rfl (W := 0) (by show 2 * 0 + _ ≤ _; exact Nat.le_of_eq rfl) (by decide) (by decide) (hb hby at_129) (by decide) (by decide)
              obtain ⟨rfl, N364q, K364q, p364_0, p364_1, p364_2⟩ := q364
              have N365 := Fr.app N358 N364q
              refine Wlk.of (fun _ k => st364 _ k) ?_
              have K366 : Keep h0 T364.heap [] := K359.trans K364q (allS (Or.inr sz_b297) (allS (Or.inr sz_ca_307) all0))
              show Wlk p.tables e below (T364.setTop (mkF m 132 #[jv q1, sd, jv q2, sd, jv q3, sd, iv p4, iv p5, iv j1_0, iv j2_0, iv j3_0, iv v275, rv b276, rv b283, rv b297, un, un, un, un] [])) K
              have f367 : Exa Z T364.heap b276 "com/example/eimer/eimer/cli/Latencies" := ((z319_0.keep K357q).keep K364q)
              have f368 : Fld Z T364.heap b276 "com/example/eimer/eimer/cli/Latencies" "counts" "[J" (.ref ca_279) := ((z319_1.keep K357q (ninS ne284 (ninS ne291 nin0))).keep K364q (ninS ne298 (ninS ne309 nin0)))
              have f369 : Fld Z T364.heap b276 "com/example/eimer/eimer/cli/Latencies" "total" "J" (.long j319_0) := ((z319_2.keep K357q (ninS ne284 (ninS ne291 nin0))).keep K364q (ninS ne298 (ninS ne309 nin0)))
              have f370 : Arl Z T364.heap ca_279 .long (own_vs j319_1) := ((z319_3.keep K357q (ninS ne286 (ninS ne294 nin0))).keep K364q (ninS ne302 (ninS ne314 nin0)))
              have f371 : Exa Z T364.heap b283 "com/example/eimer/eimer/cli/Latencies" := ((z319_4.keep K357q).keep K364q)
              have f372 : Fld Z T364.heap b283 "com/example/eimer/eimer/cli/Latencies" "counts" "[J" (.ref ca_289) := (p357_0.keep K364q (ninS ne300 (ninS ne311 nin0)))
              have f373 : Fld Z T364.heap b283 "com/example/eimer/eimer/cli/Latencies" "total" "J" (.long ((0 : Int64) + (1 : Int64))) := (p357_1.keep K364q (ninS ne300 (ninS ne311 nin0)))
              have f374 : Arl Z T364.heap ca_289 .long (own_vs (own_inc own_zero (own_in q2))) := (p357_2.keep K364q (ninS ne304 (ninS ne316 nin0)))
              have f375 : Exa Z T364.heap b297 "com/example/eimer/eimer/cli/Latencies" := (f360.keep K364q)
              exact J320 _ _ _ ((0 : Int64) + (1 : Int64)) (own_inc own_zero (own_in q2)) (j319_2 + (1 : Int64)) (own_inc j319_3 (own_in q2)) (by rw [if_neg hc356]) (by rw [if_neg hc356]) (by rw [if_neg hc356]) (by rw [if_neg hc356]) (X364.more (by decide) (by decide)) rfl N365 K366 f367 f368 f369 f370 f371 f372 f373 f374 f375 p364_0 p364_1 p364_2
          by_cases hc376 : j1_0 = (0 : Int32)
          · refine Wlk.of (fun _ k => XS.ifYes X307.here hx rfl (pc0 := 100) (pc' := 115) rfl (hb hby at_100) rfl ((if0 _ _).trans (teq hc376).1) (by decide) (by decide) k) ?_
            show Wlk p.tables e below (T307.setTop (mkF m 115 #[jv q1, sd, jv q2, sd, jv q3, sd, iv p4, iv p5, iv j1_0, iv j2_0, iv j3_0, iv v275, rv b276, rv b283, rv b297, un, un, un, un] [])) K
            have f377 : Exa Z T307.heap b276 "com/example/eimer/eimer/cli/Latencies" := (f310.keep K307q)
            have f378 : Fld Z T307.heap b276 "com/example/eimer/eimer/cli/Latencies" "counts" "[J" (.ref ca_279) := ((((p279_1.ext E283).keep K289q (ninS ne284 nin0)).ext E297).keep K307q (ninS ne298 nin0))
            have f379 : Fld Z T307.heap b276 "com/example/eimer/eimer/cli/Latencies" "total" "J" (.long (0 : Int64)) := ((((p279_2.ext E283).keep K289q (ninS ne284 nin0)).ext E297).keep K307q (ninS ne298 nin0))
            have f380 : Arl Z T307.heap ca_279 .long (own_vs own_zero) := (f315.keep K307q (ninS ne302 nin0))
            have f381 : Exa Z T307.heap b283 "com/example/eimer/eimer/cli/Latencies" := (f312.keep K307q)
            have f382 : Fld Z T307.heap b283 "com/example/eimer/eimer/cli/Latencies" "counts" "[J" (.ref ca_289) := ((p289_1.ext E297).keep K307q (ninS ne300 nin0))
            have f383 : Fld Z T307.heap b283 "com/example/eimer/eimer/cli/Latencies" "total" "J" (.long (0 : Int64)) := ((p289_2.ext E297).keep K307q (ninS ne300 nin0))
            have f384 : Arl Z T307.heap ca_289 .long (own_vs own_zero) := (f317.keep K307q (ninS ne304 nin0))
            have f385 : Exa Z T307.heap b297 "com/example/eimer/eimer/cli/Latencies" := (A297.keep K307q)
            exact J319 _ _ _ (0 : Int64) own_zero (0 : Int64) own_zero (by rw [if_pos hc376]) (by rw [if_pos hc376]) (by rw [if_pos hc376]) (by rw [if_pos hc376]) (X307.more (by decide) (by decide)) rfl N308 K318 f377 f378 f379 f380 f381 f382 f383 f384 f385 p307_1 p307_2 p307_3
          · refine Wlk.of (fun _ k => XS.ifNo X307.here hx rfl (hb hby at_100) rfl ((if0 _ _).trans (feq hc376).1) k) ?_
            show Wlk p.tables e below (T307.setTop (mkF m 103 #[jv q1, sd, jv q2, sd, jv q3, sd, iv p4, iv p5, iv j1_0, iv j2_0, iv j3_0, iv v275, rv b276, rv b283, rv b297, un, un, un, un] [])) K
            refine Wlk.of (fun _ k => XS.aload X307.here hx rfl (hb hby at_103) rfl rfl k) ?_
            show Wlk p.tables e below (T307.setTop (mkF m 105 #[jv q1, sd, jv q2, sd, jv q3, sd, iv p4, iv p5, iv j1_0, iv j2_0, iv j3_0, iv v275, rv b276, rv b283, rv b297, un, un, un, un] [(.ref b276)])) K
            refine Wlk.of (fun _ k => XS.lloadN X307.here hx rfl (hb hby at_105) rfl k) ?_
            show Wlk p.tables e below (T307.setTop (mkF m 106 #[jv q1, sd, jv q2, sd, jv q3, sd, iv p4, iv p5, iv j1_0, iv j2_0, iv j3_0, iv v275, rv b276, rv b283, rv b297, un, un, un, un] [(.long q1), (.ref b276)])) K
            have f386 : Exa Z T307.heap b276 "com/example/eimer/eimer/cli/Latencies" := (f310.keep K307q)
            have f387 : Fld Z T307.heap b276 "com/example/eimer/eimer/cli/Latencies" "counts" "[J" (.ref ca_279) := ((((p279_1.ext E283).keep K289q (ninS ne284 nin0)).ext E297).keep K307q (ninS ne298 nin0))
            have f388 : Fld Z T307.heap b276 "com/example/eimer/eimer/cli/Latencies" "total" "J" (.long (0 : Int64)) := ((((p279_2.ext E283).keep K289q (ninS ne284 nin0)).ext E297).keep K307q (ninS ne298 nin0))
            have f389 : Arl Z T307.heap ca_279 .long (own_vs own_zero) := (f315.keep K307q (ninS ne302 nin0))
            obtain ⟨v390, T390, L390, X390, q390, st390⟩ := Ctr.virtual (y := (⟨"com/example/eimer/eimer/cli/Latencies", "record", "(J)V"⟩ : MethodName)) (rmR l Z a0 hw b276 q1 ca_279 (0 : Int64) own_zero T307.heap n0 (Nat.le_trans Z0 K318.1) f386 f387 f388 f389 ne281 g_b276 g_ca_279) X307 hx hZ rfl hown (wd hw 13 rfl) (wd hw 14 rfl) (notFace_of_selects (args := #[]) (mvT hZ (wd hw 16 rfl))) (wd hw 16 rfl) (wd hw 15 rfl) (wd hw 3 rfl) (wd hw 17 rfl) (by decide) f386 pd_231 (g := (mkF m 106 #[jv q1, sd, jv q2, sd, jv q3, sd, iv p4, iv p5, iv j1_0, iv j2_0, iv j3_0, iv v275, rv b276, rv b283, rv b297, un, un, un, un] [(.long q1), (.ref b276)])) rfl (by rw [hml]; rfl) (argsL := [(.long q1)]) (rest := []) rfl rfl rfl (W := 0) (by show 2 * 0 + _ ≤ _; exact Nat.le_of_eq rfl) (by decide) (by decide) (hb hby at_106) (by decide) (by decide)
            obtain ⟨rfl, N390q, K390q, p390_0, p390_1, p390_2⟩ := q390
            have N391 := Fr.app N308 N390q
            refine Wlk.of (fun _ k => st390 _ k) ?_
            have K392 : Keep h0 T390.heap [] := K318.trans K390q (allS (Or.inr sz_b276) (allS (Or.inr sz_ca_279) all0))
            show Wlk p.tables e below (T390.setTop (mkF m 109 #[jv q1, sd, jv q2, sd, jv q3, sd, iv p4, iv p5, iv j1_0, iv j2_0, iv j3_0, iv v275, rv b276, rv b283, rv b297, un, un, un, un] [])) K
            refine Wlk.of (fun _ k => XS.aload X390.here hx rfl (hb hby at_109) rfl rfl k) ?_
            show Wlk p.tables e below (T390.setTop (mkF m 111 #[jv q1, sd, jv q2, sd, jv q3, sd, iv p4, iv p5, iv j1_0, iv j2_0, iv j3_0, iv v275, rv b276, rv b283, rv b297, un, un, un, un] [(.ref b297)])) K
            refine Wlk.of (fun _ k => XS.lloadN X390.here hx rfl (hb hby at_111) rfl k) ?_
            show Wlk p.tables e below (T390.setTop (mkF m 112 #[jv q1, sd, jv q2, sd, jv q3, sd, iv p4, iv p5, iv j1_0, iv j2_0, iv j3_0, iv v275, rv b276, rv b283, rv b297, un, un, un, un] [(.long q1), (.ref b297)])) K
            have f393 : Exa Z T390.heap b297 "com/example/eimer/eimer/cli/Latencies" := ((A297.keep K307q).keep K390q)
            have f394 : Fld Z T390.heap b297 "com/example/eimer/eimer/cli/Latencies" "counts" "[J" (.ref ca_307) := (p307_1.keep K390q (ninS (Ne.symm ne298) (ninS (Ne.symm ne302) nin0)))
            have f395 : Fld Z T390.heap b297 "com/example/eimer/eimer/cli/Latencies" "total" "J" (.long (0 : Int64)) := (p307_2.keep K390q (ninS (Ne.symm ne298) (ninS (Ne.symm ne302) nin0)))
            have f396 : Arl Z T390.heap ca_307 .long (own_vs own_zero) := (p307_3.keep K390q (ninS (Ne.symm ne309) (ninS (Ne.symm ne314) nin0)))
            obtain ⟨v397, T397, L397, X397, q397, st397⟩ := Ctr.virtual (y := (⟨"com/example/eimer/eimer/cli/Latencies", "record", "(J)V"⟩ : MethodName)) (rmR l Z a0 hw b297 q1 ca_307 (0 : Int64) own_zero T390.heap n0 (Nat.le_trans Z0 K392.1) f393 f394 f395 f396 ne313 g_b297 g_ca_307) X390 hx hZ rfl hown (wd hw 13 rfl) (wd hw 14 rfl) (notFace_of_selects (args := #[]) (mvT hZ (wd hw 16 rfl))) (wd hw 16 rfl) (wd hw 15 rfl) (wd hw 3 rfl) (wd hw 17 rfl) (by decide) f393 pd_231 (g := (mkF m 112 #[jv q1, sd, jv q2, sd, jv q3, sd, iv p4, iv p5, iv j1_0, iv j2_0, iv j3_0, iv v275, rv b276, rv b283, rv b297, un, un, un, un] [(.long q1), (.ref b297)])) rfl (by rw [hml]; rfl) (argsL := [(.long q1)]) (rest := []) rfl rfl rfl (W := 0) (by show 2 * 0 + _ ≤ _; exact Nat.le_of_eq rfl) (by decide) (by decide) (hb hby at_112) (by decide) (by decide)
            obtain ⟨rfl, N397q, K397q, p397_0, p397_1, p397_2⟩ := q397
            have N398 := Fr.app N391 N397q
            refine Wlk.of (fun _ k => st397 _ k) ?_
            have K399 : Keep h0 T397.heap [] := K392.trans K397q (allS (Or.inr sz_b297) (allS (Or.inr sz_ca_307) all0))
            show Wlk p.tables e below (T397.setTop (mkF m 115 #[jv q1, sd, jv q2, sd, jv q3, sd, iv p4, iv p5, iv j1_0, iv j2_0, iv j3_0, iv v275, rv b276, rv b283, rv b297, un, un, un, un] [])) K
            have f400 : Exa Z T397.heap b276 "com/example/eimer/eimer/cli/Latencies" := ((f386.keep K390q).keep K397q)
            have f401 : Fld Z T397.heap b276 "com/example/eimer/eimer/cli/Latencies" "counts" "[J" (.ref ca_279) := (p390_0.keep K397q (ninS ne298 (ninS ne309 nin0)))
            have f402 : Fld Z T397.heap b276 "com/example/eimer/eimer/cli/Latencies" "total" "J" (.long ((0 : Int64) + (1 : Int64))) := (p390_1.keep K397q (ninS ne298 (ninS ne309 nin0)))
            have f403 : Arl Z T397.heap ca_279 .long (own_vs (own_inc own_zero (own_in q1))) := (p390_2.keep K397q (ninS ne302 (ninS ne314 nin0)))
            have f404 : Exa Z T397.heap b283 "com/example/eimer/eimer/cli/Latencies" := (((f312.keep K307q).keep K390q).keep K397q)
            have f405 : Fld Z T397.heap b283 "com/example/eimer/eimer/cli/Latencies" "counts" "[J" (.ref ca_289) := ((((p289_1.ext E297).keep K307q (ninS ne300 nin0)).keep K390q (ninS (Ne.symm ne284) (ninS (Ne.symm ne286) nin0))).keep K397q (ninS ne300 (ninS ne311 nin0)))
            have f406 : Fld Z T397.heap b283 "com/example/eimer/eimer/cli/Latencies" "total" "J" (.long (0 : Int64)) := ((((p289_2.ext E297).keep K307q (ninS ne300 nin0)).keep K390q (ninS (Ne.symm ne284) (ninS (Ne.symm ne286) nin0))).keep K397q (ninS ne300 (ninS ne311 nin0)))
            have f407 : Arl Z T397.heap ca_289 .long (own_vs own_zero) := (((f317.keep K307q (ninS ne304 nin0)).keep K390q (ninS (Ne.symm ne291) (ninS (Ne.symm ne294) nin0))).keep K397q (ninS ne304 (ninS ne316 nin0)))
            have f408 : Exa Z T397.heap b297 "com/example/eimer/eimer/cli/Latencies" := (f393.keep K397q)
            exact J319 _ _ _ ((0 : Int64) + (1 : Int64)) (own_inc own_zero (own_in q1)) ((0 : Int64) + (1 : Int64)) (own_inc own_zero (own_in q1)) (by rw [if_neg hc376]) (by rw [if_neg hc376]) (by rw [if_neg hc376]) (by rw [if_neg hc376]) (X397.more (by decide) (by decide)) rfl N398 K399 f400 f401 f402 f403 f404 f405 f406 f407 f408 p397_0 p397_1 p397_2
      by_cases hc409 : (p4 &&& (4 : Int32)) = (0 : Int32)
      · refine Wlk.of (fun _ k => XS.ifYes X2.here hx rfl (pc0 := 32) (pc' := 39) rfl (hb hby at_32) rfl ((if0 _ _).trans (teq hc409).1) (by decide) (by decide) k) ?_
        show Wlk p.tables e below (T2.setTop (mkF m 39 #[jv q1, sd, jv q2, sd, jv q3, sd, iv p4, iv p5, iv j1_0, iv j2_0, un, un, un, un, un, un, un, un, un] [])) K
        refine Wlk.of (fun _ k => XS.iconst X2.here hx rfl (hb hby at_39) k) ?_
        show Wlk p.tables e below (T2.setTop (mkF m 40 #[jv q1, sd, jv q2, sd, jv q3, sd, iv p4, iv p5, iv j1_0, iv j2_0, un, un, un, un, un, un, un, un, un] [(.int (0 : Int32))])) K
        exact J3 _ X2 e2 _ (by rw [if_pos hc409])
      · refine Wlk.of (fun _ k => XS.ifNo X2.here hx rfl (hb hby at_32) rfl ((if0 _ _).trans (feq hc409).1) k) ?_
        show Wlk p.tables e below (T2.setTop (mkF m 35 #[jv q1, sd, jv q2, sd, jv q3, sd, iv p4, iv p5, iv j1_0, iv j2_0, un, un, un, un, un, un, un, un, un] [])) K
        refine Wlk.of (fun _ k => XS.iconst X2.here hx rfl (hb hby at_35) k) ?_
        show Wlk p.tables e below (T2.setTop (mkF m 36 #[jv q1, sd, jv q2, sd, jv q3, sd, iv p4, iv p5, iv j1_0, iv j2_0, un, un, un, un, un, un, un, un, un] [(.int (1 : Int32))])) K
        refine Wlk.of (fun _ k => XS.goto X2.here hx rfl (pc0 := 36) (pc' := 40) rfl (hb hby at_36) (by decide) (by decide) k) ?_
        show Wlk p.tables e below (T2.setTop (mkF m 40 #[jv q1, sd, jv q2, sd, jv q3, sd, iv p4, iv p5, iv j1_0, iv j2_0, un, un, un, un, un, un, un, un, un] [(.int (1 : Int32))])) K
        exact J3 _ X2 e2 _ (by rw [if_neg hc409])
    by_cases hc410 : (p4 &&& (2 : Int32)) = (0 : Int32)
    · refine Wlk.of (fun _ k => XS.ifYes X1.here hx rfl (pc0 := 18) (pc' := 25) rfl (hb hby at_18) rfl ((if0 _ _).trans (teq hc410).1) (by decide) (by decide) k) ?_
      show Wlk p.tables e below (T1.setTop (mkF m 25 #[jv q1, sd, jv q2, sd, jv q3, sd, iv p4, iv p5, iv j1_0, un, un, un, un, un, un, un, un, un, un] [])) K
      refine Wlk.of (fun _ k => XS.iconst X1.here hx rfl (hb hby at_25) k) ?_
      show Wlk p.tables e below (T1.setTop (mkF m 26 #[jv q1, sd, jv q2, sd, jv q3, sd, iv p4, iv p5, iv j1_0, un, un, un, un, un, un, un, un, un, un] [(.int (0 : Int32))])) K
      exact J2 _ X1 e1 _ (by rw [if_pos hc410])
    · refine Wlk.of (fun _ k => XS.ifNo X1.here hx rfl (hb hby at_18) rfl ((if0 _ _).trans (feq hc410).1) k) ?_
      show Wlk p.tables e below (T1.setTop (mkF m 21 #[jv q1, sd, jv q2, sd, jv q3, sd, iv p4, iv p5, iv j1_0, un, un, un, un, un, un, un, un, un, un] [])) K
      refine Wlk.of (fun _ k => XS.iconst X1.here hx rfl (hb hby at_21) k) ?_
      show Wlk p.tables e below (T1.setTop (mkF m 22 #[jv q1, sd, jv q2, sd, jv q3, sd, iv p4, iv p5, iv j1_0, un, un, un, un, un, un, un, un, un, un] [(.int (1 : Int32))])) K
      refine Wlk.of (fun _ k => XS.goto X1.here hx rfl (pc0 := 22) (pc' := 26) rfl (hb hby at_22) (by decide) (by decide) k) ?_
      show Wlk p.tables e below (T1.setTop (mkF m 26 #[jv q1, sd, jv q2, sd, jv q3, sd, iv p4, iv p5, iv j1_0, un, un, un, un, un, un, un, un, un, un] [(.int (1 : Int32))])) K
      exact J2 _ X1 e1 _ (by rw [if_neg hc410])
  by_cases hc411 : (p4 &&& (1 : Int32)) = (0 : Int32)
  · refine Wlk.of (fun _ k => XS.ifYes X0.here hx rfl (pc0 := 4) (pc' := 11) rfl (hb hby at_4) rfl ((if0 _ _).trans (teq hc411).1) (by decide) (by decide) k) ?_
    show Wlk p.tables e below (s₁.setTop (mkF m 11 #[jv q1, sd, jv q2, sd, jv q3, sd, iv p4, iv p5, un, un, un, un, un, un, un, un, un, un, un] [])) K
    refine Wlk.of (fun _ k => XS.iconst X0.here hx rfl (hb hby at_11) k) ?_
    show Wlk p.tables e below (s₁.setTop (mkF m 12 #[jv q1, sd, jv q2, sd, jv q3, sd, iv p4, iv p5, un, un, un, un, un, un, un, un, un, un, un] [(.int (0 : Int32))])) K
    exact J1 _ X0 e0 _ (by rw [if_pos hc411])
  · refine Wlk.of (fun _ k => XS.ifNo X0.here hx rfl (hb hby at_4) rfl ((if0 _ _).trans (feq hc411).1) k) ?_
    show Wlk p.tables e below (s₁.setTop (mkF m 7 #[jv q1, sd, jv q2, sd, jv q3, sd, iv p4, iv p5, un, un, un, un, un, un, un, un, un, un, un] [])) K
    refine Wlk.of (fun _ k => XS.iconst X0.here hx rfl (hb hby at_7) k) ?_
    show Wlk p.tables e below (s₁.setTop (mkF m 8 #[jv q1, sd, jv q2, sd, jv q3, sd, iv p4, iv p5, un, un, un, un, un, un, un, un, un, un, un] [(.int (1 : Int32))])) K
    refine Wlk.of (fun _ k => XS.goto X0.here hx rfl (pc0 := 8) (pc' := 12) rfl (hb hby at_8) (by decide) (by decide) k) ?_
    show Wlk p.tables e below (s₁.setTop (mkF m 12 #[jv q1, sd, jv q2, sd, jv q3, sd, iv p4, iv p5, un, un, un, un, un, un, un, un, un, un, un] [(.int (1 : Int32))])) K
    exact J1 _ X0 e0 _ (by rw [if_neg hc411])
set_option maxRecDepth 65536 in
set_option maxHeartbeats 40000000 in
theorem comes_1 {Post : Tables → Env → Array Value → State → Outcome → State → Prop} (hpost : ∀ tb e args s v u, (limb_1_1.after args s (.returned v) u = true ∧ limb_1_2.after args s (.returned v) u = true ∧ True) → FrameEnd s (.returned v) u (Jvm.fieldLocs frame_1_writes args s ++ Jvm.arrayLocs frame_1_arrays args s ++ Jvm.staticLocs frame_1_statics s) 24 43904 → Post tb e args s (.returned v) u) :
    ArmFor flags0 classFile x code maxLocals ret World_1 tables_1 room_1 Calls_1 rest_1 Pre_1 Post := by
  intro l hfl _ _ p e ha hc hk s m args below hf hA hF happ hP
  obtain ⟨hcalls, hrest, hpre⟩ := hP
  obtain ⟨-, -, -, hnamed, -, -, -, hat⟩ := (Spec.applies_iff hf).mp happ
  obtain ⟨hg, hn⟩ := and_e (Cond.before_iff.mp (show (Jvm.Cond.and given_1 narrow_1).before args s = true from hpre))
  obtain ⟨g1, g2⟩ := and_e hg
  obtain ⟨g3, g4⟩ := and_e g2
  obtain ⟨g5, g6⟩ := and_e g4
  obtain ⟨g7, g8⟩ := and_e g6
  obtain ⟨g9, g10⟩ := and_e g8
  obtain ⟨w0, w1, w2, w3, w4, rfl⟩ : ∃ w0 w1 w2 w3 w4 : Value, args = #[w0, w1, w2, w3, w4] := by
    have hs : args.size = 5 := by simpa [Cond.value, given_1] using g1
    obtain ⟨L⟩ := args
    match L, hs with
    | [w0, w1, w2, w3, w4], _ => exact ⟨w0, w1, w2, w3, w4, rfl⟩
  have hw := fun d (hd : d ∈ tables_1) => atoms_spec (ws := Jvm.Cond.code x code maxLocals ret :: tables_1) hat d (List.mem_cons_of_mem _ hd)
  have hfit : Fit s := fun {y c} hc i hi => by
    obtain ⟨ha, rfl⟩ := Array.getElem?_eq_some_iff.mp hc
    have q := List.all_eq_true.mp ((Array.all_eq_true_iff_forall_mem.mp hF) _ (Array.getElem_mem ha)) i (List.mem_range.mpr hi)
    simpa [Array.getElem?_eq_getElem hi] using q
  obtain ⟨i0, ei0⟩ := isL_v g3
  obtain rfl : w0 = (.long i0) := Option.some.inj ei0
  obtain ⟨i1, ei1⟩ := isL_v g5
  obtain rfl : w1 = (.long i1) := Option.some.inj ei1
  obtain ⟨i2, ei2⟩ := isL_v g7
  obtain rfl : w2 = (.long i2) := Option.some.inj ei2
  obtain ⟨i3, ei3⟩ := is_v g9
  obtain rfl : w3 = (.int i3) := Option.some.inj ei3
  obtain ⟨i4, ei4⟩ := is_v g10
  obtain rfl : w4 = (.int i4) := Option.some.inj ei4
  obtain ⟨n, o, h1, h2, h3, _, L, rfl, ⟨rfl, N⟩, hq⟩ := rm0 l s _ hw tables_1 i0 i1 i2 i3 i4  s.heap s.heap.size (Nat.le_refl _)  p e ha hc hk s m _ below hf ((Spec.applies_iff_loose hf).mp happ).1 ⟨rfl, State.Warmed39.refl s, rfl⟩ trivial
  refine ⟨n, _, h1, h2, h3, hpost _ _ _ _ _ _ ⟨Cond.after_iff.mpr rfl, Cond.after_iff.mpr (eq_i res_at (Term.int_eval (1)) rfl), trivial⟩ ⟨hq.1, hq.2.1, (hq.2.2.sift fun y hy => Or.inr (N y hy)).mono (by decide) (by decide)⟩⟩
theorem main_1_1 : Claimed_1_1 := comes_1 fun _ _ _ _ _ _ h hF => ⟨h.1, hF⟩
theorem main_1_2 : Claimed_1_2 := comes_1 fun _ _ _ _ _ _ h hF => ⟨h.2.1, hF⟩
end Jvm.Pilot.@@N@@
namespace Jvm.Pilot.@@N@@
open Jvm Jvm.ClassFile Sem Op Lib Jvm.Free Jvm.Stand Jvm.Pilot.@@N@@.Jvm.D
/-! MADE BY PROGRAM (witnessworld.py) out of the Statement's table words and the real class files: 18 classes; the members and pool entries that the words name. The judged class is class 1, her method 1. -/
namespace start1
open Jvm.ClassFile
def u (s : String) : CpInfo := .utf8 (stringToUtf16 s)
/-- a pool by its gaps: so many unusable entries, then the entry; so many at the end -/
def gap : Nat → List CpInfo → List CpInfo
  | 0, r => r
  | n + 1, r => .unusable :: gap n r
def poolList (es : List (Nat × CpInfo)) (last : Nat) : List CpInfo := es.foldr (fun e r => gap e.1 (e.2 :: r)) (gap last [])
def pool (es : List (Nat × CpInfo)) (last : Nat) : Array CpInfo := ⟨poolList es last⟩
def fileOf (pool : Array CpInfo) (this : Nat) (attrs : Array Attribute := #[]) (ms : Array MethodInfo := #[]) (fl : Nat := 33) (sup : Nat := 0) (ifs : Array Nat := #[]) (fds : Array FieldInfo := #[]) : ClassFile where
  minorVersion := 0
  majorVersion := 65
  constantPool := pool
  accessFlags := fl
  thisClass := this
  superClass := sup
  interfaces := ifs
  fields := fds
  methods := ms
  attributes := attrs
def plain (name : String) (sup : Option ClassId) : Class where
  name := name
  kind := .ordinary
  loader := none
  accessFlags := 33
  super := sup
  interfaces := #[]
  cf := none
  fields := #[]
  methods := #[]
  instanceTypes := #[]
  staticTypes := #[]
  resolved := #[]
  callSites := []
  init := .initialized
  statics := none
  mirror := none

def pool0 : Array CpInfo := pool [(5, u "<init>"), (0, u "()V"), (1, .class_ 10), (1, u "java/lang/Object")] 113

def k0c0 : Code := { maxStack := 0, maxLocals := 1, code := object_method_1_code, exceptionTable := #[], attributes := #[] }
def k0m0 : Method := { name := "<init>", desc := "()V", sig := { parameters := [], returnType := none }, accessFlags := 1, code := some k0c0 }
/-- java/lang/Object -/
def k0 : Class := { plain "java/lang/Object" none with
  accessFlags := 33
  interfaces := #[]
  cf := some (fileOf pool0 8 #[] #[{ accessFlags := 1, nameIndex := 5, descriptorIndex := 6, attributes := #[] }] 33 0 #[] #[])
  fields := #[]
  methods := #[k0m0]
  instanceTypes := #[]
  staticTypes := #[]
  resolved := Array.replicate 124 none
  statics := none }

def pool1 : Array CpInfo := pool [(2, .class_ 4), (0, .nameAndType 5 6), (0, u "java/lang/Object"), (0, u "<init>"), (0, u "()V"), (0, .integer 2147483647), (0, .class_ 9), (0, u "com/example/eimer/eimer/cli/Latencies"), (0, .methodref 8 3), (0, .methodref 8 12), (0, .nameAndType 13 14), (0, u "record"), (0, u "(J)V"), (0, .methodref 8 16), (0, .nameAndType 17 18), (0, u "add"), (0, u "(Lcom/example/eimer/eimer/cli/Latencies;)V"), (0, .methodref 8 20), (0, .nameAndType 21 22), (0, u "percentile"), (0, u "(I)D"), (0, .class_ 24), (0, u "com/example/eimer/eimer/cli/LatenciesAddPinLaw"), (2, u "law"), (0, u "(JJJII)Z")] 3

def k1m0 : Method := { name := "<init>", desc := "()V", sig := { parameters := [], returnType := none }, accessFlags := 1, code := none }
def k1c1 : Code := { maxStack := 4, maxLocals := 19, code := code, exceptionTable := #[], attributes := #[] }
def k1m1 : Method := { name := "law", desc := "(JJJII)Z", sig := { parameters := [.long, .long, .long, .int, .int], returnType := some .boolean }, accessFlags := 9, code := some k1c1 }
/-- com/example/eimer/eimer/cli/LatenciesAddPinLaw -/
def k1 : Class := { plain "com/example/eimer/eimer/cli/LatenciesAddPinLaw" (some 0) with
  accessFlags := 49
  interfaces := #[]
  cf := some (fileOf pool1 23 #[] #[{ accessFlags := 1, nameIndex := 5, descriptorIndex := 6, attributes := #[] }, { accessFlags := 9, nameIndex := 27, descriptorIndex := 28, attributes := #[] }] 49 2 #[] #[])
  fields := #[]
  methods := #[k1m0, k1m1]
  instanceTypes := #[]
  staticTypes := #[]
  resolved := Array.replicate 32 none
  statics := none }

def pool2 : Array CpInfo := pool [(1, .class_ 2), (0, u "com/example/eimer/eimer/cli/Latencies"), (0, .methodref 4 5), (0, .class_ 6), (0, .nameAndType 7 8), (0, u "java/lang/Object"), (0, u "<init>"), (0, u "()V"), (0, .fieldref 1 10), (0, .nameAndType 11 12), (0, u "counts"), (0, u "[J"), (0, .methodref 14 15), (0, .class_ 16), (0, .nameAndType 17 18), (0, u "java/lang/Math"), (0, u "max"), (0, u "(JJ)J"), (0, .methodref 20 21), (0, .class_ 22), (0, .nameAndType 23 24), (0, u "java/lang/Long"), (0, u "numberOfLeadingZeros"), (0, u "(J)I"), (0, .methodref 14 26), (0, .nameAndType 17 27), (0, u "(II)I"), (0, .fieldref 1 29), (0, .nameAndType 30 31), (0, u "total"), (0, u "J"), (7, .long 100), (1, .long 99), (1, .double 4611686018427387904), (1, u "SLOT_BITS"), (0, u "I"), (2, u "SLOTS"), (3, u "record"), (0, u "(J)V"), (0, u "add"), (0, u "(Lcom/example/eimer/eimer/cli/Latencies;)V"), (1, u "percentile"), (0, u "(I)D")] 2

def k2c0 : Code := { maxStack := 2, maxLocals := 1, code := prog_42_method_1_code, exceptionTable := #[], attributes := #[] }
def k2m0 : Method := { name := "<init>", desc := "()V", sig := { parameters := [], returnType := none }, accessFlags := 0, code := some k2c0 }
def k2c1 : Code := { maxStack := 6, maxLocals := 6, code := prog_42_method_2_code, exceptionTable := #[], attributes := #[] }
def k2m1 : Method := { name := "record", desc := "(J)V", sig := { parameters := [.long], returnType := none }, accessFlags := 0, code := some k2c1 }
def k2c2 : Code := { maxStack := 6, maxLocals := 3, code := prog_42_method_3_code, exceptionTable := #[], attributes := #[] }
def k2m2 : Method := { name := "add", desc := "(Lcom/example/eimer/eimer/cli/Latencies;)V", sig := { parameters := [(.object "com/example/eimer/eimer/cli/Latencies")], returnType := none }, accessFlags := 0, code := some k2c2 }
def k2c3 : Code := { maxStack := 6, maxLocals := 8, code := prog_42_method_4_code, exceptionTable := #[], attributes := #[] }
def k2m3 : Method := { name := "percentile", desc := "(I)D", sig := { parameters := [.int], returnType := some .double }, accessFlags := 0, code := some k2c3 }
/-- com/example/eimer/eimer/cli/Latencies -/
def k2 : Class := { plain "com/example/eimer/eimer/cli/Latencies" (some 0) with
  accessFlags := 32
  interfaces := #[]
  cf := some (fileOf pool2 1 #[] #[{ accessFlags := 0, nameIndex := 7, descriptorIndex := 8, attributes := #[] }, { accessFlags := 0, nameIndex := 53, descriptorIndex := 54, attributes := #[] }, { accessFlags := 0, nameIndex := 55, descriptorIndex := 56, attributes := #[] }, { accessFlags := 0, nameIndex := 58, descriptorIndex := 59, attributes := #[] }] 32 4 #[] #[{ accessFlags := 26, nameIndex := 45, descriptorIndex := 46, attributes := #[] }, { accessFlags := 26, nameIndex := 49, descriptorIndex := 46, attributes := #[] }, { accessFlags := 18, nameIndex := 11, descriptorIndex := 12, attributes := #[] }, { accessFlags := 2, nameIndex := 30, descriptorIndex := 31, attributes := #[] }])
  fields := #[{ name := "SLOT_BITS", type := .int, accessFlags := 26, slot := 0, constantValue := 0 }, { name := "SLOTS", type := .int, accessFlags := 26, slot := 1, constantValue := 0 }, { name := "counts", type := (.array .long), accessFlags := 18, slot := 0, constantValue := 0 }, { name := "total", type := .long, accessFlags := 2, slot := 1, constantValue := 0 }]
  methods := #[k2m0, k2m1, k2m2, k2m3]
  instanceTypes := #[(.array .long), .long]
  staticTypes := #[.int, .int]
  resolved := Array.replicate 62 none
  statics := none }

def pool3 : Array CpInfo := pool [(1, .class_ 2), (0, u "java/lang/Math"), (1, .class_ 6), (1, u "java/lang/Object"), (0, u "<init>"), (0, u "()V"), (89, .class_ 100), (1, u "java/lang/Math$RandomNumberGeneratorHolder"), (20, u "(JJ)J"), (50, u "negativeZeroFloatBits"), (0, u "J"), (2, u "negativeZeroDoubleBits"), (21, u "max"), (46, u "$assertionsDisabled"), (0, u "Z"), (88, u "(II)I"), (2, u "twoToTheDoubleScaleDown"), (0, u "D"), (4, u "twoToTheDoubleScaleUp"), (9, u "E"), (3, u "PI"), (2, u "TAU"), (2, u "DEGREES_TO_RADIANS"), (0, u "RADIANS_TO_DEGREES")] 94

def k3m0 : Method := { name := "<init>", desc := "()V", sig := { parameters := [], returnType := none }, accessFlags := 2, code := none }
def k3c1 : Code := { maxStack := 2, maxLocals := 2, code := jdk_29_method_65_code, exceptionTable := #[], attributes := #[] }
def k3m1 : Method := { name := "max", desc := "(II)I", sig := { parameters := [.int, .int], returnType := some .int }, accessFlags := 9, code := some k3c1 }
def k3c2 : Code := { maxStack := 4, maxLocals := 4, code := jdk_29_method_66_code, exceptionTable := #[], attributes := #[] }
def k3m2 : Method := { name := "max", desc := "(JJ)J", sig := { parameters := [.long, .long], returnType := some .long }, accessFlags := 9, code := some k3c2 }
/-- java/lang/Math -/
def k3 : Class := { plain "java/lang/Math" (some 0) with
  accessFlags := 49
  interfaces := #[]
  cf := some (fileOf pool3 1 #[.nestMembers #[98]] #[{ accessFlags := 2, nameIndex := 7, descriptorIndex := 8, attributes := #[] }, { accessFlags := 9, nameIndex := 198, descriptorIndex := 335, attributes := #[] }, { accessFlags := 9, nameIndex := 198, descriptorIndex := 121, attributes := #[] }] 49 4 #[] #[{ accessFlags := 25, nameIndex := 354, descriptorIndex := 339, attributes := #[] }, { accessFlags := 25, nameIndex := 358, descriptorIndex := 339, attributes := #[] }, { accessFlags := 25, nameIndex := 361, descriptorIndex := 339, attributes := #[] }, { accessFlags := 26, nameIndex := 364, descriptorIndex := 339, attributes := #[] }, { accessFlags := 26, nameIndex := 365, descriptorIndex := 339, attributes := #[] }, { accessFlags := 26, nameIndex := 172, descriptorIndex := 173, attributes := #[] }, { accessFlags := 26, nameIndex := 176, descriptorIndex := 173, attributes := #[] }, { accessFlags := 8, nameIndex := 344, descriptorIndex := 339, attributes := #[] }, { accessFlags := 8, nameIndex := 338, descriptorIndex := 339, attributes := #[] }, { accessFlags := 4120, nameIndex := 245, descriptorIndex := 246, attributes := #[] }])
  fields := #[{ name := "E", type := .double, accessFlags := 25, slot := 0, constantValue := 0 }, { name := "PI", type := .double, accessFlags := 25, slot := 1, constantValue := 0 }, { name := "TAU", type := .double, accessFlags := 25, slot := 2, constantValue := 0 }, { name := "DEGREES_TO_RADIANS", type := .double, accessFlags := 26, slot := 3, constantValue := 0 }, { name := "RADIANS_TO_DEGREES", type := .double, accessFlags := 26, slot := 4, constantValue := 0 }, { name := "negativeZeroFloatBits", type := .long, accessFlags := 26, slot := 5, constantValue := 0 }, { name := "negativeZeroDoubleBits", type := .long, accessFlags := 26, slot := 6, constantValue := 0 }, { name := "twoToTheDoubleScaleUp", type := .double, accessFlags := 8, slot := 7, constantValue := 0 }, { name := "twoToTheDoubleScaleDown", type := .double, accessFlags := 8, slot := 8, constantValue := 0 }, { name := "$assertionsDisabled", type := .boolean, accessFlags := 4120, slot := 9, constantValue := 0 }]
  methods := #[k3m0, k3m1, k3m2]
  instanceTypes := #[]
  staticTypes := #[.double, .double, .double, .double, .double, .long, .long, .double, .double, .boolean]
  resolved := Array.replicate 460 none
  statics := none }

def pool4 : Array CpInfo := pool [(1, .class_ 2), (0, u "java/io/Serializable"), (0, .class_ 4), (0, u "java/lang/Object")] 2

/-- java/io/Serializable -/
def k4 : Class := { plain "java/io/Serializable" (some 0) with
  accessFlags := 1537
  interfaces := #[]
  cf := some (fileOf pool4 1 #[] #[] 1537 3 #[] #[])
  fields := #[]
  methods := #[]
  instanceTypes := #[]
  staticTypes := #[]
  resolved := Array.replicate 7 none
  statics := none }

def pool5 : Array CpInfo := pool [(2, .class_ 4), (1, u "java/lang/Object"), (0, u "<init>"), (0, u "()V"), (1, .class_ 10), (1, u "java/lang/Number"), (2, .class_ 14), (0, u "java/io/Serializable"), (0, u "serialVersionUID"), (0, u "J")] 20

def k5m0 : Method := { name := "<init>", desc := "()V", sig := { parameters := [], returnType := none }, accessFlags := 1, code := none }
/-- java/lang/Number -/
def k5 : Class := { plain "java/lang/Number" (some 0) with
  accessFlags := 1057
  interfaces := #[4]
  cf := some (fileOf pool5 8 #[] #[{ accessFlags := 1, nameIndex := 5, descriptorIndex := 6, attributes := #[] }] 1057 2 #[13] #[{ accessFlags := 26, nameIndex := 15, descriptorIndex := 16, attributes := #[] }])
  fields := #[{ name := "serialVersionUID", type := .long, accessFlags := 26, slot := 0, constantValue := 0 }]
  methods := #[k5m0]
  instanceTypes := #[]
  staticTypes := #[.long]
  resolved := Array.replicate 37 none
  statics := none }

def pool6 : Array CpInfo := pool [(1, .class_ 2), (0, u "java/lang/Comparable"), (0, .class_ 4), (0, u "java/lang/Object")] 7

/-- java/lang/Comparable -/
def k6 : Class := { plain "java/lang/Comparable" (some 0) with
  accessFlags := 1537
  interfaces := #[]
  cf := some (fileOf pool6 1 #[] #[] 1537 3 #[] #[])
  fields := #[]
  methods := #[]
  instanceTypes := #[]
  staticTypes := #[]
  resolved := Array.replicate 12 none
  statics := none }

def pool7 : Array CpInfo := pool [(1, .class_ 2), (0, u "java/lang/constant/Constable"), (0, .class_ 4), (0, u "java/lang/Object")] 6

/-- java/lang/constant/Constable -/
def k7 : Class := { plain "java/lang/constant/Constable" (some 0) with
  accessFlags := 1537
  interfaces := #[]
  cf := some (fileOf pool7 1 #[] #[] 1537 3 #[] #[])
  fields := #[]
  methods := #[]
  instanceTypes := #[]
  staticTypes := #[]
  resolved := Array.replicate 11 none
  statics := none }

def pool8 : Array CpInfo := pool [(1, .class_ 2), (0, u "java/lang/constant/ConstantDesc"), (0, .class_ 4), (0, u "java/lang/Object")] 32

/-- java/lang/constant/ConstantDesc -/
def k8 : Class := { plain "java/lang/constant/ConstantDesc" (some 0) with
  accessFlags := 1537
  interfaces := #[]
  cf := some (fileOf pool8 1 #[] #[] 1537 3 #[] #[])
  fields := #[]
  methods := #[]
  instanceTypes := #[]
  staticTypes := #[]
  resolved := Array.replicate 37 none
  statics := none }

def pool9 : Array CpInfo := pool [(1, .class_ 2), (0, u "java/lang/Long"), (15, .class_ 20), (1, u "java/lang/Integer"), (79, u "numberOfLeadingZeros"), (0, u "(J)I"), (133, .class_ 237), (1, u "java/lang/Long$LongCache"), (33, .class_ 272), (0, u "java/lang/Number"), (2, u "value"), (0, u "J"), (31, .methodref 18 309), (0, .nameAndType 100 310), (0, u "(I)I"), (50, u "TYPE"), (0, u "Ljava/lang/Class;"), (0, .class_ 364), (0, u "java/lang/Comparable"), (0, .class_ 366), (0, u "java/lang/constant/Constable"), (0, .class_ 368), (0, u "java/lang/constant/ConstantDesc"), (0, u "MIN_VALUE"), (1, u "MAX_VALUE"), (4, u "SIZE"), (0, u "I"), (1, u "BYTES"), (1, u "serialVersionUID")] 142

def k9c0 : Code := { maxStack := 3, maxLocals := 3, code := jdk_35_method_48_code, exceptionTable := #[], attributes := #[] }
def k9m0 : Method := { name := "numberOfLeadingZeros", desc := "(J)I", sig := { parameters := [.long], returnType := some .int }, accessFlags := 9, code := some k9c0 }
/-- java/lang/Long -/
def k9 : Class := { plain "java/lang/Long" (some 5) with
  accessFlags := 49
  interfaces := #[6, 7, 8]
  cf := some (fileOf pool9 1 #[.nestMembers #[235]] #[{ accessFlags := 9, nameIndex := 100, descriptorIndex := 101, attributes := #[] }] 49 271 #[363, 365, 367] #[{ accessFlags := 25, nameIndex := 369, descriptorIndex := 276, attributes := #[] }, { accessFlags := 25, nameIndex := 371, descriptorIndex := 276, attributes := #[] }, { accessFlags := 25, nameIndex := 361, descriptorIndex := 362, attributes := #[] }, { accessFlags := 18, nameIndex := 275, descriptorIndex := 276, attributes := #[] }, { accessFlags := 25, nameIndex := 376, descriptorIndex := 377, attributes := #[] }, { accessFlags := 25, nameIndex := 379, descriptorIndex := 377, attributes := #[] }, { accessFlags := 26, nameIndex := 381, descriptorIndex := 276, attributes := #[] }])
  fields := #[{ name := "MIN_VALUE", type := .long, accessFlags := 25, slot := 0, constantValue := 0 }, { name := "MAX_VALUE", type := .long, accessFlags := 25, slot := 1, constantValue := 0 }, { name := "TYPE", type := (.object "java/lang/Class"), accessFlags := 25, slot := 2, constantValue := 0 }, { name := "value", type := .long, accessFlags := 18, slot := 0, constantValue := 0 }, { name := "SIZE", type := .int, accessFlags := 25, slot := 3, constantValue := 0 }, { name := "BYTES", type := .int, accessFlags := 25, slot := 4, constantValue := 0 }, { name := "serialVersionUID", type := .long, accessFlags := 26, slot := 5, constantValue := 0 }]
  methods := #[k9m0]
  instanceTypes := #[.long]
  staticTypes := #[.long, .long, (.object "java/lang/Class"), .int, .int, .long]
  resolved := Array.replicate 524 none
  statics := none }

def pool10 : Array CpInfo := pool [(1, .class_ 2), (0, u "java/lang/Integer"), (16, u "digits"), (0, u "[C"), (32, u "numberOfLeadingZeros"), (0, u "(I)I"), (30, u "DigitOnes"), (0, u "[B"), (2, u "DigitTens"), (99, .class_ 190), (0, u "java/lang/Integer$IntegerCache"), (3, u "I"), (8, .class_ 204), (0, u "java/lang/Number"), (2, u "value"), (56, .integer 65536), (37, u "TYPE"), (0, u "Ljava/lang/Class;"), (0, .class_ 305), (0, u "java/lang/Comparable"), (0, .class_ 307), (0, u "java/lang/constant/Constable"), (0, .class_ 309), (0, u "java/lang/constant/ConstantDesc"), (0, u "MIN_VALUE"), (1, u "MAX_VALUE"), (3, u "SIZE"), (1, u "BYTES"), (1, u "serialVersionUID"), (0, u "J")] 131

def k10c0 : Code := { maxStack := 3, maxLocals := 2, code := jdk_33_method_47_code, exceptionTable := #[], attributes := #[] }
def k10m0 : Method := { name := "numberOfLeadingZeros", desc := "(I)I", sig := { parameters := [.int], returnType := some .int }, accessFlags := 9, code := some k10c0 }
/-- java/lang/Integer -/
def k10 : Class := { plain "java/lang/Integer" (some 5) with
  accessFlags := 49
  interfaces := #[6, 7, 8]
  cf := some (fileOf pool10 1 #[.nestMembers #[189]] #[{ accessFlags := 9, nameIndex := 53, descriptorIndex := 54, attributes := #[] }] 49 203 #[304, 306, 308] #[{ accessFlags := 25, nameIndex := 310, descriptorIndex := 194, attributes := #[] }, { accessFlags := 25, nameIndex := 312, descriptorIndex := 194, attributes := #[] }, { accessFlags := 25, nameIndex := 302, descriptorIndex := 303, attributes := #[] }, { accessFlags := 24, nameIndex := 19, descriptorIndex := 20, attributes := #[] }, { accessFlags := 24, nameIndex := 89, descriptorIndex := 86, attributes := #[] }, { accessFlags := 24, nameIndex := 85, descriptorIndex := 86, attributes := #[] }, { accessFlags := 18, nameIndex := 207, descriptorIndex := 194, attributes := #[] }, { accessFlags := 25, nameIndex := 316, descriptorIndex := 194, attributes := #[] }, { accessFlags := 25, nameIndex := 318, descriptorIndex := 194, attributes := #[] }, { accessFlags := 26, nameIndex := 320, descriptorIndex := 321, attributes := #[] }])
  fields := #[{ name := "MIN_VALUE", type := .int, accessFlags := 25, slot := 0, constantValue := 0 }, { name := "MAX_VALUE", type := .int, accessFlags := 25, slot := 1, constantValue := 0 }, { name := "TYPE", type := (.object "java/lang/Class"), accessFlags := 25, slot := 2, constantValue := 0 }, { name := "digits", type := (.array .char), accessFlags := 24, slot := 3, constantValue := 0 }, { name := "DigitTens", type := (.array .byte), accessFlags := 24, slot := 4, constantValue := 0 }, { name := "DigitOnes", type := (.array .byte), accessFlags := 24, slot := 5, constantValue := 0 }, { name := "value", type := .int, accessFlags := 18, slot := 0, constantValue := 0 }, { name := "SIZE", type := .int, accessFlags := 25, slot := 6, constantValue := 0 }, { name := "BYTES", type := .int, accessFlags := 25, slot := 7, constantValue := 0 }, { name := "serialVersionUID", type := .long, accessFlags := 26, slot := 8, constantValue := 0 }]
  methods := #[k10m0]
  instanceTypes := #[.int]
  staticTypes := #[.int, .int, (.object "java/lang/Class"), (.array .char), (.array .byte), (.array .byte), .int, .int, .long]
  resolved := Array.replicate 453 none
  statics := none }

def pool11 : Array CpInfo := pool [(1, u "java/lang/Cloneable"), (0, .class_ 1), (0, u "java/lang/Object"), (0, .class_ 3)] 3

/-- java/lang/Cloneable -/
def k11 : Class := { plain "java/lang/Cloneable" (some 0) with
  accessFlags := 1537
  interfaces := #[]
  cf := some (fileOf pool11 2 #[] #[] 1537 4 #[] #[])
  fields := #[]
  methods := #[]
  instanceTypes := #[]
  staticTypes := #[]
  resolved := Array.replicate 8 none
  statics := none }

/-- the primitive byte -/
def k12 : Class := { plain "byte" none with kind := .primitive 'B', accessFlags := 0x411 }
/-- [B -/
def k13 : Class := { plain "[B" (some 0) with kind := .array 12 .byte, interfaces := #[11, 4], accessFlags := 1041 }

/-- the primitive int -/
def k14 : Class := { plain "int" none with kind := .primitive 'I', accessFlags := 0x411 }
/-- [I -/
def k15 : Class := { plain "[I" (some 0) with kind := .array 14 .int, interfaces := #[11, 4], accessFlags := 1041 }

/-- the primitive long -/
def k16 : Class := { plain "long" none with kind := .primitive 'J', accessFlags := 0x411 }
/-- [J -/
def k17 : Class := { plain "[J" (some 0) with kind := .array 16 .long, interfaces := #[11, 4], accessFlags := 1041 }

def heap : Heap := #[]
def classes : Array Class := #[k0, k1, k2, k3, k4, k5, k6, k7, k8, k9, k10, k11, k12, k13, k14, k15, k16, k17]
def interned : List (Array UInt16 × Addr) := []
def slotsUsed : Nat := 0
def theMethod : MethodId := ⟨1, 1⟩
def args0 : Array Value := #[.long 5, .long 3, .long 4, .int 6, .int 9]
def aboutOver (below : List Frame) : State where
  vm := { classes := classes, interned := interned.toArray }
  heap := heap
  slotsUsed := slotsUsed
  threads := #[{ frames := .invoking theMethod args0 :: below }]
def below0 : List Frame := [.native { method := ⟨0, 0⟩, args := #[] }]
def about1 : State := aboutOver below0
def p0 : Program := .bare "" "" ""
def e0 : Env := launch0.env 0 0 0
theorem w_frames : about1.frames = Frame.invoking theMethod args0 :: below0 := rfl
set_option maxRecDepth 65536 in
theorem w_args : argsFit about1.vm theMethod args0 = true := by decide +kernel
set_option maxRecDepth 65536 in
theorem w_heap : heapFits about1 = true := by decide +kernel
set_option maxRecDepth 65536 in
theorem w_runnable : about1.curStatus? = some .runnable := by decide +kernel
set_option maxRecDepth 65536 in
theorem w_alone : about1.alone = true := by decide +kernel
set_option maxRecDepth 65536 in
theorem w_named : about1.methodNamed? x = some theMethod := by decide +kernel
set_option maxRecDepth 65536 in
theorem w_hears : about1.hears theMethod below0 = true := by decide +kernel
set_option maxRecDepth 65536 in
theorem w_ripe : about1.ripe theMethod args0 below0 = true := by decide +kernel
theorem w_running : about1.status = .running := rfl
set_option maxRecDepth 65536 in
theorem w_room : about1.hasRoom e0.platform room_1 = true :=
  launch0.hasRoom_least _ room_1 (by decide +kernel) (by decide +kernel) (by decide +kernel) (by decide +kernel) (by decide +kernel) (by decide +kernel)
theorem allAtoms_all (ts : List Jvm.Cond) (a : Array Jvm.Value) (st : Jvm.State) : (allAtoms ts).before a st = ts.all (fun c => c.before a st) := by
  induction ts with
  | nil => rfl
  | cons c t ih =>
    show (Jvm.Cond.and c (allAtoms t)).before a st = _
    rw [Jvm.Cond.before_and, ih, List.all_cons]
def words1 : List Jvm.Cond := Jvm.Cond.code x code maxLocals ret :: tables_1
/-- a 'code' word, met by the world's own term for the bytes: nothing is compared byte by byte -/
theorem code_word {y : MethodName} {bytes : ByteArray} {mx : Nat} {rt : Option FieldType} {a : Array Value} {s : State} {m : MethodId} {meth : Method} {c : Code} (h1 : s.methodNamed? y = some m) (h2 : s.vm.method? m = some meth) (h3 : meth.code = some c) (h4 : c.code = bytes)
    (h5 : (c.maxLocals == mx && c.exceptionTable.isEmpty && decide (c.maxStack ≤ mostOperands) && decide (meth.sig.returnType = rt) && !meth.locks && decide (parseMethodDescriptor y.desc = some meth.sig)) = true) : (Jvm.Cond.code y bytes mx rt).before a s = true := by
  simp only [Bool.and_eq_true, beq_iff_eq, Bool.not_eq_true', decide_eq_true_eq] at h5
  obtain ⟨⟨⟨⟨⟨g1, g2⟩, g3⟩, g4⟩, g5⟩, g6⟩ := h5
  simp [Cond.before, Cond.holds, Cond.value, h1, h2, h3, h4, g1, g2, g3, g4, g5, g6]
def isCode : Jvm.Cond → Bool
  | .code _ _ _ _ => true
  | _ => false
theorem all_split {L : List Jvm.Cond} {P : Jvm.Cond → Bool} (h1 : L.all (fun c => isCode c || P c) = true) (h2 : ∀ c ∈ L.filter isCode, P c = true) : L.all P = true := by
  refine List.all_eq_true.mpr fun c hc => ?_
  have h := List.all_eq_true.mp h1 c hc
  rcases Bool.eq_false_or_eq_true (isCode c) with hi | hi
  · exact h2 c (List.mem_filter.mpr ⟨hc, hi⟩)
  · simpa [hi] using h
set_option maxRecDepth 65536 in
theorem w_c0 : (Jvm.Cond.code x code maxLocals ret).before args0 about1 = true := code_word (m := ⟨1, 1⟩) (meth := k1m1) (c := k1c1) (by decide +kernel) rfl rfl rfl (by decide +kernel)
set_option maxRecDepth 65536 in
theorem w_c1 : (Jvm.Cond.code ({ cls := "com/example/eimer/eimer/cli/Latencies", name := "<init>", desc := "()V" } : Jvm.MethodName) prog_42_method_1_code (1 : Nat) (Option.none : Option Jvm.ClassFile.FieldType)).before args0 about1 = true := code_word (m := ⟨2, 0⟩) (meth := k2m0) (c := k2c0) (by decide +kernel) rfl rfl rfl (by decide +kernel)
set_option maxRecDepth 65536 in
theorem w_c2 : (Jvm.Cond.code ({ cls := "java/lang/Object", name := "<init>", desc := "()V" } : Jvm.MethodName) object_method_1_code (1 : Nat) (Option.none : Option Jvm.ClassFile.FieldType)).before args0 about1 = true := code_word (m := ⟨0, 0⟩) (meth := k0m0) (c := k0c0) (by decide +kernel) rfl rfl rfl (by decide +kernel)
set_option maxRecDepth 65536 in
theorem w_c3 : (Jvm.Cond.code ({ cls := "com/example/eimer/eimer/cli/Latencies", name := "record", desc := "(J)V" } : Jvm.MethodName) prog_42_method_2_code (6 : Nat) (Option.none : Option Jvm.ClassFile.FieldType)).before args0 about1 = true := code_word (m := ⟨2, 1⟩) (meth := k2m1) (c := k2c1) (by decide +kernel) rfl rfl rfl (by decide +kernel)
set_option maxRecDepth 65536 in
theorem w_c4 : (Jvm.Cond.code ({ cls := "java/lang/Math", name := "max", desc := "(JJ)J" } : Jvm.MethodName) jdk_29_method_66_code (4 : Nat) (Option.some Jvm.ClassFile.FieldType.long)).before args0 about1 = true := code_word (m := ⟨3, 2⟩) (meth := k3m2) (c := k3c2) (by decide +kernel) rfl rfl rfl (by decide +kernel)
set_option maxRecDepth 65536 in
theorem w_c5 : (Jvm.Cond.code ({ cls := "java/lang/Long", name := "numberOfLeadingZeros", desc := "(J)I" } : Jvm.MethodName) jdk_35_method_48_code (3 : Nat) (Option.some Jvm.ClassFile.FieldType.int)).before args0 about1 = true := code_word (m := ⟨9, 0⟩) (meth := k9m0) (c := k9c0) (by decide +kernel) rfl rfl rfl (by decide +kernel)
set_option maxRecDepth 65536 in
theorem w_c6 : (Jvm.Cond.code ({ cls := "java/lang/Integer", name := "numberOfLeadingZeros", desc := "(I)I" } : Jvm.MethodName) jdk_33_method_47_code (2 : Nat) (Option.some Jvm.ClassFile.FieldType.int)).before args0 about1 = true := code_word (m := ⟨10, 0⟩) (meth := k10m0) (c := k10c0) (by decide +kernel) rfl rfl rfl (by decide +kernel)
set_option maxRecDepth 65536 in
theorem w_c7 : (Jvm.Cond.code ({ cls := "java/lang/Math", name := "max", desc := "(II)I" } : Jvm.MethodName) jdk_29_method_65_code (2 : Nat) (Option.some Jvm.ClassFile.FieldType.int)).before args0 about1 = true := code_word (m := ⟨3, 1⟩) (meth := k3m1) (c := k3c1) (by decide +kernel) rfl rfl rfl (by decide +kernel)
set_option maxRecDepth 65536 in
theorem w_c8 : (Jvm.Cond.code ({ cls := "com/example/eimer/eimer/cli/Latencies", name := "add", desc := "(Lcom/example/eimer/eimer/cli/Latencies;)V" } : Jvm.MethodName) prog_42_method_3_code (3 : Nat) (Option.none : Option Jvm.ClassFile.FieldType)).before args0 about1 = true := code_word (m := ⟨2, 2⟩) (meth := k2m2) (c := k2c2) (by decide +kernel) rfl rfl rfl (by decide +kernel)
set_option maxRecDepth 65536 in
theorem w_c9 : (Jvm.Cond.code ({ cls := "com/example/eimer/eimer/cli/Latencies", name := "percentile", desc := "(I)D" } : Jvm.MethodName) prog_42_method_4_code (8 : Nat) (Option.some Jvm.ClassFile.FieldType.double)).before args0 about1 = true := code_word (m := ⟨2, 3⟩) (meth := k2m3) (c := k2c3) (by decide +kernel) rfl rfl rfl (by decide +kernel)
def codes1 : List Jvm.Cond := [Jvm.Cond.code x code maxLocals ret, Jvm.Cond.code ({ cls := "com/example/eimer/eimer/cli/Latencies", name := "<init>", desc := "()V" } : Jvm.MethodName) prog_42_method_1_code (1 : Nat) (Option.none : Option Jvm.ClassFile.FieldType), Jvm.Cond.code ({ cls := "java/lang/Object", name := "<init>", desc := "()V" } : Jvm.MethodName) object_method_1_code (1 : Nat) (Option.none : Option Jvm.ClassFile.FieldType), Jvm.Cond.code ({ cls := "com/example/eimer/eimer/cli/Latencies", name := "record", desc := "(J)V" } : Jvm.MethodName) prog_42_method_2_code (6 : Nat) (Option.none : Option Jvm.ClassFile.FieldType), Jvm.Cond.code ({ cls := "java/lang/Math", name := "max", desc := "(JJ)J" } : Jvm.MethodName) jdk_29_method_66_code (4 : Nat) (Option.some Jvm.ClassFile.FieldType.long), Jvm.Cond.code ({ cls := "java/lang/Long", name := "numberOfLeadingZeros", desc := "(J)I" } : Jvm.MethodName) jdk_35_method_48_code (3 : Nat) (Option.some Jvm.ClassFile.FieldType.int), Jvm.Cond.code ({ cls := "java/lang/Integer", name := "numberOfLeadingZeros", desc := "(I)I" } : Jvm.MethodName) jdk_33_method_47_code (2 : Nat) (Option.some Jvm.ClassFile.FieldType.int), Jvm.Cond.code ({ cls := "java/lang/Math", name := "max", desc := "(II)I" } : Jvm.MethodName) jdk_29_method_65_code (2 : Nat) (Option.some Jvm.ClassFile.FieldType.int), Jvm.Cond.code ({ cls := "com/example/eimer/eimer/cli/Latencies", name := "add", desc := "(Lcom/example/eimer/eimer/cli/Latencies;)V" } : Jvm.MethodName) prog_42_method_3_code (3 : Nat) (Option.none : Option Jvm.ClassFile.FieldType), Jvm.Cond.code ({ cls := "com/example/eimer/eimer/cli/Latencies", name := "percentile", desc := "(I)D" } : Jvm.MethodName) prog_42_method_4_code (8 : Nat) (Option.some Jvm.ClassFile.FieldType.double)]
set_option maxRecDepth 65536 in
theorem codes_eq : words1.filter isCode = codes1 := rfl
theorem w_codes : ∀ c ∈ words1.filter isCode, c.before args0 about1 = true := by
  rw [codes_eq]
  intro c hc
  simp only [codes1, List.mem_cons, List.not_mem_nil, or_false] at hc
  rcases hc with rfl | rfl | rfl | rfl | rfl | rfl | rfl | rfl | rfl | rfl
  · exact w_c0
  · exact w_c1
  · exact w_c2
  · exact w_c3
  · exact w_c4
  · exact w_c5
  · exact w_c6
  · exact w_c7
  · exact w_c8
  · exact w_c9
set_option maxRecDepth 65536 in
theorem w_t1 : (words1.take 24).all (fun c => isCode c || c.before args0 about1) = true := by decide +kernel
set_option maxRecDepth 65536 in
theorem w_t2 : ((words1.drop 24).take 24).all (fun c => isCode c || c.before args0 about1) = true := by decide +kernel
set_option maxRecDepth 65536 in
theorem w_t3 : ((words1.drop 24).drop 24).all (fun c => isCode c || c.before args0 about1) = true := by decide +kernel
theorem w_tables : (allAtoms (Jvm.Cond.code x code maxLocals ret :: tables_1)).before args0 about1 = true := by
  rw [allAtoms_all]
  show words1.all (fun c => c.before args0 about1) = true
  refine all_split ?_ w_codes
  rw [← List.take_append_drop 24 words1, List.all_append, w_t1, ← List.take_append_drop 24 (words1.drop 24), List.all_append, w_t2, w_t3]
  rfl
set_option maxRecDepth 65536 in
theorem w_case : (Jvm.Cond.and given_1 narrow_1).before args0 about1 = true := by decide +kernel
theorem w_applies : (headSpec (Jvm.Cond.code x code maxLocals ret :: tables_1) room_1).applies x e0.platform about1 = true :=
  (Spec.applies_iff w_frames).mpr ⟨w_running, w_runnable, w_alone, w_named, w_hears, w_ripe, w_room, w_tables⟩
theorem atStart : AtStart classFile x code maxLocals ret World_1 tables_1 room_1 Calls_1 rest_1 Pre_1 launch0 p0 e0 about1 theMethod args0 below0 :=
  ⟨lists_1, trivial, launch0.admits_env _ _ _, launch0.least_env, fairChoices_fair.cas, fairChoices_fair.clock, w_frames, w_args, w_heap, w_applies, trivial, trivial, w_case⟩
end start1
theorem witness_1 : WitnessClaimed_1 := ⟨start1.p0, start1.e0, start1.about1, start1.theMethod, start1.args0, start1.below0, start1.atStart⟩
end Jvm.Pilot.@@N@@
