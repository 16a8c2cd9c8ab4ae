import JvmDerived
import JvmDerived.Pilot.@@N@@Statement
import JvmDerived.Pilot.@@N@@Code
set_option linter.unusedVariables false
set_option linter.unusedSimpArgs false
namespace Jvm.OwnKit
open Sem ClassFile Op Lib Jvm.Stand Jvm.Free Jvm.LawKit Jvm.RoadKit
abbrev jv (x : Int64) : Slot := .val (.long x)
abbrev dv (x : UInt64) : Slot := .val (.double x)
abbrev nv : Slot := .val .null
abbrev un : Slot := .unset
abbrev sd : Slot := .second
theorem wd {ws : List Jvm.Cond} {a0 : Array Value} {Z : State} (hw : ∀ d ∈ ws, d.before a0 Z = true) (i : Nat) {d : Jvm.Cond} (h : ws[i]? = some d) : d.before a0 Z = true := hw _ (List.mem_of_getElem? h)
/-! ## the walk, backwards: from S the run comes to an end that K speaks of -/
def Wlk (tb : Tables) (e : Env) (below : List Frame) (S : State) (K : State → Outcome → Prop) : Prop := ∃ s₂ o, Steps tb e below S s₂ ∧ K s₂ o
section Wlks
variable {tb : Tables} {e : Env} {below : List Frame} {S S' : State} {K : State → Outcome → Prop}
theorem Wlk.of (f : ∀ t, Steps tb e below S' t → Steps tb e below S t) (h : Wlk tb e below S' K) : Wlk tb e below S K := by
  obtain ⟨t, o, h1, h2⟩ := h; exact ⟨t, o, f t h1, h2⟩
end Wlks
/-! ## a body's contract -/
def Ctr (l : Launch) (Z : State) (h0 : Heap) (y : MethodName) (bytes : ByteArray) (maxL : Nat) (ret : Option FieldType) (ws : List Jvm.Cond) (rm : Room) (as' : Array Value) (Q : Option Value → Heap → List Loc → Prop) : Prop :=
  MetFree l y (head1 (Jvm.Cond.code y bytes maxL ret :: ws) rm) (fun a U => a = as' ∧ Z.Warmed39 U.vm ∧ U.heap = h0) (fun _ _ _ _ _ => True) (fun _ U o U' => ∃ v L, o = .returned v ∧ Q v U'.heap L ∧ FrameEnd U o U' L rm.cells rm.slots)
/-- what the end of a body's walk must show -/
def Fin (p : Program) (l : Launch) (e : Env) (rm : Room) (s : State) (m : MethodId) (as' : Array Value) (below : List Frame) (meth : Method) (c : Code) (ret : Option FieldType) (Q : Option Value → Heap → List Loc → Prop) (K : State → Outcome → Prop) : Prop :=
  ∀ {T : State} {locs : List Loc} {cells slots : Nat} {F : JFrame} (v : Option Value), Stand p l e rm s m as' below meth c T locs cells slots → (ret = none → v = none) →
    (∀ fs, (∀ (f : JFrame) (acts : List Action), f.method = m → f.locked = none → f.entered = [] → (doReturn e (T.setTop f) acts v).1 = T.setFrames fs) → Steps p.tables e below (T.setTop F) (T.setFrames fs)) →
    Q v T.heap locs → cells ≤ rm.cells → slots ≤ rm.slots → Wlk p.tables e below (T.setTop F) K
theorem Ctr.make {l : Launch} {Z : State} {h0 : Heap} {y : MethodName} {bytes : ByteArray} {maxL : Nat} {ret : Option FieldType} {ws : List Jvm.Cond} {rm : Room} {as' : Array Value} {Q : Option Value → Heap → List Loc → Prop} (hpn : plainFor y = true)
    (H : ∀ (p : Program) (e : Env) (s : State) (m : MethodId) (below : List Frame) (meth : Method) (c : Code) (s₁ : State) (K : State → Outcome → Prop), meth.sig.returnType = ret → c.maxLocals = maxL → p.tables.exec = Jvm.exec → c.code = bytes → s.vm.findClass y.cls = some m.cls → meth.name = y.name → Z.Warmed39 s.vm →
      Stand p l e rm s m as' below meth c s₁ [] 0 0 → s₁.heap = h0 → Fin p l e rm s m as' below meth c ret Q K → Wlk p.tables e below (s₁.setTop (entryFrame m as' maxL)) K) : Ctr l Z h0 y bytes maxL ret ws rm as' Q := by
  refine MetFree.of_bodySF hpn hisR ?_
  intro p e s m args below meth c s₁ Bd hml hP hK
  obtain ⟨rfl, hZ, hh⟩ := hP
  refine H p e s m below meth c s₁ (fun s₂ o => s₂.status = .running ∧ Ended s₂ below o ∧ ∃ v L, o = .returned v ∧ Q v s₂.heap L ∧ FrameEnd s o s₂ L rm.cells rm.slots) Bd.returns hml Bd.exec Bd.bytes (findClass_of_methodNamed Bd.named) (name_of_methodNamed Bd.named Bd.method).1 hZ (Stand.of_body Bd) (by rw [← hh, Bd.state]; rfl) ?_
  intro T locs cells slots F v X hv hst hq hc hs
  obtain ⟨fs, hr, hrun, hended, hW, hsame⟩ := X.leave (v := v) (fun h => hv (Bd.returns ▸ h)) Bd.notSynchronized
  exact ⟨_, _, hst fs hr, hrun, hended, v, locs, rfl, hq, ⟨_, rfl⟩, hW, hsame.mono hc hs⟩
section Calls
variable {p : Program} {l : Launch} {e : Env} {R : Room} {s : State} {m : MethodId} {args : Array Value} {below : List Frame} {meth : Method} {c : Code} {T : State} {locs : List Loc} {cells slots : Nat} {Z : State} {a0 : Array Value} {h : Heap}
variable {y z : MethodName} {bytes : ByteArray} {maxL : Nat} {ret : Option FieldType} {rm : Room} {as' : Array Value} {Q : Option Value → Heap → List Loc → Prop}
theorem Ctr.static (M : Ctr l Z h y bytes maxL ret [] rm as' Q) (X : Stand p l e R s m args below meth c T locs cells slots) (hx : p.tables.exec = Jvm.exec) (hZ : Z.Warmed39 s.vm) (eT : T.heap = h) {own : String} {index : Nat} (hown : s.vm.findClass own = some m.cls)
    (wl : (Jvm.Cond.methodLink own index y).before a0 Z = true) (wt : (Jvm.Cond.static y).before a0 Z = true) (wi : (Jvm.Cond.initialized y.cls).before a0 Z = true) (wc : (Jvm.Cond.code y bytes maxL ret).before a0 Z = true) (hy : y.cls ≠ "java/lang/invoke/MethodHandle" ∧ y.cls ≠ "java/lang/invoke/VarHandle")
    {ps : List FieldType} {rt : Option FieldType} (hpd : parseMethodDescriptor y.desc = some ⟨ps, rt⟩) {g : JFrame} (hg : g.method = m) (hsize : g.locals.size = c.maxLocals) {argsL rest : List Value} (ha : argsL.toArray = as') (hlen : argsL.length = ps.length) (hstack : g.stack = argsL.reverse ++ rest)
    {W : Nat} (hW : 2 * g.monitorRoom + (rest.map fun v => v.category).sum ≤ W) (hf : rm.frames + 1 ≤ R.frames) (hl : W + (maxL + 11) + rm.locals ≤ R.locals) (hd : decode c.code g.pc = .ok (.invokestatic index, 3)) (hc : cells + rm.cells ≤ R.cells) (hs : slots + rm.slots ≤ R.slots) :
    ∃ (v : Option Value) (T' : State) (L : List Loc), Stand p l e R s m args below meth c T' (locs ++ L) (cells + rm.cells) (slots + rm.slots) ∧ Q v T'.heap L ∧ ∀ target, Steps p.tables e below (T'.setTop { g with pc := g.pc + 3, stack := v.toList ++ rest }) target → Steps p.tables e below (T.setTop g) target := by
  obtain ⟨v, _, ⟨T', L, k, n⟩, -, X', ⟨Lc, hQ, l1, y1, z1⟩, st⟩ := Jvm.LawKit.callS X hx hown (mvT hZ wl) (mvT hZ wt) (mvT hZ wi) (mvT hZ wc) hy (backOf (W := W) M hZ wc wi hf hl) hg hsize (argsL := argsL) (rest := rest) (lenOf hpd hlen) hstack hW hd (fun _ _ => ⟨ha, eT, hc, hs⟩)
  dsimp only [Pt.U, Pt.locs, Pt.cells, Pt.slots] at X' l1 y1 z1 st hQ
  subst l1 y1 z1
  exact ⟨v, T', Lc, X', hQ, st⟩
theorem Ctr.special (M : Ctr l Z h y bytes maxL none [] rm as' Q) (X : Stand p l e R s m args below meth c T locs cells slots) (hx : p.tables.exec = Jvm.exec) (hZ : Z.Warmed39 s.vm) (eT : T.heap = h) {own : String} {index : Nat} (hown : s.vm.findClass own = some m.cls) (hy1 : y.name = "<init>")
    (wl : (Jvm.Cond.methodLink own index y).before a0 Z = true) (wt : (Jvm.Cond.instanceMethod y).before a0 Z = true) (wi : (Jvm.Cond.initialized y.cls).before a0 Z = true) (wc : (Jvm.Cond.code y bytes maxL none).before a0 Z = true) (hy : y.cls ≠ "java/lang/invoke/MethodHandle" ∧ y.cls ≠ "java/lang/invoke/VarHandle")
    {ps : List FieldType} {rt : Option FieldType} (hpd : parseMethodDescriptor y.desc = some ⟨ps, rt⟩) {g : JFrame} (hg : g.method = m) (hsize : g.locals.size = c.maxLocals) {a : Addr} {argsL rest : List Value} (ha : (.ref a :: argsL).toArray = as') (hlen : argsL.length = ps.length) (hstack : g.stack = argsL.reverse ++ .ref a :: rest)
    {W : Nat} (hW : 2 * g.monitorRoom + (rest.map fun v => v.category).sum ≤ W) (hf : rm.frames + 1 ≤ R.frames) (hl : W + (maxL + 11) + rm.locals ≤ R.locals) (hd : decode c.code g.pc = .ok (.invokespecial index, 3)) (hc : cells + rm.cells ≤ R.cells) (hs : slots + rm.slots ≤ R.slots) :
    ∃ (v : Option Value) (T' : State) (L : List Loc), Stand p l e R s m args below meth c T' (locs ++ L) (cells + rm.cells) (slots + rm.slots) ∧ Q v T'.heap L ∧ ∀ target, Steps p.tables e below (T'.setTop { g with pc := g.pc + 3, stack := v.toList ++ rest }) target → Steps p.tables e below (T.setTop g) target := by
  obtain ⟨v, _, ⟨T', L, k, n⟩, -, X', ⟨Lc, hQ, l1, y1, z1⟩, st⟩ := X.specialBack hx hy1 hown (mvT hZ wl) (mvT hZ wt) (mvT hZ wc) hy (backOf (W := W) M hZ wc wi hf hl) hg hsize (Steps.refl _) (a := a) (argsL := argsL) (rest := rest) (lenOf hpd hlen) hstack hW hd (fun _ _ => ⟨ha, eT, hc, hs⟩)
  dsimp only [Pt.U, Pt.locs, Pt.cells, Pt.slots] at X' l1 y1 z1 st hQ
  subst l1 y1 z1
  exact ⟨v, T', Lc, X', hQ, fun target k => st.trans k⟩
theorem Ctr.virtual (M : Ctr l Z h z bytes maxL ret [] rm as' Q) (X : Stand p l e R s m args below meth c T locs cells slots) (hx : p.tables.exec = Jvm.exec) (hZ : Z.Warmed39 s.vm) (eT : T.heap = h) {own C : String} {index : Nat} (hown : s.vm.findClass own = some m.cls)
    (wl : (Jvm.Cond.methodLink own index y).before a0 Z = true) (wd : (Jvm.Cond.declares y).before a0 Z = true) (hnf : NotFace s y) (wsel : (Jvm.Cond.selects C y z).before a0 Z = true) (wt : (Jvm.Cond.instanceMethod z).before a0 Z = true) (wi : (Jvm.Cond.initialized z.cls).before a0 Z = true) (wc : (Jvm.Cond.code z bytes maxL ret).before a0 Z = true) (hy : y.cls ≠ "java/lang/invoke/MethodHandle" ∧ y.cls ≠ "java/lang/invoke/VarHandle")
    {a : Addr} (E : Exa Z h a C) {ps : List FieldType} {rt : Option FieldType} (hpd : parseMethodDescriptor y.desc = some ⟨ps, rt⟩) {g : JFrame} (hg : g.method = m) (hsize : g.locals.size = c.maxLocals) {argsL rest : List Value} (ha : (.ref a :: argsL).toArray = as') (hlen : argsL.length = ps.length) (hstack : g.stack = argsL.reverse ++ .ref a :: rest)
    {W : Nat} (hW : 2 * g.monitorRoom + (rest.map fun v => v.category).sum ≤ W) (hf : rm.frames + 1 ≤ R.frames) (hl : W + (maxL + 11) + rm.locals ≤ R.locals) (hd : decode c.code g.pc = .ok (.invokevirtual index, 3)) (hc : cells + rm.cells ≤ R.cells) (hs : slots + rm.slots ≤ R.slots) :
    ∃ (v : Option Value) (T' : State) (L : List Loc), Stand p l e R s m args below meth c T' (locs ++ L) (cells + rm.cells) (slots + rm.slots) ∧ Q v T'.heap L ∧ ∀ target, Steps p.tables e below (T'.setTop { g with pc := g.pc + 3, stack := v.toList ++ rest }) target → Steps p.tables e below (T.setTop g) target := by
  obtain ⟨cq, kq, qa, qb, qc⟩ := isOf hZ eT E
  obtain ⟨v, _, ⟨T', L, k, n⟩, -, X', ⟨Lc, hQ, l1, y1, z1⟩, st⟩ := X.virtualBack hx hown (mvT hZ wl) (mvT hZ wd) hnf (mvT hZ wsel) (mvT hZ wt) hy (backOf (W := W) M hZ wc wi hf hl) qa qc hg hsize (Steps.refl _) (argsL := argsL) (rest := rest) (lenOf hpd hlen) hstack hW hd (fun _ _ => ⟨ha, eT, hc, hs⟩)
  dsimp only [Pt.U, Pt.locs, Pt.cells, Pt.slots] at X' l1 y1 z1 st hQ
  subst l1 y1 z1
  exact ⟨v, T', Lc, X', hQ, fun target k => st.trans k⟩
theorem Ctr.priv (M : Ctr l Z h y bytes maxL ret [] rm as' Q) (X : Stand p l e R s m args below meth c T locs cells slots) (hx : p.tables.exec = Jvm.exec) (hZ : Z.Warmed39 s.vm) (eT : T.heap = h) {own : String} {index n : Nat} (hown : s.vm.findClass own = some m.cls)
    (wl : (Jvm.Cond.methodLink own index y).before a0 Z = true) (wt : (Jvm.Cond.instanceMethod y).before a0 Z = true) (wp : (Jvm.Cond.privateMethod y).before a0 Z = true) (win : (Jvm.Cond.instantiable y.cls n).before a0 Z = true) (wi : (Jvm.Cond.initialized y.cls).before a0 Z = true) (wc : (Jvm.Cond.code y bytes maxL ret).before a0 Z = true) (hy : y.cls ≠ "java/lang/invoke/MethodHandle" ∧ y.cls ≠ "java/lang/invoke/VarHandle")
    {C : String} {a : Addr} (E : Exa Z h a C) {ps : List FieldType} {rt : Option FieldType} (hpd : parseMethodDescriptor y.desc = some ⟨ps, rt⟩) {g : JFrame} (hg : g.method = m) (hsize : g.locals.size = c.maxLocals) {argsL rest : List Value} (ha : (.ref a :: argsL).toArray = as') (hlen : argsL.length = ps.length) (hstack : g.stack = argsL.reverse ++ .ref a :: rest)
    {W : Nat} (hW : 2 * g.monitorRoom + (rest.map fun v => v.category).sum ≤ W) (hf : rm.frames + 1 ≤ R.frames) (hl : W + (maxL + 11) + rm.locals ≤ R.locals) (hd : decode c.code g.pc = .ok (.invokevirtual index, 3)) (hc : cells + rm.cells ≤ R.cells) (hs : slots + rm.slots ≤ R.slots) :
    ∃ (v : Option Value) (T' : State) (L : List Loc), Stand p l e R s m args below meth c T' (locs ++ L) (cells + rm.cells) (slots + rm.slots) ∧ Q v T'.heap L ∧ ∀ target, Steps p.tables e below (T'.setTop { g with pc := g.pc + 3, stack := v.toList ++ rest }) target → Steps p.tables e below (T.setTop g) target := by
  obtain ⟨cq, q, q'⟩ := E.cell
  obtain ⟨ck, k, i1, i2, i3, i4, -⟩ := Cond.instantiable_spec (mvT (args := args) hZ win)
  have hni : k.isInterface = false := by cases hk : k.isInterface <;> simp [hk] at i4 ⊢
  have hpr := Cond.privateMethod_at (mvP (args := args) hZ wp)
  obtain ⟨v, _, ⟨T', L, k, n⟩, -, X', ⟨Lc, hQ, l1, y1, z1⟩, st⟩ := X.privateBack hx hown (mvT hZ wl) (mvT hZ wt) (selects_self_of_private i1 i2 hni hpr (mvT hZ wt) hy) hpr (mvT hZ wc) hy (backOf (W := W) M hZ wc wi hf hl) hg hsize (Steps.refl _) (a := a) (by rw [eT]; exact q) q' (argsL := argsL) (rest := rest) (lenOf hpd hlen) hstack hW hd (fun _ _ => ⟨ha, eT, hc, hs⟩)
  dsimp only [Pt.U, Pt.locs, Pt.cells, Pt.slots] at X' l1 y1 z1 st hQ
  subst l1 y1 z1
  exact ⟨v, T', Lc, X', hQ, fun target k => st.trans k⟩
/-- a static call that a payer of the library answers, and that leaves all as it was -/
theorem paidS (X : Stand p l e R s m args below meth c T locs cells slots) (hx : p.tables.exec = Jvm.exec) (hZ : Z.Warmed39 s.vm) (eT : T.heap = h) {own : String} {index : Nat} (hown : s.vm.findClass own = some m.cls)
    (wl : (Jvm.Cond.methodLink own index y).before a0 Z = true) (wt : (Jvm.Cond.static y).before a0 Z = true) (wi : (Jvm.Cond.initialized y.cls).before a0 Z = true) (wc : (Jvm.Cond.code y bytes maxL ret).before a0 Z = true) (hy : y.cls ≠ "java/lang/invoke/MethodHandle" ∧ y.cls ≠ "java/lang/invoke/VarHandle")
    {W : Nat} {Pre : Pt → Array Value → Prop} {Post : Pt → Array Value → Option Value → Pt → Prop} (hK : Back l R p e below s args y 3 W Pre Post)
    {ps : List FieldType} {rt : Option FieldType} (hpd : parseMethodDescriptor y.desc = some ⟨ps, rt⟩) {g : JFrame} (hg : g.method = m) (hsize : g.locals.size = c.maxLocals) {argsL rest : List Value} (hlen : argsL.length = ps.length) (hstack : g.stack = argsL.reverse ++ rest)
    (hW : 2 * g.monitorRoom + (rest.map fun v => v.category).sum ≤ W) (hd : decode c.code g.pc = .ok (.invokestatic index, 3)) (hpre : ∀ U : State, U.heap = h → Pre ⟨U, locs, cells, slots⟩ argsL.toArray) {val : Value} (hpost : ∀ A v B, Post A argsL.toArray v B → v = some val ∧ pureAt A B) :
    ∃ T', Stand p l e R s m args below meth c T' locs cells slots ∧ T'.heap = h ∧ ∀ target, Steps p.tables e below (T'.setTop { g with pc := g.pc + 3, stack := val :: rest }) target → Steps p.tables e below (T.setTop g) target := by
  obtain ⟨v, vm1, ⟨T', L, k, n⟩, -, X', hP, st⟩ := Jvm.LawKit.callS X hx hown (mvT hZ wl) (mvT hZ wt) (mvT hZ wi) (mvT hZ wc) hy hK hg hsize (argsL := argsL) (rest := rest) (lenOf hpd hlen) hstack hW hd (fun vm1 _ => hpre _ eT)
  obtain ⟨rfl, q1, q2, q3, q4⟩ := hpost _ _ _ hP
  dsimp only [Pt.U, Pt.locs, Pt.cells, Pt.slots] at X' q1 q2 q3 q4 st
  subst q2 q3 q4
  exact ⟨T', X', by rw [q1]; exact eT, st⟩
end Calls
/-! ## an array by the list of what it holds -/
def Arl (Z : State) (h : Heap) (a : Addr) (ty : FieldType) (vs : List Value) : Prop := ∃ c : Cell, Arr Z h a c ty ∧ c.slots.toList = vs ∧ vs.length < 2 ^ 31
section Arls
variable {p : Program} {l : Launch} {e : Env} {R : Room} {s : State} {m : MethodId} {args : Array Value} {below : List Frame} {meth : Method} {c : Code} {T : State} {locs : List Loc} {cells slots : Nat} {Z : State} {a0 : Array Value} {h h' h0 : Heap}
variable {a b : Addr} {ty : FieldType} {vs : List Value} {v : Value} {sl : Nat} {ws : List Addr}
theorem Arl.lt (F : Arl Z h a ty vs) : a < h.size := by obtain ⟨c, A, -⟩ := F; exact A.lt
theorem Arl.ext (F : Arl Z h a ty vs) (E : Ext h h') : Arl Z h' a ty vs := by obtain ⟨c, A, r⟩ := F; exact ⟨c, A.ext E, r⟩
theorem Arl.other (F : Arl Z h b ty vs) (W : Wr h h' a sl v) (q : b ≠ a) : Arl Z h' b ty vs := by obtain ⟨c, A, r⟩ := F; exact ⟨c, A.other W q, r⟩
theorem Arl.keep (F : Arl Z h a ty vs) (K : Keep h h' ws) (q : a ∉ ws) : Arl Z h' a ty vs := by obtain ⟨c, A, r⟩ := F; exact ⟨c, ⟨K.2.1 a c A.1 q, A.2⟩, r⟩
theorem Arl.wr (F : Arl Z h a ty vs) (W : Wr h h' a sl v) : Arl Z h' a ty (vs.set sl v) := by
  obtain ⟨c, A, e, q⟩ := F
  exact ⟨c.setSlot sl v, A.same W, by rw [← e]; simp [Cell.setSlot], by simpa using q⟩
theorem Arl.inb {c : Cell} {j : Int32} {i : Nat} (e : c.slots.toList = vs) (hj : j.toNatClampNeg = i) (h0 : ¬ j < 0) (hi : i < vs.length) : ¬ (j < 0 ∨ c.slots.size ≤ j.toNatClampNeg) := by
  subst hj e
  rintro (q | q)
  · exact h0 q
  · simp at hi; omega
theorem Arl.at {c : Cell} {j : Int32} {i : Nat} (e : c.slots.toList = vs) (hj : j.toNatClampNeg = i) (hv : vs[i]? = some v) : c.slots[j.toNatClampNeg]? = some v := by
  subst hj e; simpa using hv
theorem some_lt {i : Nat} (hv : vs[i]? = some v) : i < vs.length := (List.getElem?_eq_some_iff.mp hv).1
theorem newL (X : Stand p l e R s m args below meth c T locs cells slots) (hx : p.tables.exec = Jvm.exec) (hZ : Z.Warmed39 s.vm) {aty : ArrayType} (w : (Jvm.Cond.arrayClass (newarray.typeOf aty)).before a0 Z = true) (eT : T.heap = h) {g : JFrame} (hg : g.method = m) (hd : decode c.code g.pc = .ok (.newarray aty, 2)) {n : Int32} {rest : List Value} (hs : g.stack = .int n :: rest)
    (hn : ¬ n < 0) {cap : Nat} (hcap : n.toNatClampNeg = cap) (hb : cap * 8 ≤ 536870912) (hc : cells + 1 ≤ R.cells) (hl : slots + cap ≤ R.slots) :
    ∃ T' h', Stand p l e R s m args below meth c T' locs (cells + 1) (slots + cap) ∧ T'.heap = h' ∧ Ext h h' ∧ Arl Z h' h.size (newarray.typeOf aty) (List.replicate cap (defaultValue (newarray.typeOf aty))) ∧
      ∀ target, Steps p.tables e below (T'.setTop { g with pc := g.pc + 2, stack := .ref h.size :: rest }) target → Steps p.tables e below (T.setTop g) target := by
  obtain ⟨T', h', cA, X', e', E, A, st⟩ := newP X hx hZ w eT hg hd hs hn (cap := cap) (Nat.le_of_eq hcap) hb hc hl
  refine ⟨T', h', X', e', E, ⟨_, A, by simp [newA, hcap], ?_⟩, st⟩
  have := (back32 hn).2
  rw [List.length_replicate]; omega
theorem lenL (X : Stand p l e R s m args below meth c T locs cells slots) (hx : p.tables.exec = Jvm.exec) (hZ : Z.Warmed39 s.vm) (eT : T.heap = h) (F : Arl Z h a ty vs) {n : Int32} (hn : vs.length.toInt32 = n) {g : JFrame} (hg : g.method = m) {rest : List Value} (hs : g.stack = .ref a :: rest) (hd : decode c.code g.pc = .ok (.arraylength, 1)) (target : State)
    (k : Steps p.tables e below (T.setTop { g with pc := g.pc + 1, stack := .int n :: rest }) target) : Steps p.tables e below (T.setTop g) target := by
  obtain ⟨cl, A, e1, q⟩ := F
  have q2 : cl.slots.size.toInt32 = n := by rw [← hn, ← e1]; simp
  exact X.arraylength hx (by rw [eT]; exact A.1) (State.isArrayOf_alike hZ.alike A.2.1) hg hs hd target (by rw [q2]; exact k)
theorem ldD (X : Stand p l e R s m args below meth c T locs cells slots) (hx : p.tables.exec = Jvm.exec) (hZ : Z.Warmed39 s.vm) (eT : T.heap = h) (F : Arl Z h a .double vs) {j : Int32} {i : Nat} (hj : j.toNatClampNeg = i) (h0 : ¬ j < 0) (hv : vs[i]? = some v) {g : JFrame} (hg : g.method = m) {rest : List Value} (hs : g.stack = .int j :: .ref a :: rest) (hd : decode c.code g.pc = .ok (.daload, 1)) (target : State)
    (k : Steps p.tables e below (T.setTop { g with pc := g.pc + 1, stack := v :: rest }) target) : Steps p.tables e below (T.setTop g) target := by
  obtain ⟨cl, A, e1, q⟩ := F
  exact X.daload hx (by rw [eT]; exact A.1) (State.isArrayOf_alike hZ.alike A.2.1) A.2.2 (Arl.inb e1 hj h0 (some_lt hv)) (Arl.at e1 hj hv) hg hs hd target k
theorem ldI (X : Stand p l e R s m args below meth c T locs cells slots) (hx : p.tables.exec = Jvm.exec) (hZ : Z.Warmed39 s.vm) (eT : T.heap = h) (F : Arl Z h a .int vs) {j : Int32} {i : Nat} (hj : j.toNatClampNeg = i) (h0 : ¬ j < 0) (hv : vs[i]? = some v) {g : JFrame} (hg : g.method = m) {rest : List Value} (hs : g.stack = .int j :: .ref a :: rest) (hd : decode c.code g.pc = .ok (.iaload, 1)) (target : State)
    (k : Steps p.tables e below (T.setTop { g with pc := g.pc + 1, stack := v :: rest }) target) : Steps p.tables e below (T.setTop g) target := by
  obtain ⟨cl, A, e1, q⟩ := F
  exact X.iaload hx (by rw [eT]; exact A.1) (State.isArrayOf_alike hZ.alike A.2.1) A.2.2 (Arl.inb e1 hj h0 (some_lt hv)) (Arl.at e1 hj hv) hg hs hd target k
theorem ldJ (X : Stand p l e R s m args below meth c T locs cells slots) (hx : p.tables.exec = Jvm.exec) (hZ : Z.Warmed39 s.vm) (eT : T.heap = h) (F : Arl Z h a .long vs) {j : Int32} {i : Nat} (hj : j.toNatClampNeg = i) (h0 : ¬ j < 0) (hv : vs[i]? = some v) {g : JFrame} (hg : g.method = m) {rest : List Value} (hs : g.stack = .int j :: .ref a :: rest) (hd : decode c.code g.pc = .ok (.laload, 1)) (target : State)
    (k : Steps p.tables e below (T.setTop { g with pc := g.pc + 1, stack := v :: rest }) target) : Steps p.tables e below (T.setTop g) target := by
  obtain ⟨cl, A, e1, q⟩ := F
  exact X.laload hx (by rw [eT]; exact A.1) (State.isArrayOf_alike hZ.alike A.2.1) A.2.2 (Arl.inb e1 hj h0 (some_lt hv)) (Arl.at e1 hj hv) hg hs hd target k
theorem ldZ (X : Stand p l e R s m args below meth c T locs cells slots) (hx : p.tables.exec = Jvm.exec) (hZ : Z.Warmed39 s.vm) (eT : T.heap = h) (F : Arl Z h a .boolean vs) {j : Int32} {i : Nat} (hj : j.toNatClampNeg = i) (h0 : ¬ j < 0) (hv : vs[i]? = some v) {g : JFrame} (hg : g.method = m) {rest : List Value} (hs : g.stack = .int j :: .ref a :: rest) (hd : decode c.code g.pc = .ok (.baload, 1)) (target : State)
    (k : Steps p.tables e below (T.setTop { g with pc := g.pc + 1, stack := v :: rest }) target) : Steps p.tables e below (T.setTop g) target := by
  obtain ⟨cl, A, e1, q⟩ := F
  exact X.baloadBooleans hx (by rw [eT]; exact A.1) (State.isArrayOf_alike hZ.alike A.2.1) A.2.2 (Arl.inb e1 hj h0 (some_lt hv)) (Arl.at e1 hj hv) hg hs hd target k
theorem ldR (X : Stand p l e R s m args below meth c T locs cells slots) (hx : p.tables.exec = Jvm.exec) (hZ : Z.Warmed39 s.vm) (eT : T.heap = h) (F : Arl Z h a ty vs) (hty : ty.isReference = true) {j : Int32} {i : Nat} (hj : j.toNatClampNeg = i) (h0 : ¬ j < 0) (hv : vs[i]? = some v) {g : JFrame} (hg : g.method = m) {rest : List Value} (hs : g.stack = .int j :: .ref a :: rest) (hd : decode c.code g.pc = .ok (.aaload, 1)) (target : State)
    (k : Steps p.tables e below (T.setTop { g with pc := g.pc + 1, stack := v :: rest }) target) : Steps p.tables e below (T.setTop g) target := by
  obtain ⟨cl, A, e1, q⟩ := F
  exact X.aaload hx (by rw [eT]; exact A.1) (State.isArrayOf_alike hZ.alike A.2.1) hty A.2.2 (Arl.inb e1 hj h0 (some_lt hv)) (Arl.at e1 hj hv) hg hs hd target k
theorem stDl (X : Stand p l e R s m args below meth c T locs cells slots) (hx : p.tables.exec = Jvm.exec) (hZ : Z.Warmed39 s.vm) (eT : T.heap = h) (F : Arl Z h a .double vs) {j : Int32} {i : Nat} {x : UInt64} (hj : j.toNatClampNeg = i) (h0 : ¬ j < 0) (hi : i < vs.length) {g : JFrame} (hg : g.method = m) {rest : List Value} (hs : g.stack = .double x :: .int j :: .ref a :: rest) (hd : decode c.code g.pc = .ok (.dastore, 1)) :
    ∃ T' h', Stand p l e R s m args below meth c T' (locs ++ [⟨a, i⟩]) cells slots ∧ T'.heap = h' ∧ Wr h h' a i (.double x) ∧ Arl Z h' a .double (vs.set i (.double x)) ∧ ∀ target, Steps p.tables e below (T'.setTop { g with pc := g.pc + 1, stack := rest }) target → Steps p.tables e below (T.setTop g) target := by
  have F0 := F
  obtain ⟨cl, A, e1, q⟩ := F
  obtain ⟨T', h', X', e', W, st⟩ := stD X hx hZ eT A (Arl.inb e1 hj h0 hi) hg hs hd
  subst hj
  exact ⟨T', h', X', e', W, F0.wr W, st⟩
theorem stIl (X : Stand p l e R s m args below meth c T locs cells slots) (hx : p.tables.exec = Jvm.exec) (hZ : Z.Warmed39 s.vm) (eT : T.heap = h) (F : Arl Z h a .int vs) {j : Int32} {i : Nat} {x : Int32} (hj : j.toNatClampNeg = i) (h0 : ¬ j < 0) (hi : i < vs.length) {g : JFrame} (hg : g.method = m) {rest : List Value} (hs : g.stack = .int x :: .int j :: .ref a :: rest) (hd : decode c.code g.pc = .ok (.iastore, 1)) :
    ∃ T' h', Stand p l e R s m args below meth c T' (locs ++ [⟨a, i⟩]) cells slots ∧ T'.heap = h' ∧ Wr h h' a i (.int x) ∧ Arl Z h' a .int (vs.set i (.int x)) ∧ ∀ target, Steps p.tables e below (T'.setTop { g with pc := g.pc + 1, stack := rest }) target → Steps p.tables e below (T.setTop g) target := by
  have F0 := F
  obtain ⟨cl, A, e1, q⟩ := F
  obtain ⟨T', h', X', e', W, st⟩ := stI X hx hZ eT A (Arl.inb e1 hj h0 hi) hg hs hd
  subst hj
  exact ⟨T', h', X', e', W, F0.wr W, st⟩
theorem stJl (X : Stand p l e R s m args below meth c T locs cells slots) (hx : p.tables.exec = Jvm.exec) (hZ : Z.Warmed39 s.vm) (eT : T.heap = h) (F : Arl Z h a .long vs) {j : Int32} {i : Nat} {x : Int64} (hj : j.toNatClampNeg = i) (h0 : ¬ j < 0) (hi : i < vs.length) {g : JFrame} (hg : g.method = m) {rest : List Value} (hs : g.stack = .long x :: .int j :: .ref a :: rest) (hd : decode c.code g.pc = .ok (.lastore, 1)) :
    ∃ T' h', Stand p l e R s m args below meth c T' (locs ++ [⟨a, i⟩]) cells slots ∧ T'.heap = h' ∧ Wr h h' a i (.long x) ∧ Arl Z h' a .long (vs.set i (.long x)) ∧ ∀ target, Steps p.tables e below (T'.setTop { g with pc := g.pc + 1, stack := rest }) target → Steps p.tables e below (T.setTop g) target := by
  have F0 := F
  obtain ⟨cl, A, e1, q⟩ := F
  obtain ⟨T', h', X', e', W, st⟩ := stJ X hx hZ eT A (Arl.inb e1 hj h0 hi) hg hs hd
  subst hj
  exact ⟨T', h', X', e', W, F0.wr W, st⟩
theorem Arv.arl {k : ClassId} {n : Int32} {d : Value} (F : Arv Z h a k ty n vs d) (hl : vs.length = n.toNatClampNeg) : Arl Z h a ty vs := by
  obtain ⟨c, A, -, S, q, H, -⟩ := F
  refine ⟨c, A, ?_, by rw [hl]; exact (back32 q).2⟩
  refine List.ext_getElem? fun i => ?_
  rw [Array.getElem?_toList]
  by_cases hi : i < c.slots.size
  · rw [H i hi, List.getD_eq_getElem?_getD, List.getElem?_eq_getElem (by omega)]; simp
  · rw [Array.getElem?_eq_none (by omega), List.getElem?_eq_none (by omega)]
theorem gridL (X : Stand p l e R s m args below meth c T locs cells slots) (hx : p.tables.exec = Jvm.exec) (hZ : Z.Warmed39 s.vm) {own C ad : String} {index : Nat} (hown : s.vm.findClass own = some m.cls) (hC : (FieldType.array ty).toString = C) (had : "[" ++ C = ad)
    (w1 : (Jvm.Cond.classLink own index ad).before a0 Z = true) (w2 : (Jvm.Cond.arrayOver (.array ty)).before a0 Z = true) (w3 : (Jvm.Cond.arrayClass ty).before a0 Z = true) (eT : T.heap = h) {g : JFrame} (hg : g.method = m) (hd : decode c.code g.pc = .ok (.multianewarray index 2, 4)) {n k : Int32} {rest : List Value} (hs : g.stack = .int k :: .int n :: rest)
    (hn : ¬ n < 0) (hk : ¬ k < 0) {N cap : Nat} (hN : n.toNatClampNeg = N) (hcap : k.toNatClampNeg = cap) (hb : cap * 8 ≤ 536870912) (hb1 : N ≤ 1000) (hdf : fits ty (defaultValue ty) = true) (hdd : (defaultValue ty).isDefault = true) (hc : cells + (1 + N) ≤ R.cells) (hl : slots + (N + N * cap) ≤ R.slots) :
    ∃ (T' : State) (h' : Heap), Stand p l e R s m args below meth c T' locs (cells + (1 + N)) (slots + (N + N * cap)) ∧ T'.heap = h' ∧ Ext h h' ∧ Arl Z h' h.size (.array ty) ((List.range N).map fun j => .ref (h.size + 1 + j)) ∧
      (∀ j, j < N → Arl Z h' (h.size + 1 + j) ty (List.replicate cap (defaultValue ty))) ∧
      ∀ target, Steps p.tables e below (T'.setTop { g with pc := g.pc + 4, stack := .ref h.size :: rest }) target → Steps p.tables e below (T.setTop g) target := by
  obtain ⟨T', h', cA, comp, X', e', E, A, -, -, I, st⟩ := gridM X hx hZ hown hC had w1 w2 w3 eT hg hd hs hn hk hN rfl (Nat.le_of_eq hcap) hb hb1 hdf hdd hc hl
  refine ⟨T', h', X', e', E, ?_, fun j hj => ?_, st⟩
  · have := Arv.arl A (by simp [hN])
    rw [List.map_map] at this
    exact this
  · obtain ⟨AI, -⟩ := I j (h.size + 1 + j) (by simp [hj])
    refine ⟨_, AI, by simp [newA, hcap], ?_⟩
    have := (back32 hk).2
    rw [List.length_replicate]; omega
end Arls
end Jvm.OwnKit
namespace Jvm.OwnKit
open Jvm.FP Jvm.FP.Core
/-! ## dyadic doubles: a is the number i / 2^k -/
def shf (k : Int) : Datum → Datum
  | .nan => .nan
  | .inf s => .inf s
  | .fin s c q => .fin s c (q + k)
def Dy (i : Int) (k : Int) (a : UInt64) : Prop := Whole i (shf k (val64 a))
theorem shf_zero (d : Datum) : shf 0 d = d := by cases d <;> simp [shf]
theorem shf_shf (j k : Int) (d : Datum) : shf j (shf k d) = shf (k + j) d := by cases d <;> simp [shf]; omega
theorem shf_neg (k : Int) (x : Datum) : shf k (negate x) = negate (shf k x) := by cases x <;> rfl
theorem inU_shf (c : Nat) (q e k : Int) : inUnits c (q + k) (e + k) = inUnits c q e := by
  unfold inUnits; rw [show q + k - (e + k) = q - e by omega]
theorem shf_sum (k : Int) (x y : Datum) : shf k (exactSum x y) = exactSum (shf k x) (shf k y) := by
  cases x <;> cases y
  case fin.fin s c q t d r =>
    have hm : min (q + k) (r + k) = min q r + k := by omega
    simp only [shf, exactSum, hm, sumUnits, inU_shf]
  case inf.inf s t => by_cases h : s = t <;> simp [shf, exactSum, h]
  all_goals rfl
theorem shf_prod (k j : Int) (x y : Datum) : shf (k + j) (exactProduct x y) = exactProduct (shf k x) (shf j y) := by
  cases x <;> cases y
  case fin.fin s c q t d r => simp only [shf, exactProduct]; congr 1; omega
  case inf.fin s t d r => by_cases h : d = 0 <;> simp [shf, exactProduct, h]
  case fin.inf s c q t => by_cases h : c = 0 <;> simp [shf, exactProduct, h]
  all_goals rfl
theorem shf_order (k : Int) (x y : Datum) : order (shf k x) (shf k y) = order x y := by
  cases x <;> cases y
  case fin.fin s c q t d r =>
    have hm : min (q + k) (r + k) = min q r + k := by omega
    simp only [shf, order, hm, inU_shf]
  all_goals rfl
/-- a number of at most 53 digits at a middling exponent is rounded to itself -/
theorem whole_exact {s : Bool} {n : Nat} {k : Int} (hn : n < 2 ^ 53) (h1 : -900 ≤ k) (h2 : k ≤ 1000) : Whole (signed s n) (shf k (round b64 (.fin s n (-k)))) := by
  have q1 : b64.qmin = -1074 := by decide
  have q2 : b64.qmax = 971 := by decide
  obtain ⟨c', q', e1, e2⟩ := round_exact good_b64 s (c := n) (q := -k) (by exact hn) (by omega) (by omega)
  have hf := round_fits good_b64 (.fin s n (-k))
  rw [e1] at hf
  have g1 := hf.2.1
  rw [e1]
  show signed s (c' * 2 ^ (q' + k).toNat) = signed s n * ((2 ^ (-(q' + k)).toNat : Nat) : Int)
  rw [← signed_mul]
  congr 1
  unfold inUnits at e2
  rw [q1] at e2 g1
  refine Nat.eq_of_mul_eq_mul_right (Nat.two_pow_pos ((-k - -1074).toNat)) ?_
  refine Nat.eq_of_mul_eq_mul_right (Nat.two_pow_pos ((q' - -1074).toNat)) ?_
  have hx : (q' + k).toNat + (-k - -1074).toNat = (-(q' + k)).toNat + (q' - -1074).toNat := by omega
  calc c' * 2 ^ (q' + k).toNat * 2 ^ (-k - -1074).toNat * 2 ^ (q' - -1074).toNat
      = (c' * 2 ^ (q' - -1074).toNat) * 2 ^ ((q' + k).toNat + (-k - -1074).toNat) := by rw [Nat.pow_add]; ac_rfl
    _ = (n * 2 ^ (-k - -1074).toNat) * 2 ^ ((-(q' + k)).toNat + (q' - -1074).toNat) := by rw [e2, hx]
    _ = n * 2 ^ (-(q' + k)).toNat * 2 ^ (-k - -1074).toNat * 2 ^ (q' - -1074).toNat := by rw [Nat.pow_add]; ac_rfl
theorem signed_abs {s : Bool} {i : Int} (h : i ≠ 0 → s = decide (i < 0)) : signed s i.natAbs = i := by
  by_cases hi : i = 0
  · subst hi; exact signed_zero s
  · rw [h hi]; unfold signed; by_cases q : i < 0 <;> simp [q] <;> omega
theorem dy_round {i k : Int} {d : Datum} (hi : i.natAbs < 2 ^ 53) (h1 : -900 ≤ k) (h2 : k ≤ 1000) (h : Whole i (shf k d)) : Whole i (shf k (round b64 d)) := by
  cases d with
  | nan => exact h.elim
  | inf => exact h.elim
  | fin s c q =>
    have hw : Whole i (.fin s c (q + k)) := h
    have ha := whole_natAbs hw
    have e : round b64 (.fin s c q) = round b64 (.fin s i.natAbs (-k)) := by
      refine roundRatio_congr (by decide) (by decide) ?_
      rw [show (q - -k).toNat = (q + k).toNat by omega, show (-k - q).toNat = (-(q + k)).toNat by omega]
      simpa using ha
    rw [e]
    have := whole_exact (s := s) (k := k) hi h1 h2
    rw [signed_abs (fun hn => whole_sign hw hn)] at this
    exact this
section Dys
variable {i j k k' : Int} {a b : UInt64}
theorem Dy.fin (h : Dy i k a) : ∃ s c q, val64 a = .fin s c q := by
  unfold Dy at h
  cases hv : val64 a with
  | nan => rw [hv] at h; exact h.elim
  | inf s => rw [hv] at h; exact h.elim
  | fin s c q => exact ⟨s, c, q, rfl⟩
theorem Dy.nn (h : Dy i k a) : Jvm.Free.Fl.NoNaN64 a := by
  obtain ⟨s, c, q, e⟩ := h.fin
  refine Jvm.Free.Fl.val64_no.mpr ?_
  rw [e]; nofun
theorem Dy.l2d {a : Int64} (h : a.toInt.natAbs < 2 ^ 53) : Dy a.toInt 0 (FP.l2d a) := by
  unfold Dy; rw [shf_zero]; exact l2d_int (Nat.le_of_lt h)
theorem Dy.i2d (a : Int32) : Dy a.toInt 0 (FP.i2d a) := by
  unfold Dy; rw [shf_zero]; exact i2d_int a
theorem Dy.add (ha : Dy i k a) (hb : Dy j k b) (h : (i + j).natAbs < 2 ^ 53) (h1 : -900 ≤ k) (h2 : k ≤ 1000) : Dy (i + j) k (FP.dadd a b) := by
  show Whole (i + j) (shf k (val64 (Core.dadd a b)))
  rw [val64_dadd]
  refine dy_round h h1 h2 ?_
  rw [shf_sum]; exact whole_sum ha hb
theorem Dy.sub (ha : Dy i k a) (hb : Dy j k b) (h : (i - j).natAbs < 2 ^ 53) (h1 : -900 ≤ k) (h2 : k ≤ 1000) : Dy (i - j) k (FP.dsub a b) := by
  show Whole (i - j) (shf k (val64 (Core.dsub a b)))
  rw [val64_dsub]
  refine dy_round h h1 h2 ?_
  rw [shf_sum, shf_neg]; exact whole_sum ha (whole_negate hb)
theorem Dy.mul (ha : Dy i k a) (hb : Dy j k' b) (h : (i * j).natAbs < 2 ^ 53) (h1 : -900 ≤ k + k') (h2 : k + k' ≤ 1000) : Dy (i * j) (k + k') (FP.dmul a b) := by
  show Whole (i * j) (shf (k + k') (val64 (Core.dmul a b)))
  rw [val64_dmul]
  refine dy_round h h1 h2 ?_
  rw [shf_prod]; exact whole_product ha hb
theorem Dy.cmp (ha : Dy i k a) (hb : Dy j k b) : FP.dcmp a b = some (compare i j) := by
  show order (val64 a) (val64 b) = _
  rw [← shf_order k]; exact order_whole ha hb
theorem Dy.up (ha : Dy i k a) (n : Nat) : Dy (i * ((2 ^ n : Nat) : Int)) (k + n) a := by
  obtain ⟨s, c, q, e⟩ := ha.fin
  unfold Dy at ha ⊢
  rw [e] at ha ⊢
  have h : signed s (c * 2 ^ (q + k).toNat) = i * ((2 ^ (-(q + k)).toNat : Nat) : Int) := ha
  show signed s (c * 2 ^ (q + (k + n)).toNat) = i * ((2 ^ n : Nat) : Int) * ((2 ^ (-(q + (k + n))).toNat : Nat) : Int)
  have p : ((2 ^ (-(q + k)).toNat : Nat) : Int) ≠ 0 := by have := Nat.two_pow_pos (-(q + k)).toNat; omega
  refine Int.eq_of_mul_eq_mul_right p ?_
  have hx : (q + (k + n)).toNat + (-(q + k)).toNat = (q + k).toNat + (n + (-(q + (k + n))).toNat) := by omega
  calc signed s (c * 2 ^ (q + (k + n)).toNat) * ((2 ^ (-(q + k)).toNat : Nat) : Int)
      = signed s (c * 2 ^ ((q + (k + n)).toNat + (-(q + k)).toNat)) := by rw [← signed_mul, Nat.pow_add, Nat.mul_assoc]
    _ = signed s (c * 2 ^ (q + k).toNat) * ((2 ^ (n + (-(q + (k + n))).toNat) : Nat) : Int) := by rw [hx, Nat.pow_add, ← Nat.mul_assoc, signed_mul]
    _ = i * ((2 ^ n : Nat) : Int) * ((2 ^ (-(q + (k + n))).toNat : Nat) : Int) * ((2 ^ (-(q + k)).toNat : Nat) : Int) := by rw [h, Nat.pow_add, Int.natCast_mul]; ac_rfl
/-- the quotient of two dyadic numbers, rounded -/
theorem Dy.quot (ha : Dy i k a) (hb : Dy j k' b) (hj : j ≠ 0) : ∃ s, (i ≠ 0 → s = (decide (i < 0) != decide (j < 0))) ∧ val64 (FP.ddiv a b) = roundRatio b64 s i.natAbs j.natAbs (k' - k) := by
  obtain ⟨s, c, q, e⟩ := ha.fin
  obtain ⟨t, d, r, e'⟩ := hb.fin
  unfold Dy at ha hb
  rw [e] at ha; rw [e'] at hb
  have wa : Whole i (.fin s c (q + k)) := ha
  have wb : Whole j (.fin t d (r + k')) := hb
  have hd : d ≠ 0 := fun h0 => hj ((whole_zero wb).mp h0)
  refine ⟨s != t, fun hi => by rw [whole_sign wa hi, whole_sign wb hj], ?_⟩
  show val64 (Core.ddiv a b) = _
  rw [val64_ddiv, e, e']
  simp only [quotient, if_neg hd]
  refine roundRatio_congr (by omega) (by omega) ?_
  have na := whole_natAbs wa
  have nb := whole_natAbs wb
  have p : 0 < 2 ^ (r + k').toNat * 2 ^ (-(q + k)).toNat := Nat.mul_pos (Nat.two_pow_pos _) (Nat.two_pow_pos _)
  refine Nat.eq_of_mul_eq_mul_right (Nat.mul_pos (Nat.two_pow_pos (q + k).toNat) (Nat.two_pow_pos (-(r + k')).toNat)) ?_
  have hx : (q - r - (k' - k)).toNat + (-(q + k)).toNat + (r + k').toNat = (k' - k - (q - r)).toNat + ((q + k).toNat + (-(r + k')).toNat) := by omega
  calc c * j.natAbs * 2 ^ (q - r - (k' - k)).toNat * (2 ^ (q + k).toNat * 2 ^ (-(r + k')).toNat)
      = (c * 2 ^ (q + k).toNat) * (j.natAbs * 2 ^ (-(r + k')).toNat) * 2 ^ (q - r - (k' - k)).toNat := by ac_rfl
    _ = (i.natAbs * 2 ^ (-(q + k)).toNat) * (d * 2 ^ (r + k').toNat) * 2 ^ (q - r - (k' - k)).toNat := by rw [na, nb]
    _ = i.natAbs * d * 2 ^ ((q - r - (k' - k)).toNat + (-(q + k)).toNat + (r + k').toNat) := by rw [Nat.pow_add, Nat.pow_add]; ac_rfl
    _ = i.natAbs * d * 2 ^ (k' - k - (q - r)).toNat * (2 ^ (q + k).toNat * 2 ^ (-(r + k')).toNat) := by rw [hx, Nat.pow_add, Nat.pow_add]; ac_rfl
theorem Dy.div (ha : Dy (i * j) k a) (hb : Dy j k' b) (hj : j ≠ 0) (h : i.natAbs < 2 ^ 53) (h1 : -900 ≤ k - k') (h2 : k - k' ≤ 1000) : Dy i (k - k') (FP.ddiv a b) := by
  obtain ⟨s, hs, e⟩ := ha.quot hb hj
  unfold Dy
  rw [e]
  have e2 : roundRatio b64 s (i * j).natAbs j.natAbs (k' - k) = round b64 (.fin s i.natAbs (-(k - k'))) := by
    refine roundRatio_congr (by omega) (by decide) ?_
    rw [show k' - k - -(k - k') = 0 by omega, show -(k - k') - (k' - k) = 0 by omega, Int.natAbs_mul]
    simp
  rw [e2]
  have := whole_exact (s := s) (n := i.natAbs) (k := k - k') h h1 h2
  rw [signed_abs (fun hn => ?_)] at this
  · exact this
  · rw [hs (Int.mul_ne_zero hn hj)]
    rcases Int.lt_or_gt_of_ne hn with p | p <;> rcases Int.lt_or_gt_of_ne hj with q | q
    · have := Int.mul_pos_of_neg_of_neg p q
      simp [p, q, show ¬ i * j < 0 by omega]
    · have := Int.mul_neg_of_neg_of_pos p q
      simp [p, this, show ¬ j < 0 by omega]
    · have := Int.mul_neg_of_pos_of_neg p q
      simp [q, this, show ¬ i < 0 by omega]
    · have := Int.mul_pos p q
      simp [show ¬ i * j < 0 by omega, show ¬ j < 0 by omega, show ¬ i < 0 by omega]
end Dys
end Jvm.OwnKit
namespace Jvm.OwnKit
open Jvm.FP Jvm.FP.Core
section More
variable {i j k k' : Int} {a b : UInt64}
theorem Dy.cast (ha : Dy i k a) (h1 : i = j) (h2 : k = k') : Dy j k' a := by subst h1 h2; exact ha
theorem Dy.divp (ha : Dy i k a) (n : Nat) (hb : Dy ((2 ^ n : Nat) : Int) 0 b) (h : i.natAbs < 2 ^ 53) (h1 : -900 ≤ k + n) (h2 : k + n ≤ 1000) : Dy i (k + n) (FP.ddiv a b) := by
  have p := Nat.two_pow_pos n
  have := Dy.div (k := k + n) (k' := 0) (ha.up n) hb (by omega) h (by omega) (by omega)
  exact this.cast rfl (by omega)
theorem Dy.lit {a : UInt64} {s : Bool} {c : Nat} {q : Int} (e : val64 a = .fin s c q) (h : signed s (c * 2 ^ (q + k).toNat) = i * ((2 ^ (-(q + k)).toNat : Nat) : Int)) : Dy i k a := by
  unfold Dy; rw [e]; exact h
/-- a quotient of middling numbers and its 2^n-th part -/
theorem round_part {s : Bool} {A B n : Nat} (hA : 0 < A) (hB : 0 < B) (lA : A < 2 ^ 100) (lB : B < 2 ^ 100) (hn : n ≤ 100) : ∃ c q, roundRatio b64 s A B 0 = .fin s c q ∧ roundRatio b64 s A B (-(n : Int)) = .fin s c (q - n) := by
  have q1 : b64.qmin = -1074 := by decide
  have q2 : b64.qmax = 971 := by decide
  have hp : (b64.p : Int) - 1 = 52 := by decide
  have a1 : A.log2 < 100 := (Nat.log2_lt (by omega)).mpr lA
  have b1 : B.log2 < 100 := (Nat.log2_lt (by omega)).mpr lB
  have hl : -101 ≤ leading A B ∧ leading A B ≤ 100 := by
    unfold leading; dsimp only; split <;> omega
  have e1 : quantum b64 A B 0 = leading A B - 52 := by unfold quantum; rw [q1, hp]; omega
  have e2 : quantum b64 A B (-(n : Int)) = leading A B - 52 - n := by unfold quantum; rw [q1, hp]; omega
  have z : ¬ A = 0 := by omega
  unfold roundRatio
  rw [if_neg z, if_neg z, e1, e2]
  generalize leading A B = L at hl
  have u1 : unitsNum A (-(n : Int)) (L - 52 - n) = unitsNum A 0 (L - 52) := by unfold unitsNum; congr 2; omega
  have u2 : unitsDen B (-(n : Int)) (L - 52 - n) = unitsDen B 0 (L - 52) := by unfold unitsDen; congr 2; omega
  unfold roundAt
  rw [u1, u2]
  generalize nearest _ _ = c
  unfold settle bound
  by_cases hc : c < 2 ^ b64.p
  · rw [if_pos hc, if_pos hc, if_pos (by omega), if_pos (by omega)]
    exact ⟨_, _, rfl, rfl⟩
  · rw [if_neg hc, if_neg hc, if_pos (by omega), if_pos (by omega)]
    exact ⟨_, _, rfl, by congr 1; omega⟩
/-- (x / y) / 2^n where x / y is rounded once: the same as the rounding of x / (y * 2^n) -/
theorem div_part {x y w : UInt64} {A B : Int} {n : Nat} {got : UInt64} (hx : Dy A 0 x) (hy : Dy B 0 y) (hw : Dy ((2 ^ n : Nat) : Int) 0 w) (hA : 0 < A) (hB : 0 < B) (lA : A < 2 ^ 100) (lB : B < 2 ^ 100) (hn : n ≤ 100)
    {s0 : Bool} (hs : s0 = false) (hg : val64 got = roundRatio b64 s0 A.natAbs B.natAbs (-(n : Int))) : got = FP.ddiv (FP.ddiv x y) w ∧ val64 (FP.ddiv x y) ≠ .nan ∧ val64 got ≠ .nan := by
  subst hs
  obtain ⟨s, h1, h2⟩ := hx.quot hy (by omega)
  have hs : s = false := by rw [h1 (by omega)]; simp [show ¬ A < 0 by omega, show ¬ B < 0 by omega]
  subst hs
  obtain ⟨c, q, e1, e2⟩ := round_part (s := false) (A := A.natAbs) (B := B.natAbs) (n := n) (by omega) (by omega) (by omega) (by omega) hn
  have hf : Core.fits b64 (.fin false c (q - n)) := by rw [← e2]; exact roundRatio_fits good_b64 _ _ (by omega) _
  rw [show (0 : Int) - 0 = 0 by omega, e1] at h2
  rw [e2] at hg
  obtain ⟨t, d, r, ew⟩ := hw.fin
  have ww : Whole ((2 ^ n : Nat) : Int) (.fin t d (r + 0)) := by unfold Dy at hw; rw [ew] at hw; exact hw
  have p := Nat.two_pow_pos n
  have pz : ((2 ^ n : Nat) : Int) ≠ 0 := Int.natCast_ne_zero.mpr (Nat.ne_of_gt p)
  have ht : t = false := by rw [whole_sign ww pz]; exact decide_eq_false (Int.not_lt.mpr (Int.natCast_nonneg (2 ^ n)))
  subst ht
  have hd : d ≠ 0 := fun h0 => pz ((whole_zero ww).mp h0)
  have nw := whole_natAbs ww
  have hq : val64 (FP.ddiv (FP.ddiv x y) w) = .fin false c (q - n) := by
    show val64 (Core.ddiv _ _) = _
    rw [val64_ddiv, h2, ew]
    simp only [quotient, if_neg hd]
    refine roundRatio_exact good_b64 (by omega) hf ?_
    rw [show q - r - (q - n) = n - r by omega, show q - n - (q - r) = r - n by omega]
    rw [Int.natAbs_natCast, Int.add_zero] at nw
    refine Nat.eq_of_mul_eq_mul_right (Nat.two_pow_pos r.toNat) ?_
    have hx : (n - r : Int).toNat + r.toNat = (r - n : Int).toNat + (n + (-r).toNat) := by omega
    calc c * 2 ^ (n - r : Int).toNat * 2 ^ r.toNat = c * 2 ^ ((n - r : Int).toNat + r.toNat) := by rw [Nat.pow_add, Nat.mul_assoc]
      _ = c * 2 ^ (r - n : Int).toNat * (2 ^ n * 2 ^ (-r).toNat) := by rw [hx, Nat.pow_add, Nat.pow_add, Nat.mul_assoc]
      _ = c * d * 2 ^ (r - n : Int).toNat * 2 ^ r.toNat := by rw [← nw]; ac_rfl
  refine ⟨val64_inj (by rw [hg]; nofun) (by rw [hg, hq]), by rw [h2]; nofun, by rw [hg]; nofun⟩
end More
end Jvm.OwnKit
namespace Jvm.OwnKit
open Jvm.FP Jvm.FP.Core
section Pow
variable {i j k k' : Int} {a b : UInt64}
theorem whole_up {d : Datum} {n : Nat} : Whole i (shf k d) ↔ Whole (i * ((2 ^ n : Nat) : Int)) (shf (k + n) d) := by
  cases d with
  | nan => exact Iff.rfl
  | inf => exact Iff.rfl
  | fin s c q =>
    show signed s (c * 2 ^ (q + k).toNat) = i * ((2 ^ (-(q + k)).toNat : Nat) : Int) ↔ signed s (c * 2 ^ (q + (k + n)).toNat) = i * ((2 ^ n : Nat) : Int) * ((2 ^ (-(q + (k + n))).toNat : Nat) : Int)
    have p : ((2 ^ (-(q + k)).toNat : Nat) : Int) ≠ 0 := by have := Nat.two_pow_pos (-(q + k)).toNat; omega
    have p2 : ((2 ^ (n + (-(q + (k + n))).toNat) : Nat) : Int) ≠ 0 := by have := Nat.two_pow_pos (n + (-(q + (k + n))).toNat); omega
    have hx : (q + (k + n)).toNat + (-(q + k)).toNat = (q + k).toNat + (n + (-(q + (k + n))).toNat) := by omega
    have e1 : signed s (c * 2 ^ (q + (k + n)).toNat) * ((2 ^ (-(q + k)).toNat : Nat) : Int) = signed s (c * 2 ^ (q + k).toNat) * ((2 ^ (n + (-(q + (k + n))).toNat) : Nat) : Int) := by
      rw [← signed_mul, ← signed_mul, Nat.mul_assoc, ← Nat.pow_add, Nat.mul_assoc, ← Nat.pow_add, hx]
    have e2 : i * ((2 ^ n : Nat) : Int) * ((2 ^ (-(q + (k + n))).toNat : Nat) : Int) * ((2 ^ (-(q + k)).toNat : Nat) : Int) = i * ((2 ^ (-(q + k)).toNat : Nat) : Int) * ((2 ^ (n + (-(q + (k + n))).toNat) : Nat) : Int) := by
      rw [Nat.pow_add, Int.natCast_mul]; ac_rfl
    constructor
    · intro h
      refine Int.eq_of_mul_eq_mul_right p ?_
      rw [e1, e2, h]
    · intro h
      refine Int.eq_of_mul_eq_mul_right p2 ?_
      rw [← e1, ← e2, h]
theorem Dy.down {n : Nat} (ha : Dy (i * ((2 ^ n : Nat) : Int)) (k + n) a) : Dy i k a := whole_up.mpr ha
/-- times a power of two -/
theorem Dy.mulp (ha : Dy i k a) (n : Nat) (hb : Dy ((2 ^ n : Nat) : Int) 0 b) (h : i.natAbs < 2 ^ 53) (h1 : -900 ≤ k - n) (h2 : k - n ≤ 1000) : Dy i (k - n) (FP.dmul a b) := by
  show Whole i (shf (k - n) (val64 (Core.dmul a b)))
  rw [val64_dmul]
  refine dy_round h h1 h2 ?_
  rw [whole_up (n := n), show k - n + n = k + 0 by omega, shf_prod]
  exact whole_product ha hb
end Pow
end Jvm.OwnKit
namespace Jvm.OwnKit
theorem and64 (x m : Int64) (hm : 0 ≤ m.toInt) : 0 ≤ (x &&& m).toInt ∧ (x &&& m).toInt ≤ m.toInt := by
  have h : (x &&& m).toBitVec.toNat ≤ m.toBitVec.toNat := by rw [Int64.toBitVec_and, BitVec.toNat_and]; exact Nat.and_le_right
  have e : ∀ y : Int64, y.toInt = y.toBitVec.toInt := fun _ => rfl
  rw [e] at hm ⊢
  rw [e m]
  rw [BitVec.toInt_eq_toNat_cond] at hm ⊢
  rw [BitVec.toInt_eq_toNat_cond]
  have l1 := m.toBitVec.isLt
  have l2 := (x &&& m).toBitVec.isLt
  split at hm <;> split <;> omega
theorem and32 (x m : Int32) (hm : 0 ≤ m.toInt) : 0 ≤ (x &&& m).toInt ∧ (x &&& m).toInt ≤ m.toInt := by
  have h : (x &&& m).toBitVec.toNat ≤ m.toBitVec.toNat := by rw [Int32.toBitVec_and, BitVec.toNat_and]; exact Nat.and_le_right
  have e : ∀ y : Int32, y.toInt = y.toBitVec.toInt := fun _ => rfl
  rw [e] at hm ⊢
  rw [e m]
  rw [BitVec.toInt_eq_toNat_cond] at hm ⊢
  rw [BitVec.toInt_eq_toNat_cond]
  have l1 := m.toBitVec.isLt
  have l2 := (x &&& m).toBitVec.isLt
  split at hm <;> split <;> omega
end Jvm.OwnKit
namespace Jvm.Pilot.@@N@@
open Jvm Jvm.ClassFile Sem Op Lib Jvm.Free Jvm.Stand Jvm.LawKit Jvm.RoadKit Jvm.OwnKit Bundle Jvm.Pilot.@@N@@.Jvm.D

/-- a double and the long that orders as it does: an int's, or the infinity and the greatest long -/
def KV (x : UInt64) (k : Int64) : Prop := (∃ z : Int32, x = FP.i2d z ∧ k = z.toInt64) ∨ (x = (9218868437227405312 : UInt64) ∧ k = (9223372036854775807 : Int64))
theorem own_inf : FP.dcmp (9218868437227405312 : UInt64) (9218868437227405312 : UInt64) = some .eq := by decide +kernel
theorem own_lt {z : Int32} : z.toInt64 < (9223372036854775807 : Int64) := by
  rw [Int64.lt_iff_toInt_lt, Int32.toInt_toInt64]
  have := Int32.toInt_lt z
  rw [show (9223372036854775807 : Int64).toInt = 9223372036854775807 from rfl]; omega
theorem own_kv {x y : UInt64} {k l : Int64} (h : KV x k) (g : KV y l) : cmpValue (FP.dcmp x y) .g < 0 ↔ k < l := by
  rcases h with ⟨z, rfl, rfl⟩ | ⟨rfl, rfl⟩ <;> rcases g with ⟨w, rfl, rfl⟩ | ⟨rfl, rfl⟩
  · rw [(Dy.i2d z).cmp (Dy.i2d w), Int64.lt_iff_toInt_lt, Int32.toInt_toInt64, Int32.toInt_toInt64, FP.Core.compare_ite]
    by_cases h1 : z.toInt < w.toInt
    · rw [if_pos h1]; exact ⟨fun _ => h1, fun _ => by decide⟩
    · by_cases h2 : z.toInt = w.toInt
      · rw [if_neg h1, if_pos h2]; exact ⟨fun q => absurd q (by decide), fun q => absurd q h1⟩
      · rw [if_neg h1, if_neg h2]; exact ⟨fun q => absurd q (by decide), fun q => absurd q h1⟩
  · rw [dcmp_pinf (Fl.i2d_fin z)]
    exact ⟨fun _ => own_lt, fun _ => by decide⟩
  · rw [dcmp_pinf' (Fl.i2d_fin w)]
    exact ⟨fun q => absurd q (by decide), fun q => absurd q (Int64.not_lt.mpr (Int64.le_of_lt own_lt))⟩
  · rw [own_inf]; exact ⟨fun q => absurd q (by decide), fun q => absurd q (by decide)⟩
theorem own_kvite {x : UInt64} {f z : Int32} (h : x = if f = (0 : Int32) then FP.i2d z else (9218868437227405312 : UInt64)) : KV x (if f = (0 : Int32) then z.toInt64 else (9223372036854775807 : Int64)) := by
  by_cases q : f = (0 : Int32)
  · rw [if_pos q] at h ⊢; exact Or.inl ⟨z, h, rfl⟩
  · rw [if_neg q] at h ⊢; exact Or.inr ⟨h, rfl⟩
theorem own_kvI (z : Int32) : KV (FP.i2d z) z.toInt64 := Or.inl ⟨z, rfl, rfl⟩
theorem own_kvF : KV (9218868437227405312 : UInt64) (9223372036854775807 : Int64) := Or.inr ⟨rfl, rfl⟩
theorem dI2_0 : decode prog_21_method_1_code 0 = .ok (.aload_n 0, 1) := by decide +kernel
theorem dI2_1 : decode prog_21_method_1_code 1 = .ok (.invokespecial 1, 3) := by decide +kernel
theorem dI2_4 : decode prog_21_method_1_code 4 = .ok (.aload_n 0, 1) := by decide +kernel
theorem dI2_5 : decode prog_21_method_1_code 5 = .ok (.iload_n 1, 1) := by decide +kernel
theorem dI2_6 : decode prog_21_method_1_code 6 = .ok (.newarray .double, 2) := by decide +kernel
theorem dI2_8 : decode prog_21_method_1_code 8 = .ok (.putfield 7, 3) := by decide +kernel
theorem dI2_11 : decode prog_21_method_1_code 11 = .ok (.aload_n 0, 1) := by decide +kernel
theorem dI2_12 : decode prog_21_method_1_code 12 = .ok (.iload_n 1, 1) := by decide +kernel
theorem dI2_13 : decode prog_21_method_1_code 13 = .ok (.iload_n 2, 1) := by decide +kernel
theorem dI2_14 : decode prog_21_method_1_code 14 = .ok (.multianewarray 13 2, 4) := by decide +kernel
theorem dI2_18 : decode prog_21_method_1_code 18 = .ok (.putfield 15, 3) := by decide +kernel
theorem dI2_21 : decode prog_21_method_1_code 21 = .ok (.aload_n 0, 1) := by decide +kernel
theorem dI2_22 : decode prog_21_method_1_code 22 = .ok (.iload_n 2, 1) := by decide +kernel
theorem dI2_23 : decode prog_21_method_1_code 23 = .ok (.putfield 18, 3) := by decide +kernel
theorem dI2_26 : decode prog_21_method_1_code 26 = .ok (.return_, 1) := by decide +kernel
theorem pn_15 : plainName "com/example/selfwright/selfwright/optimiser/Scores" = true := by first | (simp [plainName, overriddenIn]; done) | decide +kernel
theorem ef_rmI2 (m : MethodId) (a : Addr) : entryFrame m #[(.ref a), (.int (2 : Int32)), (.int (0 : Int32))] 3 = mkF m 0 #[rv a, iv (2 : Int32), iv (0 : Int32)] [] := by first | (simp [entryFrame, mkF, argsToLocals, Value.category]; done) | rfl
def Q_rmI2 (Z : State) (a : Addr) (h0 : Heap) (n0 : Nat) (v : Option Value) (h : Heap) (L : List Loc) : Prop := ∃ ob : Addr, v = none ∧ Fr n0 L ∧ Keep h0 h [a] ∧ h0.size ≤ ob ∧ Fld Z h a "com/example/selfwright/selfwright/optimiser/Scores" "objectives" "[D" (.ref ob) ∧ Arl Z h ob .double [(.double (0 : UInt64)), (.double (0 : UInt64))]
set_option maxRecDepth 65536 in
set_option maxHeartbeats 40000000 in
theorem rmI2 (l : Launch) (Z : State) (a0 : Array Value) (hw : ∀ d ∈ tables_1, d.before a0 Z = true) (a : Addr) (h0 : Heap) (n0 : Nat) (Z0 : n0 ≤ h0.size) (E_a : Exa Z h0 a "com/example/selfwright/selfwright/optimiser/Scores") (F_a_objectives : Fld Z h0 a "com/example/selfwright/selfwright/optimiser/Scores" "objectives" "[D" .null) (F_a_violations : Fld Z h0 a "com/example/selfwright/selfwright/optimiser/Scores" "violations" "[[D" .null) (F_a_constraintCount : Fld Z h0 a "com/example/selfwright/selfwright/optimiser/Scores" "constraintCount" "I" (.int (0 : Int32))) (g_a : n0 ≤ a) :
    Ctr l Z h0 (⟨"com/example/selfwright/selfwright/optimiser/Scores", "<init>", "(II)V"⟩ : MethodName) prog_21_method_1_code 3 none [] ({ frames := 1, cells := 4, slots := 4, locals := 12 } : Room) #[(.ref a), (.int (2 : Int32)), (.int (0 : Int32))] (Q_rmI2 Z a h0 n0) := by
  refine Ctr.make (plainFor_of_name pn_15) fun p e s m below meth c s₁ K hret hml hx hby hown hnm hZ X0 e0 hK => ?_
  have hown : s.vm.findClass "com/example/selfwright/selfwright/optimiser/Scores" = some m.cls := hown
  have N0 := Fr.nil n0
  have K0 : Keep h0 h0 [a] := Keep.refl _ _
  refine Wlk.of (fun _ k => castTop (ef_rmI2 m a) k) ?_
  show Wlk p.tables e below (s₁.setTop (mkF m 0 #[rv a, iv (2 : Int32), iv (0 : Int32)] [])) K
  refine Wlk.of (fun _ k => XS.aloadN X0.here hx rfl (hb hby dI2_0) rfl rfl k) ?_
  show Wlk p.tables e below (s₁.setTop (mkF m 1 #[rv a, iv (2 : Int32), iv (0 : Int32)] [(.ref a)])) K
  obtain ⟨T1, X1, e1, st1⟩ := initO X0 hx hZ hown (wd hw 6 rfl) (wd hw 7 rfl) (wd hw 8 rfl) e0 (g := (mkF m 1 #[rv a, iv (2 : Int32), iv (0 : Int32)] [(.ref a)])) rfl (by rw [hml]; rfl) rfl (hb hby dI2_1) (by decide) (W := 0) (by show 2 * 0 + _ ≤ _; exact Nat.le_of_eq rfl) (by decide)
  refine Wlk.of (fun _ k => st1 _ k) ?_
  show Wlk p.tables e below (T1.setTop (mkF m 4 #[rv a, iv (2 : Int32), iv (0 : Int32)] [])) K
  refine Wlk.of (fun _ k => XS.aloadN X1.here hx rfl (hb hby dI2_4) rfl rfl k) ?_
  show Wlk p.tables e below (T1.setTop (mkF m 5 #[rv a, iv (2 : Int32), iv (0 : Int32)] [(.ref a)])) K
  refine Wlk.of (fun _ k => XS.iloadN X1.here hx rfl (hb hby dI2_5) rfl k) ?_
  show Wlk p.tables e below (T1.setTop (mkF m 6 #[rv a, iv (2 : Int32), iv (0 : Int32)] [(.int (2 : Int32)), (.ref a)])) K
  obtain ⟨T2, h2, X2, e2, E2, A2, st2⟩ := newL X1 hx hZ (wd hw 9 rfl) e1 (g := (mkF m 6 #[rv a, iv (2 : Int32), iv (0 : Int32)] [(.int (2 : Int32)), (.ref a)])) rfl (hb hby dI2_6) rfl (by decide) (cap := 2) (by decide) (by decide) (by decide) (by decide)
  obtain ⟨b2, g2⟩ : ∃ z, z = h0.size := ⟨_, rfl⟩
  rw [← g2] at A2 st2
  have ne3 : a ≠ b2 := Nat.ne_of_lt (Nat.lt_of_lt_of_le E_a.lt (Nat.le_of_eq g2.symm))
  have sz_b2 : h0.size ≤ b2 := Nat.le_trans K0.1 (Nat.le_of_eq g2.symm)
  have g_b2 : n0 ≤ b2 := Nat.le_trans Z0 sz_b2
  have K5 : Keep h0 h2 [a] := K0.ext E2
  have A_b2 : Arl Z h2 b2 .double [(.double (0 : UInt64)), (.double (0 : UInt64))] := A2
  refine Wlk.of (fun _ k => st2 _ k) ?_
  show Wlk p.tables e below (T2.setTop (mkF m 8 #[rv a, iv (2 : Int32), iv (0 : Int32)] [(.ref b2), (.ref a)])) K
  have f6 : Fld Z h2 a "com/example/selfwright/selfwright/optimiser/Scores" "objectives" "[D" .null := (F_a_objectives.ext E2)
  have f7 : Exa Z h2 a "com/example/selfwright/selfwright/optimiser/Scores" := (E_a.ext E2)
  obtain ⟨T8, h8, X8, e8, W8, st8⟩ := putF X2 hx hZ hown (host := "") (Or.inl (wd hw 10 rfl)) Via.refl e2 f6 f7 (Or.inr ⟨(wd hw 11 rfl), rfl, hnm⟩) (wd hw 1 rfl) (ty := (.array .double)) (by decide) rfl rfl (g := (mkF m 8 #[rv a, iv (2 : Int32), iv (0 : Int32)] [(.ref b2), (.ref a)])) rfl rfl (hb hby dI2_8)
  have Fw8 := f6.same W8
  refine Wlk.of (fun _ k => st8 _ k) ?_
  have K9 : Keep h0 h8 [a] := K5.wr W8 (Or.inl (List.mem_of_getElem? (i := 0) rfl))
  have N10 := Fr.snoc X8 N0 g_a
  show Wlk p.tables e below (T8.setTop (mkF m 11 #[rv a, iv (2 : Int32), iv (0 : Int32)] [])) K
  refine Wlk.of (fun _ k => XS.aloadN X8.here hx rfl (hb hby dI2_11) rfl rfl k) ?_
  show Wlk p.tables e below (T8.setTop (mkF m 12 #[rv a, iv (2 : Int32), iv (0 : Int32)] [(.ref a)])) K
  refine Wlk.of (fun _ k => XS.iloadN X8.here hx rfl (hb hby dI2_12) rfl k) ?_
  show Wlk p.tables e below (T8.setTop (mkF m 13 #[rv a, iv (2 : Int32), iv (0 : Int32)] [(.int (2 : Int32)), (.ref a)])) K
  refine Wlk.of (fun _ k => XS.iloadN X8.here hx rfl (hb hby dI2_13) rfl k) ?_
  show Wlk p.tables e below (T8.setTop (mkF m 14 #[rv a, iv (2 : Int32), iv (0 : Int32)] [(.int (0 : Int32)), (.int (2 : Int32)), (.ref a)])) K
  obtain ⟨T11, h11, X11, e11, E11, A11, I11, st11⟩ := gridL X8 hx hZ hown (C := "[D") (ad := "[[D") (by decide) (by decide) (wd hw 12 rfl) (wd hw 13 rfl) (wd hw 9 rfl) e8 (g := (mkF m 14 #[rv a, iv (2 : Int32), iv (0 : Int32)] [(.int (0 : Int32)), (.int (2 : Int32)), (.ref a)])) rfl (hb hby dI2_14) rfl (by decide) (by decide) (N := 2) (cap := 0) (by decide) (by decide) (by decide) (by decide) rfl rfl (by decide) (by decide)
  obtain ⟨b11, g11⟩ : ∃ z, z = h8.size := ⟨_, rfl⟩
  rw [← g11] at A11 I11 st11
  have f12 : Exa Z h8 a "com/example/selfwright/selfwright/optimiser/Scores" := (f7.wr W8)
  have f13 : Arl Z h8 b2 .double [(.double (0 : UInt64)), (.double (0 : UInt64))] := (A_b2.other W8 (Ne.symm ne3))
  have ne14 : a ≠ b11 := Nat.ne_of_lt (Nat.lt_of_lt_of_le f12.lt (Nat.le_of_eq g11.symm))
  have ne15 : b2 ≠ b11 := Nat.ne_of_lt (Nat.lt_of_lt_of_le f13.lt (Nat.le_of_eq g11.symm))
  have sz_b11 : h0.size ≤ b11 := Nat.le_trans K9.1 (Nat.le_of_eq g11.symm)
  have g_b11 : n0 ≤ b11 := Nat.le_trans Z0 sz_b11
  obtain ⟨b11_0, gb11_0⟩ : ∃ z, z = b11 + 1 + 0 := ⟨_, rfl⟩
  have ne17 : a ≠ b11_0 := Nat.ne_of_lt (Nat.lt_of_lt_of_le (Nat.lt_of_lt_of_le f12.lt (Nat.le_of_eq g11.symm)) (by omega))
  have ne18 : b2 ≠ b11_0 := Nat.ne_of_lt (Nat.lt_of_lt_of_le (Nat.lt_of_lt_of_le f13.lt (Nat.le_of_eq g11.symm)) (by omega))
  have ne19 : b11 ≠ b11_0 := by omega
  have sz_b11_0 : h0.size ≤ b11_0 := by have := sz_b11; omega
  have g_b11_0 : n0 ≤ b11_0 := Nat.le_trans Z0 sz_b11_0
  obtain ⟨b11_1, gb11_1⟩ : ∃ z, z = b11 + 1 + 1 := ⟨_, rfl⟩
  have ne20 : a ≠ b11_1 := Nat.ne_of_lt (Nat.lt_of_lt_of_le (Nat.lt_of_lt_of_le f12.lt (Nat.le_of_eq g11.symm)) (by omega))
  have ne21 : b2 ≠ b11_1 := Nat.ne_of_lt (Nat.lt_of_lt_of_le (Nat.lt_of_lt_of_le f13.lt (Nat.le_of_eq g11.symm)) (by omega))
  have ne22 : b11 ≠ b11_1 := by omega
  have ne23 : b11_0 ≠ b11_1 := by omega
  have sz_b11_1 : h0.size ≤ b11_1 := by have := sz_b11; omega
  have g_b11_1 : n0 ≤ b11_1 := Nat.le_trans Z0 sz_b11_1
  have K24 : Keep h0 h11 [a] := K9.ext E11
  have A_b11 : Arl Z h11 b11 (.array .double) [(.ref b11_0), (.ref b11_1)] := by rw [gb11_0, gb11_1]; exact A11
  have A_b11_0 : Arl Z h11 b11_0 .double [] := by rw [gb11_0]; exact I11 0 (by decide)
  have A_b11_1 : Arl Z h11 b11_1 .double [] := by rw [gb11_1]; exact I11 1 (by decide)
  refine Wlk.of (fun _ k => st11 _ k) ?_
  show Wlk p.tables e below (T11.setTop (mkF m 18 #[rv a, iv (2 : Int32), iv (0 : Int32)] [(.ref b11), (.ref a)])) K
  have f25 : Fld Z h11 a "com/example/selfwright/selfwright/optimiser/Scores" "violations" "[[D" .null := (((F_a_violations.ext E2).other W8 (Or.inr (slot_ne (Or.inr (wd hw 15 rfl)) (Or.inr (wd hw 11 rfl)) (by decide) (t := (.array (.array .double))) (t' := (.array .double)) (by decide) (by decide)))).ext E11)
  have f26 : Exa Z h11 a "com/example/selfwright/selfwright/optimiser/Scores" := (f12.ext E11)
  obtain ⟨T27, h27, X27, e27, W27, st27⟩ := putF X11 hx hZ hown (host := "") (Or.inl (wd hw 14 rfl)) Via.refl e11 f25 f26 (Or.inr ⟨(wd hw 15 rfl), rfl, hnm⟩) (wd hw 1 rfl) (ty := (.array (.array .double))) (by decide) rfl rfl (g := (mkF m 18 #[rv a, iv (2 : Int32), iv (0 : Int32)] [(.ref b11), (.ref a)])) rfl rfl (hb hby dI2_18)
  have Fw27 := f25.same W27
  refine Wlk.of (fun _ k => st27 _ k) ?_
  have K28 : Keep h0 h27 [a] := K24.wr W27 (Or.inl (List.mem_of_getElem? (i := 0) rfl))
  have N29 := Fr.snoc X27 N10 g_a
  show Wlk p.tables e below (T27.setTop (mkF m 21 #[rv a, iv (2 : Int32), iv (0 : Int32)] [])) K
  refine Wlk.of (fun _ k => XS.aloadN X27.here hx rfl (hb hby dI2_21) rfl rfl k) ?_
  show Wlk p.tables e below (T27.setTop (mkF m 22 #[rv a, iv (2 : Int32), iv (0 : Int32)] [(.ref a)])) K
  refine Wlk.of (fun _ k => XS.iloadN X27.here hx rfl (hb hby dI2_22) rfl k) ?_
  show Wlk p.tables e below (T27.setTop (mkF m 23 #[rv a, iv (2 : Int32), iv (0 : Int32)] [(.int (0 : Int32)), (.ref a)])) K
  have f30 : Fld Z h27 a "com/example/selfwright/selfwright/optimiser/Scores" "constraintCount" "I" (.int (0 : Int32)) := ((((F_a_constraintCount.ext E2).other W8 (Or.inr (slot_ne (Or.inr (wd hw 17 rfl)) (Or.inr (wd hw 11 rfl)) (by decide) (t := .int) (t' := (.array .double)) (by decide) (by decide)))).ext E11).other W27 (Or.inr (slot_ne (Or.inr (wd hw 17 rfl)) (Or.inr (wd hw 15 rfl)) (by decide) (t := .int) (t' := (.array (.array .double))) (by decide) (by decide))))
  have f31 : Exa Z h27 a "com/example/selfwright/selfwright/optimiser/Scores" := (f26.wr W27)
  obtain ⟨T32, h32, X32, e32, W32, st32⟩ := putF X27 hx hZ hown (host := "") (Or.inl (wd hw 16 rfl)) Via.refl e27 f30 f31 (Or.inr ⟨(wd hw 17 rfl), rfl, hnm⟩) (wd hw 1 rfl) (ty := .int) (by decide) rfl rfl (g := (mkF m 23 #[rv a, iv (2 : Int32), iv (0 : Int32)] [(.int (0 : Int32)), (.ref a)])) rfl rfl (hb hby dI2_23)
  have Fw32 := f30.same W32
  refine Wlk.of (fun _ k => st32 _ k) ?_
  have K33 : Keep h0 h32 [a] := K28.wr W32 (Or.inl (List.mem_of_getElem? (i := 0) rfl))
  have N34 := Fr.snoc X32 N29 g_a
  show Wlk p.tables e below (T32.setTop (mkF m 26 #[rv a, iv (2 : Int32), iv (0 : Int32)] [])) K
  have f35 : Fld Z h32 a "com/example/selfwright/selfwright/optimiser/Scores" "objectives" "[D" (.ref b2) := (((Fw8.ext E11).other W27 (Or.inr (slot_ne (Or.inr (wd hw 11 rfl)) (Or.inr (wd hw 15 rfl)) (by decide) (t := (.array .double)) (t' := (.array (.array .double))) (by decide) (by decide)))).other W32 (Or.inr (slot_ne (Or.inr (wd hw 11 rfl)) (Or.inr (wd hw 17 rfl)) (by decide) (t := (.array .double)) (t' := .int) (by decide) (by decide))))
  have f36 : Arl Z h32 b2 .double [(.double (0 : UInt64)), (.double (0 : UInt64))] := (((f13.ext E11).other W27 (Ne.symm ne3)).other W32 (Ne.symm ne3))
  refine hK none X32 (fun q => rfl) (fun fs hr => X32.returnOut hx hret (hb hby dI2_26) hr) ?_ (by decide) (by decide)
  rw [show T32.heap = h32 from e32]
  exact ⟨b2, rfl, N34, K33, sz_b2, f35, f36⟩
theorem dI1_0 : decode prog_21_method_1_code 0 = .ok (.aload_n 0, 1) := by decide +kernel
theorem dI1_1 : decode prog_21_method_1_code 1 = .ok (.invokespecial 1, 3) := by decide +kernel
theorem dI1_4 : decode prog_21_method_1_code 4 = .ok (.aload_n 0, 1) := by decide +kernel
theorem dI1_5 : decode prog_21_method_1_code 5 = .ok (.iload_n 1, 1) := by decide +kernel
theorem dI1_6 : decode prog_21_method_1_code 6 = .ok (.newarray .double, 2) := by decide +kernel
theorem dI1_8 : decode prog_21_method_1_code 8 = .ok (.putfield 7, 3) := by decide +kernel
theorem dI1_11 : decode prog_21_method_1_code 11 = .ok (.aload_n 0, 1) := by decide +kernel
theorem dI1_12 : decode prog_21_method_1_code 12 = .ok (.iload_n 1, 1) := by decide +kernel
theorem dI1_13 : decode prog_21_method_1_code 13 = .ok (.iload_n 2, 1) := by decide +kernel
theorem dI1_14 : decode prog_21_method_1_code 14 = .ok (.multianewarray 13 2, 4) := by decide +kernel
theorem dI1_18 : decode prog_21_method_1_code 18 = .ok (.putfield 15, 3) := by decide +kernel
theorem dI1_21 : decode prog_21_method_1_code 21 = .ok (.aload_n 0, 1) := by decide +kernel
theorem dI1_22 : decode prog_21_method_1_code 22 = .ok (.iload_n 2, 1) := by decide +kernel
theorem dI1_23 : decode prog_21_method_1_code 23 = .ok (.putfield 18, 3) := by decide +kernel
theorem dI1_26 : decode prog_21_method_1_code 26 = .ok (.return_, 1) := by decide +kernel
theorem ef_rmI1 (m : MethodId) (a : Addr) : entryFrame m #[(.ref a), (.int (1 : Int32)), (.int (0 : Int32))] 3 = mkF m 0 #[rv a, iv (1 : Int32), iv (0 : Int32)] [] := by first | (simp [entryFrame, mkF, argsToLocals, Value.category]; done) | rfl
def Q_rmI1 (Z : State) (a : Addr) (h0 : Heap) (n0 : Nat) (v : Option Value) (h : Heap) (L : List Loc) : Prop := ∃ ob : Addr, v = none ∧ Fr n0 L ∧ Keep h0 h [a] ∧ h0.size ≤ ob ∧ Fld Z h a "com/example/selfwright/selfwright/optimiser/Scores" "objectives" "[D" (.ref ob) ∧ Arl Z h ob .double [(.double (0 : UInt64))]
set_option maxRecDepth 65536 in
set_option maxHeartbeats 40000000 in
theorem rmI1 (l : Launch) (Z : State) (a0 : Array Value) (hw : ∀ d ∈ tables_1, d.before a0 Z = true) (a : Addr) (h0 : Heap) (n0 : Nat) (Z0 : n0 ≤ h0.size) (E_a : Exa Z h0 a "com/example/selfwright/selfwright/optimiser/Scores") (F_a_objectives : Fld Z h0 a "com/example/selfwright/selfwright/optimiser/Scores" "objectives" "[D" .null) (F_a_violations : Fld Z h0 a "com/example/selfwright/selfwright/optimiser/Scores" "violations" "[[D" .null) (F_a_constraintCount : Fld Z h0 a "com/example/selfwright/selfwright/optimiser/Scores" "constraintCount" "I" (.int (0 : Int32))) (g_a : n0 ≤ a) :
    Ctr l Z h0 (⟨"com/example/selfwright/selfwright/optimiser/Scores", "<init>", "(II)V"⟩ : MethodName) prog_21_method_1_code 3 none [] ({ frames := 1, cells := 3, slots := 2, locals := 12 } : Room) #[(.ref a), (.int (1 : Int32)), (.int (0 : Int32))] (Q_rmI1 Z a h0 n0) := by
  refine Ctr.make (plainFor_of_name pn_15) fun p e s m below meth c s₁ K hret hml hx hby hown hnm hZ X0 e0 hK => ?_
  have hown : s.vm.findClass "com/example/selfwright/selfwright/optimiser/Scores" = some m.cls := hown
  have N0 := Fr.nil n0
  have K0 : Keep h0 h0 [a] := Keep.refl _ _
  refine Wlk.of (fun _ k => castTop (ef_rmI1 m a) k) ?_
  show Wlk p.tables e below (s₁.setTop (mkF m 0 #[rv a, iv (1 : Int32), iv (0 : Int32)] [])) K
  refine Wlk.of (fun _ k => XS.aloadN X0.here hx rfl (hb hby dI1_0) rfl rfl k) ?_
  show Wlk p.tables e below (s₁.setTop (mkF m 1 #[rv a, iv (1 : Int32), iv (0 : Int32)] [(.ref a)])) K
  obtain ⟨T1, X1, e1, st1⟩ := initO X0 hx hZ hown (wd hw 6 rfl) (wd hw 7 rfl) (wd hw 8 rfl) e0 (g := (mkF m 1 #[rv a, iv (1 : Int32), iv (0 : Int32)] [(.ref a)])) rfl (by rw [hml]; rfl) rfl (hb hby dI1_1) (by decide) (W := 0) (by show 2 * 0 + _ ≤ _; exact Nat.le_of_eq rfl) (by decide)
  refine Wlk.of (fun _ k => st1 _ k) ?_
  show Wlk p.tables e below (T1.setTop (mkF m 4 #[rv a, iv (1 : Int32), iv (0 : Int32)] [])) K
  refine Wlk.of (fun _ k => XS.aloadN X1.here hx rfl (hb hby dI1_4) rfl rfl k) ?_
  show Wlk p.tables e below (T1.setTop (mkF m 5 #[rv a, iv (1 : Int32), iv (0 : Int32)] [(.ref a)])) K
  refine Wlk.of (fun _ k => XS.iloadN X1.here hx rfl (hb hby dI1_5) rfl k) ?_
  show Wlk p.tables e below (T1.setTop (mkF m 6 #[rv a, iv (1 : Int32), iv (0 : Int32)] [(.int (1 : Int32)), (.ref a)])) K
  obtain ⟨T2, h2, X2, e2, E2, A2, st2⟩ := newL X1 hx hZ (wd hw 9 rfl) e1 (g := (mkF m 6 #[rv a, iv (1 : Int32), iv (0 : Int32)] [(.int (1 : Int32)), (.ref a)])) rfl (hb hby dI1_6) rfl (by decide) (cap := 1) (by decide) (by decide) (by decide) (by decide)
  obtain ⟨b2, g2⟩ : ∃ z, z = h0.size := ⟨_, rfl⟩
  rw [← g2] at A2 st2
  have ne3 : a ≠ b2 := Nat.ne_of_lt (Nat.lt_of_lt_of_le E_a.lt (Nat.le_of_eq g2.symm))
  have sz_b2 : h0.size ≤ b2 := Nat.le_trans K0.1 (Nat.le_of_eq g2.symm)
  have g_b2 : n0 ≤ b2 := Nat.le_trans Z0 sz_b2
  have K5 : Keep h0 h2 [a] := K0.ext E2
  have A_b2 : Arl Z h2 b2 .double [(.double (0 : UInt64))] := A2
  refine Wlk.of (fun _ k => st2 _ k) ?_
  show Wlk p.tables e below (T2.setTop (mkF m 8 #[rv a, iv (1 : Int32), iv (0 : Int32)] [(.ref b2), (.ref a)])) K
  have f6 : Fld Z h2 a "com/example/selfwright/selfwright/optimiser/Scores" "objectives" "[D" .null := (F_a_objectives.ext E2)
  have f7 : Exa Z h2 a "com/example/selfwright/selfwright/optimiser/Scores" := (E_a.ext E2)
  obtain ⟨T8, h8, X8, e8, W8, st8⟩ := putF X2 hx hZ hown (host := "") (Or.inl (wd hw 10 rfl)) Via.refl e2 f6 f7 (Or.inr ⟨(wd hw 11 rfl), rfl, hnm⟩) (wd hw 1 rfl) (ty := (.array .double)) (by decide) rfl rfl (g := (mkF m 8 #[rv a, iv (1 : Int32), iv (0 : Int32)] [(.ref b2), (.ref a)])) rfl rfl (hb hby dI1_8)
  have Fw8 := f6.same W8
  refine Wlk.of (fun _ k => st8 _ k) ?_
  have K9 : Keep h0 h8 [a] := K5.wr W8 (Or.inl (List.mem_of_getElem? (i := 0) rfl))
  have N10 := Fr.snoc X8 N0 g_a
  show Wlk p.tables e below (T8.setTop (mkF m 11 #[rv a, iv (1 : Int32), iv (0 : Int32)] [])) K
  refine Wlk.of (fun _ k => XS.aloadN X8.here hx rfl (hb hby dI1_11) rfl rfl k) ?_
  show Wlk p.tables e below (T8.setTop (mkF m 12 #[rv a, iv (1 : Int32), iv (0 : Int32)] [(.ref a)])) K
  refine Wlk.of (fun _ k => XS.iloadN X8.here hx rfl (hb hby dI1_12) rfl k) ?_
  show Wlk p.tables e below (T8.setTop (mkF m 13 #[rv a, iv (1 : Int32), iv (0 : Int32)] [(.int (1 : Int32)), (.ref a)])) K
  refine Wlk.of (fun _ k => XS.iloadN X8.here hx rfl (hb hby dI1_13) rfl k) ?_
  show Wlk p.tables e below (T8.setTop (mkF m 14 #[rv a, iv (1 : Int32), iv (0 : Int32)] [(.int (0 : Int32)), (.int (1 : Int32)), (.ref a)])) K
  obtain ⟨T11, h11, X11, e11, E11, A11, I11, st11⟩ := gridL X8 hx hZ hown (C := "[D") (ad := "[[D") (by decide) (by decide) (wd hw 12 rfl) (wd hw 13 rfl) (wd hw 9 rfl) e8 (g := (mkF m 14 #[rv a, iv (1 : Int32), iv (0 : Int32)] [(.int (0 : Int32)), (.int (1 : Int32)), (.ref a)])) rfl (hb hby dI1_14) rfl (by decide) (by decide) (N := 1) (cap := 0) (by decide) (by decide) (by decide) (by decide) rfl rfl (by decide) (by decide)
  obtain ⟨b11, g11⟩ : ∃ z, z = h8.size := ⟨_, rfl⟩
  rw [← g11] at A11 I11 st11
  have f12 : Exa Z h8 a "com/example/selfwright/selfwright/optimiser/Scores" := (f7.wr W8)
  have f13 : Arl Z h8 b2 .double [(.double (0 : UInt64))] := (A_b2.other W8 (Ne.symm ne3))
  have ne14 : a ≠ b11 := Nat.ne_of_lt (Nat.lt_of_lt_of_le f12.lt (Nat.le_of_eq g11.symm))
  have ne15 : b2 ≠ b11 := Nat.ne_of_lt (Nat.lt_of_lt_of_le f13.lt (Nat.le_of_eq g11.symm))
  have sz_b11 : h0.size ≤ b11 := Nat.le_trans K9.1 (Nat.le_of_eq g11.symm)
  have g_b11 : n0 ≤ b11 := Nat.le_trans Z0 sz_b11
  obtain ⟨b11_0, gb11_0⟩ : ∃ z, z = b11 + 1 + 0 := ⟨_, rfl⟩
  have ne17 : a ≠ b11_0 := Nat.ne_of_lt (Nat.lt_of_lt_of_le (Nat.lt_of_lt_of_le f12.lt (Nat.le_of_eq g11.symm)) (by omega))
  have ne18 : b2 ≠ b11_0 := Nat.ne_of_lt (Nat.lt_of_lt_of_le (Nat.lt_of_lt_of_le f13.lt (Nat.le_of_eq g11.symm)) (by omega))
  have ne19 : b11 ≠ b11_0 := by omega
  have sz_b11_0 : h0.size ≤ b11_0 := by have := sz_b11; omega
  have g_b11_0 : n0 ≤ b11_0 := Nat.le_trans Z0 sz_b11_0
  have K20 : Keep h0 h11 [a] := K9.ext E11
  have A_b11 : Arl Z h11 b11 (.array .double) [(.ref b11_0)] := by rw [gb11_0]; exact A11
  have A_b11_0 : Arl Z h11 b11_0 .double [] := by rw [gb11_0]; exact I11 0 (by decide)
  refine Wlk.of (fun _ k => st11 _ k) ?_
  show Wlk p.tables e below (T11.setTop (mkF m 18 #[rv a, iv (1 : Int32), iv (0 : Int32)] [(.ref b11), (.ref a)])) K
  have f21 : Fld Z h11 a "com/example/selfwright/selfwright/optimiser/Scores" "violations" "[[D" .null := (((F_a_violations.ext E2).other W8 (Or.inr (slot_ne (Or.inr (wd hw 15 rfl)) (Or.inr (wd hw 11 rfl)) (by decide) (t := (.array (.array .double))) (t' := (.array .double)) (by decide) (by decide)))).ext E11)
  have f22 : Exa Z h11 a "com/example/selfwright/selfwright/optimiser/Scores" := (f12.ext E11)
  obtain ⟨T23, h23, X23, e23, W23, st23⟩ := putF X11 hx hZ hown (host := "") (Or.inl (wd hw 14 rfl)) Via.refl e11 f21 f22 (Or.inr ⟨(wd hw 15 rfl), rfl, hnm⟩) (wd hw 1 rfl) (ty := (.array (.array .double))) (by decide) rfl rfl (g := (mkF m 18 #[rv a, iv (1 : Int32), iv (0 : Int32)] [(.ref b11), (.ref a)])) rfl rfl (hb hby dI1_18)
  have Fw23 := f21.same W23
  refine Wlk.of (fun _ k => st23 _ k) ?_
  have K24 : Keep h0 h23 [a] := K20.wr W23 (Or.inl (List.mem_of_getElem? (i := 0) rfl))
  have N25 := Fr.snoc X23 N10 g_a
  show Wlk p.tables e below (T23.setTop (mkF m 21 #[rv a, iv (1 : Int32), iv (0 : Int32)] [])) K
  refine Wlk.of (fun _ k => XS.aloadN X23.here hx rfl (hb hby dI1_21) rfl rfl k) ?_
  show Wlk p.tables e below (T23.setTop (mkF m 22 #[rv a, iv (1 : Int32), iv (0 : Int32)] [(.ref a)])) K
  refine Wlk.of (fun _ k => XS.iloadN X23.here hx rfl (hb hby dI1_22) rfl k) ?_
  show Wlk p.tables e below (T23.setTop (mkF m 23 #[rv a, iv (1 : Int32), iv (0 : Int32)] [(.int (0 : Int32)), (.ref a)])) K
  have f26 : Fld Z h23 a "com/example/selfwright/selfwright/optimiser/Scores" "constraintCount" "I" (.int (0 : Int32)) := ((((F_a_constraintCount.ext E2).other W8 (Or.inr (slot_ne (Or.inr (wd hw 17 rfl)) (Or.inr (wd hw 11 rfl)) (by decide) (t := .int) (t' := (.array .double)) (by decide) (by decide)))).ext E11).other W23 (Or.inr (slot_ne (Or.inr (wd hw 17 rfl)) (Or.inr (wd hw 15 rfl)) (by decide) (t := .int) (t' := (.array (.array .double))) (by decide) (by decide))))
  have f27 : Exa Z h23 a "com/example/selfwright/selfwright/optimiser/Scores" := (f22.wr W23)
  obtain ⟨T28, h28, X28, e28, W28, st28⟩ := putF X23 hx hZ hown (host := "") (Or.inl (wd hw 16 rfl)) Via.refl e23 f26 f27 (Or.inr ⟨(wd hw 17 rfl), rfl, hnm⟩) (wd hw 1 rfl) (ty := .int) (by decide) rfl rfl (g := (mkF m 23 #[rv a, iv (1 : Int32), iv (0 : Int32)] [(.int (0 : Int32)), (.ref a)])) rfl rfl (hb hby dI1_23)
  have Fw28 := f26.same W28
  refine Wlk.of (fun _ k => st28 _ k) ?_
  have K29 : Keep h0 h28 [a] := K24.wr W28 (Or.inl (List.mem_of_getElem? (i := 0) rfl))
  have N30 := Fr.snoc X28 N25 g_a
  show Wlk p.tables e below (T28.setTop (mkF m 26 #[rv a, iv (1 : Int32), iv (0 : Int32)] [])) K
  have f31 : Fld Z h28 a "com/example/selfwright/selfwright/optimiser/Scores" "objectives" "[D" (.ref b2) := (((Fw8.ext E11).other W23 (Or.inr (slot_ne (Or.inr (wd hw 11 rfl)) (Or.inr (wd hw 15 rfl)) (by decide) (t := (.array .double)) (t' := (.array (.array .double))) (by decide) (by decide)))).other W28 (Or.inr (slot_ne (Or.inr (wd hw 11 rfl)) (Or.inr (wd hw 17 rfl)) (by decide) (t := (.array .double)) (t' := .int) (by decide) (by decide))))
  have f32 : Arl Z h28 b2 .double [(.double (0 : UInt64))] := (((f13.ext E11).other W23 (Ne.symm ne3)).other W28 (Ne.symm ne3))
  refine hK none X28 (fun q => rfl) (fun fs hr => X28.returnOut hx hret (hb hby dI1_26) hr) ?_ (by decide) (by decide)
  rw [show T28.heap = h28 from e28]
  exact ⟨b2, rfl, N30, K29, sz_b2, f31, f32⟩
theorem dF20_0 : decode prog_21_method_11_code 0 = .ok (.aload_n 0, 1) := by decide +kernel
theorem dF20_1 : decode prog_21_method_11_code 1 = .ok (.getfield 7, 3) := by decide +kernel
theorem dF20_4 : decode prog_21_method_11_code 4 = .ok (.iload_n 1, 1) := by decide +kernel
theorem dF20_5 : decode prog_21_method_11_code 5 = .ok (.ldc2_w 24, 3) := by decide +kernel
theorem dF20_8 : decode prog_21_method_11_code 8 = .ok (.dastore, 1) := by decide +kernel
theorem dF20_9 : decode prog_21_method_11_code 9 = .ok (.return_, 1) := by decide +kernel
theorem ef_rmF20 (m : MethodId) (a : Addr) : entryFrame m #[(.ref a), (.int (0 : Int32))] 2 = mkF m 0 #[rv a, iv (0 : Int32)] [] := by first | (simp [entryFrame, mkF, argsToLocals, Value.category]; done) | rfl
def Q_rmF20 (Z : State) (a : Addr) (ob : Addr) (x0 : UInt64) (x1 : UInt64) (h0 : Heap) (n0 : Nat) (v : Option Value) (h : Heap) (L : List Loc) : Prop := v = none ∧ Fr n0 L ∧ Keep h0 h [ob] ∧ Arl Z h ob .double [(.double (9218868437227405312 : UInt64)), (.double x1)]
set_option maxRecDepth 65536 in
set_option maxHeartbeats 40000000 in
theorem rmF20 (l : Launch) (Z : State) (a0 : Array Value) (hw : ∀ d ∈ tables_1, d.before a0 Z = true) (a : Addr) (ob : Addr) (x0 : UInt64) (x1 : UInt64) (h0 : Heap) (n0 : Nat) (Z0 : n0 ≤ h0.size) (F_a_objectives : Fld Z h0 a "com/example/selfwright/selfwright/optimiser/Scores" "objectives" "[D" (.ref ob)) (A_ob : Arl Z h0 ob .double [(.double x0), (.double x1)]) (g_ob : n0 ≤ ob) :
    Ctr l Z h0 (⟨"com/example/selfwright/selfwright/optimiser/Scores", "setFailed", "(I)V"⟩ : MethodName) prog_21_method_11_code 2 none [] ({ frames := 0, cells := 0, slots := 0, locals := 0 } : Room) #[(.ref a), (.int (0 : Int32))] (Q_rmF20 Z a ob x0 x1 h0 n0) := by
  refine Ctr.make (plainFor_of_name pn_15) fun p e s m below meth c s₁ K hret hml hx hby hown hnm hZ X0 e0 hK => ?_
  have hown : s.vm.findClass "com/example/selfwright/selfwright/optimiser/Scores" = some m.cls := hown
  have N0 := Fr.nil n0
  have K0 : Keep h0 h0 [ob] := Keep.refl _ _
  refine Wlk.of (fun _ k => castTop (ef_rmF20 m a) k) ?_
  show Wlk p.tables e below (s₁.setTop (mkF m 0 #[rv a, iv (0 : Int32)] [])) K
  refine Wlk.of (fun _ k => XS.aloadN X0.here hx rfl (hb hby dF20_0) rfl rfl k) ?_
  show Wlk p.tables e below (s₁.setTop (mkF m 1 #[rv a, iv (0 : Int32)] [(.ref a)])) K
  obtain ⟨T1, X1, e1, st1⟩ := getF X0 hx hZ hown (host := "") (Or.inl (wd hw 10 rfl)) Via.refl e0 F_a_objectives (g := (mkF m 1 #[rv a, iv (0 : Int32)] [(.ref a)])) rfl rfl (hb hby dF20_1)
  refine Wlk.of (fun _ k => st1 _ k) ?_
  show Wlk p.tables e below (T1.setTop (mkF m 4 #[rv a, iv (0 : Int32)] [(.ref ob)])) K
  refine Wlk.of (fun _ k => XS.iloadN X1.here hx rfl (hb hby dF20_4) rfl k) ?_
  show Wlk p.tables e below (T1.setTop (mkF m 5 #[rv a, iv (0 : Int32)] [(.int (0 : Int32)), (.ref ob)])) K
  refine Wlk.of (fun _ k => X1.ldc2DoubleC hx hown (mvT hZ (wd hw 23 rfl)) (g := (mkF m 5 #[rv a, iv (0 : Int32)] [(.int (0 : Int32)), (.ref ob)])) rfl (hb hby dF20_5) _ k) ?_
  show Wlk p.tables e below (T1.setTop (mkF m 8 #[rv a, iv (0 : Int32)] [(.double (9218868437227405312 : UInt64)), (.int (0 : Int32)), (.ref ob)])) K
  obtain ⟨T2, h2, X2, e2, W2, V2, st2⟩ := stDl X1 hx hZ e1 A_ob (j := (0 : Int32)) (i := 0) (by decide) (by decide) (show 0 < 2 by decide) (g := (mkF m 8 #[rv a, iv (0 : Int32)] [(.double (9218868437227405312 : UInt64)), (.int (0 : Int32)), (.ref ob)])) rfl rfl (hb hby dF20_8)
  refine Wlk.of (fun _ k => st2 _ k) ?_
  have K3 : Keep h0 h2 [ob] := K0.wr W2 (Or.inl (List.mem_of_getElem? (i := 0) rfl))
  have N4 := Fr.snoc X2 N0 g_ob
  have Vw2 : Arl Z h2 ob .double [(.double (9218868437227405312 : UInt64)), (.double x1)] := V2
  show Wlk p.tables e below (T2.setTop (mkF m 9 #[rv a, iv (0 : Int32)] [])) K
  refine hK none X2 (fun q => rfl) (fun fs hr => X2.returnOut hx hret (hb hby dF20_9) hr) ?_ (by decide) (by decide)
  rw [show T2.heap = h2 from e2]
  exact ⟨rfl, N4, K3, Vw2⟩
theorem pd_37 : parseMethodDescriptor "(D)Z" = some ⟨[.double], some .boolean⟩ := by decide +kernel
theorem dT20_0 : decode prog_21_method_9_code 0 = .ok (.aload_n 0, 1) := by decide +kernel
theorem dT20_1 : decode prog_21_method_9_code 1 = .ok (.getfield 7, 3) := by decide +kernel
theorem dT20_4 : decode prog_21_method_9_code 4 = .ok (.iload_n 1, 1) := by decide +kernel
theorem dT20_5 : decode prog_21_method_9_code 5 = .ok (.dload_n 2, 1) := by decide +kernel
theorem dT20_6 : decode prog_21_method_9_code 6 = .ok (.invokestatic 38, 3) := by decide +kernel
theorem dT20_9 : decode prog_21_method_9_code 9 = .ok (.ifCond .eq 7, 3) := by decide +kernel
theorem dT20_12 : decode prog_21_method_9_code 12 = .ok (.dload_n 2, 1) := by decide +kernel
theorem dT20_13 : decode prog_21_method_9_code 13 = .ok (.goto 6, 3) := by decide +kernel
theorem dT20_19 : decode prog_21_method_9_code 19 = .ok (.dastore, 1) := by decide +kernel
theorem dT20_20 : decode prog_21_method_9_code 20 = .ok (.return_, 1) := by decide +kernel
theorem ef_rmT20 (m : MethodId) (a : Addr) (u : UInt64) : entryFrame m #[(.ref a), (.int (0 : Int32)), (.double u)] 4 = mkF m 0 #[rv a, iv (0 : Int32), dv u, sd] [] := by first | (simp [entryFrame, mkF, argsToLocals, Value.category]; done) | rfl
def Q_rmT20 (Z : State) (a : Addr) (u : UInt64) (ob : Addr) (x0 : UInt64) (x1 : UInt64) (h0 : Heap) (n0 : Nat) (v : Option Value) (h : Heap) (L : List Loc) : Prop := v = none ∧ Fr n0 L ∧ Keep h0 h [ob] ∧ Arl Z h ob .double [(.double u), (.double x1)]
set_option maxRecDepth 65536 in
set_option maxHeartbeats 40000000 in
theorem rmT20 (l : Launch) (Z : State) (a0 : Array Value) (hw : ∀ d ∈ tables_1, d.before a0 Z = true) (a : Addr) (u : UInt64) (ob : Addr) (x0 : UInt64) (x1 : UInt64) (h0 : Heap) (n0 : Nat) (Z0 : n0 ≤ h0.size) (F_a_objectives : Fld Z h0 a "com/example/selfwright/selfwright/optimiser/Scores" "objectives" "[D" (.ref ob)) (A_ob : Arl Z h0 ob .double [(.double x0), (.double x1)]) (g_ob : n0 ≤ ob) (hu : Fl.Fin64 u) :
    Ctr l Z h0 (⟨"com/example/selfwright/selfwright/optimiser/Scores", "set", "(ID)V"⟩ : MethodName) prog_21_method_9_code 4 none [] ({ frames := 2, cells := 0, slots := 0, locals := 28 } : Room) #[(.ref a), (.int (0 : Int32)), (.double u)] (Q_rmT20 Z a u ob x0 x1 h0 n0) := by
  refine Ctr.make (plainFor_of_name pn_15) fun p e s m below meth c s₁ K hret hml hx hby hown hnm hZ X0 e0 hK => ?_
  have hown : s.vm.findClass "com/example/selfwright/selfwright/optimiser/Scores" = some m.cls := hown
  have N0 := Fr.nil n0
  have K0 : Keep h0 h0 [ob] := Keep.refl _ _
  refine Wlk.of (fun _ k => castTop (ef_rmT20 m a u) k) ?_
  show Wlk p.tables e below (s₁.setTop (mkF m 0 #[rv a, iv (0 : Int32), dv u, sd] [])) K
  refine Wlk.of (fun _ k => XS.aloadN X0.here hx rfl (hb hby dT20_0) rfl rfl k) ?_
  show Wlk p.tables e below (s₁.setTop (mkF m 1 #[rv a, iv (0 : Int32), dv u, sd] [(.ref a)])) K
  obtain ⟨T1, X1, e1, st1⟩ := getF X0 hx hZ hown (host := "") (Or.inl (wd hw 10 rfl)) Via.refl e0 F_a_objectives (g := (mkF m 1 #[rv a, iv (0 : Int32), dv u, sd] [(.ref a)])) rfl rfl (hb hby dT20_1)
  refine Wlk.of (fun _ k => st1 _ k) ?_
  show Wlk p.tables e below (T1.setTop (mkF m 4 #[rv a, iv (0 : Int32), dv u, sd] [(.ref ob)])) K
  refine Wlk.of (fun _ k => XS.iloadN X1.here hx rfl (hb hby dT20_4) rfl k) ?_
  show Wlk p.tables e below (T1.setTop (mkF m 5 #[rv a, iv (0 : Int32), dv u, sd] [(.int (0 : Int32)), (.ref ob)])) K
  refine Wlk.of (fun _ k => XS.dloadN X1.here hx rfl (hb hby dT20_5) rfl k) ?_
  show Wlk p.tables e below (T1.setTop (mkF m 6 #[rv a, iv (0 : Int32), dv u, sd] [(.double u), (.int (0 : Int32)), (.ref ob)])) K
  obtain ⟨T2, X2, e2, st2⟩ := paidS (y := (⟨"java/lang/Double", "isFinite", "(D)Z"⟩ : MethodName)) (val := (.int (1 : Int32))) X1 hx hZ e1 hown (wd hw 29 rfl) (wd hw 30 rfl) (wd hw 31 rfl) (wd hw 32 rfl) (by decide) (W := 2) (Fl.IsFinite.pays (by decide) (by decide) (by simp only [Fl.IsFinite.tab, Cond.before_and, Bool.and_eq_true]; exact ⟨mvT hZ (wd hw 32 rfl), mvT hZ (wd hw 33 rfl), mvT hZ (wd hw 34 rfl), mvT hZ (wd hw 35 rfl), mvT hZ (wd hw 36 rfl), mvT hZ (wd hw 37 rfl)⟩) (mvT hZ (wd hw 31 rfl))) pd_37 (g := (mkF m 6 #[rv a, iv (0 : Int32), dv u, sd] [(.double u), (.int (0 : Int32)), (.ref ob)])) rfl (by rw [hml]; rfl) (argsL := [(.double u)]) (rest := [(.int (0 : Int32)), (.ref ob)]) rfl rfl (by show 2 * 0 + _ ≤ _; exact Nat.le_of_eq rfl) (hb hby dT20_6) (fun _ _ => ⟨by show (0 : Nat) ≤ _; decide, by show (0 : Nat) ≤ _; decide, u, rfl, hu.noNaN⟩) (fun A v B h => ⟨by rw [h.2 u ⟨rfl, hu.noNaN⟩, if_pos ((Fl.le_max_iff hu.noNaN).mpr hu)], h.1⟩)
  refine Wlk.of (fun _ k => st2 _ k) ?_
  show Wlk p.tables e below (T2.setTop (mkF m 9 #[rv a, iv (0 : Int32), dv u, sd] [(.int (1 : Int32)), (.int (0 : Int32)), (.ref ob)])) K
  refine Wlk.of (fun _ k => XS.ifNo X2.here hx rfl (hb hby dT20_9) rfl ((if0 _ _).trans (feq (by decide : ¬ ((1 : Int32) = (0 : Int32)))).1) k) ?_
  show Wlk p.tables e below (T2.setTop (mkF m 12 #[rv a, iv (0 : Int32), dv u, sd] [(.int (0 : Int32)), (.ref ob)])) K
  refine Wlk.of (fun _ k => XS.dloadN X2.here hx rfl (hb hby dT20_12) rfl k) ?_
  show Wlk p.tables e below (T2.setTop (mkF m 13 #[rv a, iv (0 : Int32), dv u, sd] [(.double u), (.int (0 : Int32)), (.ref ob)])) K
  refine Wlk.of (fun _ k => XS.goto X2.here hx rfl (pc0 := 13) (pc' := 19) rfl (hb hby dT20_13) (by decide) (by decide) k) ?_
  show Wlk p.tables e below (T2.setTop (mkF m 19 #[rv a, iv (0 : Int32), dv u, sd] [(.double u), (.int (0 : Int32)), (.ref ob)])) K
  obtain ⟨T3, h3, X3, e3, W3, V3, st3⟩ := stDl X2 hx hZ e2 A_ob (j := (0 : Int32)) (i := 0) (by decide) (by decide) (show 0 < 2 by decide) (g := (mkF m 19 #[rv a, iv (0 : Int32), dv u, sd] [(.double u), (.int (0 : Int32)), (.ref ob)])) rfl rfl (hb hby dT20_19)
  refine Wlk.of (fun _ k => st3 _ k) ?_
  have K4 : Keep h0 h3 [ob] := K0.wr W3 (Or.inl (List.mem_of_getElem? (i := 0) rfl))
  have N5 := Fr.snoc X3 N0 g_ob
  have Vw3 : Arl Z h3 ob .double [(.double u), (.double x1)] := V3
  show Wlk p.tables e below (T3.setTop (mkF m 20 #[rv a, iv (0 : Int32), dv u, sd] [])) K
  refine hK none X3 (fun q => rfl) (fun fs hr => X3.returnOut hx hret (hb hby dT20_20) hr) ?_ (by decide) (by decide)
  rw [show T3.heap = h3 from e3]
  exact ⟨rfl, N5, K4, Vw3⟩
theorem dF21_0 : decode prog_21_method_11_code 0 = .ok (.aload_n 0, 1) := by decide +kernel
theorem dF21_1 : decode prog_21_method_11_code 1 = .ok (.getfield 7, 3) := by decide +kernel
theorem dF21_4 : decode prog_21_method_11_code 4 = .ok (.iload_n 1, 1) := by decide +kernel
theorem dF21_5 : decode prog_21_method_11_code 5 = .ok (.ldc2_w 24, 3) := by decide +kernel
theorem dF21_8 : decode prog_21_method_11_code 8 = .ok (.dastore, 1) := by decide +kernel
theorem dF21_9 : decode prog_21_method_11_code 9 = .ok (.return_, 1) := by decide +kernel
theorem ef_rmF21 (m : MethodId) (a : Addr) : entryFrame m #[(.ref a), (.int (1 : Int32))] 2 = mkF m 0 #[rv a, iv (1 : Int32)] [] := by first | (simp [entryFrame, mkF, argsToLocals, Value.category]; done) | rfl
def Q_rmF21 (Z : State) (a : Addr) (ob : Addr) (x0 : UInt64) (x1 : UInt64) (h0 : Heap) (n0 : Nat) (v : Option Value) (h : Heap) (L : List Loc) : Prop := v = none ∧ Fr n0 L ∧ Keep h0 h [ob] ∧ Arl Z h ob .double [(.double x0), (.double (9218868437227405312 : UInt64))]
set_option maxRecDepth 65536 in
set_option maxHeartbeats 40000000 in
theorem rmF21 (l : Launch) (Z : State) (a0 : Array Value) (hw : ∀ d ∈ tables_1, d.before a0 Z = true) (a : Addr) (ob : Addr) (x0 : UInt64) (x1 : UInt64) (h0 : Heap) (n0 : Nat) (Z0 : n0 ≤ h0.size) (F_a_objectives : Fld Z h0 a "com/example/selfwright/selfwright/optimiser/Scores" "objectives" "[D" (.ref ob)) (A_ob : Arl Z h0 ob .double [(.double x0), (.double x1)]) (g_ob : n0 ≤ ob) :
    Ctr l Z h0 (⟨"com/example/selfwright/selfwright/optimiser/Scores", "setFailed", "(I)V"⟩ : MethodName) prog_21_method_11_code 2 none [] ({ frames := 0, cells := 0, slots := 0, locals := 0 } : Room) #[(.ref a), (.int (1 : Int32))] (Q_rmF21 Z a ob x0 x1 h0 n0) := by
  refine Ctr.make (plainFor_of_name pn_15) fun p e s m below meth c s₁ K hret hml hx hby hown hnm hZ X0 e0 hK => ?_
  have hown : s.vm.findClass "com/example/selfwright/selfwright/optimiser/Scores" = some m.cls := hown
  have N0 := Fr.nil n0
  have K0 : Keep h0 h0 [ob] := Keep.refl _ _
  refine Wlk.of (fun _ k => castTop (ef_rmF21 m a) k) ?_
  show Wlk p.tables e below (s₁.setTop (mkF m 0 #[rv a, iv (1 : Int32)] [])) K
  refine Wlk.of (fun _ k => XS.aloadN X0.here hx rfl (hb hby dF21_0) rfl rfl k) ?_
  show Wlk p.tables e below (s₁.setTop (mkF m 1 #[rv a, iv (1 : Int32)] [(.ref a)])) K
  obtain ⟨T1, X1, e1, st1⟩ := getF X0 hx hZ hown (host := "") (Or.inl (wd hw 10 rfl)) Via.refl e0 F_a_objectives (g := (mkF m 1 #[rv a, iv (1 : Int32)] [(.ref a)])) rfl rfl (hb hby dF21_1)
  refine Wlk.of (fun _ k => st1 _ k) ?_
  show Wlk p.tables e below (T1.setTop (mkF m 4 #[rv a, iv (1 : Int32)] [(.ref ob)])) K
  refine Wlk.of (fun _ k => XS.iloadN X1.here hx rfl (hb hby dF21_4) rfl k) ?_
  show Wlk p.tables e below (T1.setTop (mkF m 5 #[rv a, iv (1 : Int32)] [(.int (1 : Int32)), (.ref ob)])) K
  refine Wlk.of (fun _ k => X1.ldc2DoubleC hx hown (mvT hZ (wd hw 23 rfl)) (g := (mkF m 5 #[rv a, iv (1 : Int32)] [(.int (1 : Int32)), (.ref ob)])) rfl (hb hby dF21_5) _ k) ?_
  show Wlk p.tables e below (T1.setTop (mkF m 8 #[rv a, iv (1 : Int32)] [(.double (9218868437227405312 : UInt64)), (.int (1 : Int32)), (.ref ob)])) K
  obtain ⟨T2, h2, X2, e2, W2, V2, st2⟩ := stDl X1 hx hZ e1 A_ob (j := (1 : Int32)) (i := 1) (by decide) (by decide) (show 1 < 2 by decide) (g := (mkF m 8 #[rv a, iv (1 : Int32)] [(.double (9218868437227405312 : UInt64)), (.int (1 : Int32)), (.ref ob)])) rfl rfl (hb hby dF21_8)
  refine Wlk.of (fun _ k => st2 _ k) ?_
  have K3 : Keep h0 h2 [ob] := K0.wr W2 (Or.inl (List.mem_of_getElem? (i := 0) rfl))
  have N4 := Fr.snoc X2 N0 g_ob
  have Vw2 : Arl Z h2 ob .double [(.double x0), (.double (9218868437227405312 : UInt64))] := V2
  show Wlk p.tables e below (T2.setTop (mkF m 9 #[rv a, iv (1 : Int32)] [])) K
  refine hK none X2 (fun q => rfl) (fun fs hr => X2.returnOut hx hret (hb hby dF21_9) hr) ?_ (by decide) (by decide)
  rw [show T2.heap = h2 from e2]
  exact ⟨rfl, N4, K3, Vw2⟩
theorem dT21_0 : decode prog_21_method_9_code 0 = .ok (.aload_n 0, 1) := by decide +kernel
theorem dT21_1 : decode prog_21_method_9_code 1 = .ok (.getfield 7, 3) := by decide +kernel
theorem dT21_4 : decode prog_21_method_9_code 4 = .ok (.iload_n 1, 1) := by decide +kernel
theorem dT21_5 : decode prog_21_method_9_code 5 = .ok (.dload_n 2, 1) := by decide +kernel
theorem dT21_6 : decode prog_21_method_9_code 6 = .ok (.invokestatic 38, 3) := by decide +kernel
theorem dT21_9 : decode prog_21_method_9_code 9 = .ok (.ifCond .eq 7, 3) := by decide +kernel
theorem dT21_12 : decode prog_21_method_9_code 12 = .ok (.dload_n 2, 1) := by decide +kernel
theorem dT21_13 : decode prog_21_method_9_code 13 = .ok (.goto 6, 3) := by decide +kernel
theorem dT21_19 : decode prog_21_method_9_code 19 = .ok (.dastore, 1) := by decide +kernel
theorem dT21_20 : decode prog_21_method_9_code 20 = .ok (.return_, 1) := by decide +kernel
theorem ef_rmT21 (m : MethodId) (a : Addr) (u : UInt64) : entryFrame m #[(.ref a), (.int (1 : Int32)), (.double u)] 4 = mkF m 0 #[rv a, iv (1 : Int32), dv u, sd] [] := by first | (simp [entryFrame, mkF, argsToLocals, Value.category]; done) | rfl
def Q_rmT21 (Z : State) (a : Addr) (u : UInt64) (ob : Addr) (x0 : UInt64) (x1 : UInt64) (h0 : Heap) (n0 : Nat) (v : Option Value) (h : Heap) (L : List Loc) : Prop := v = none ∧ Fr n0 L ∧ Keep h0 h [ob] ∧ Arl Z h ob .double [(.double x0), (.double u)]
set_option maxRecDepth 65536 in
set_option maxHeartbeats 40000000 in
theorem rmT21 (l : Launch) (Z : State) (a0 : Array Value) (hw : ∀ d ∈ tables_1, d.before a0 Z = true) (a : Addr) (u : UInt64) (ob : Addr) (x0 : UInt64) (x1 : UInt64) (h0 : Heap) (n0 : Nat) (Z0 : n0 ≤ h0.size) (F_a_objectives : Fld Z h0 a "com/example/selfwright/selfwright/optimiser/Scores" "objectives" "[D" (.ref ob)) (A_ob : Arl Z h0 ob .double [(.double x0), (.double x1)]) (g_ob : n0 ≤ ob) (hu : Fl.Fin64 u) :
    Ctr l Z h0 (⟨"com/example/selfwright/selfwright/optimiser/Scores", "set", "(ID)V"⟩ : MethodName) prog_21_method_9_code 4 none [] ({ frames := 2, cells := 0, slots := 0, locals := 28 } : Room) #[(.ref a), (.int (1 : Int32)), (.double u)] (Q_rmT21 Z a u ob x0 x1 h0 n0) := by
  refine Ctr.make (plainFor_of_name pn_15) fun p e s m below meth c s₁ K hret hml hx hby hown hnm hZ X0 e0 hK => ?_
  have hown : s.vm.findClass "com/example/selfwright/selfwright/optimiser/Scores" = some m.cls := hown
  have N0 := Fr.nil n0
  have K0 : Keep h0 h0 [ob] := Keep.refl _ _
  refine Wlk.of (fun _ k => castTop (ef_rmT21 m a u) k) ?_
  show Wlk p.tables e below (s₁.setTop (mkF m 0 #[rv a, iv (1 : Int32), dv u, sd] [])) K
  refine Wlk.of (fun _ k => XS.aloadN X0.here hx rfl (hb hby dT21_0) rfl rfl k) ?_
  show Wlk p.tables e below (s₁.setTop (mkF m 1 #[rv a, iv (1 : Int32), dv u, sd] [(.ref a)])) K
  obtain ⟨T1, X1, e1, st1⟩ := getF X0 hx hZ hown (host := "") (Or.inl (wd hw 10 rfl)) Via.refl e0 F_a_objectives (g := (mkF m 1 #[rv a, iv (1 : Int32), dv u, sd] [(.ref a)])) rfl rfl (hb hby dT21_1)
  refine Wlk.of (fun _ k => st1 _ k) ?_
  show Wlk p.tables e below (T1.setTop (mkF m 4 #[rv a, iv (1 : Int32), dv u, sd] [(.ref ob)])) K
  refine Wlk.of (fun _ k => XS.iloadN X1.here hx rfl (hb hby dT21_4) rfl k) ?_
  show Wlk p.tables e below (T1.setTop (mkF m 5 #[rv a, iv (1 : Int32), dv u, sd] [(.int (1 : Int32)), (.ref ob)])) K
  refine Wlk.of (fun _ k => XS.dloadN X1.here hx rfl (hb hby dT21_5) rfl k) ?_
  show Wlk p.tables e below (T1.setTop (mkF m 6 #[rv a, iv (1 : Int32), dv u, sd] [(.double u), (.int (1 : Int32)), (.ref ob)])) K
  obtain ⟨T2, X2, e2, st2⟩ := paidS (y := (⟨"java/lang/Double", "isFinite", "(D)Z"⟩ : MethodName)) (val := (.int (1 : Int32))) X1 hx hZ e1 hown (wd hw 29 rfl) (wd hw 30 rfl) (wd hw 31 rfl) (wd hw 32 rfl) (by decide) (W := 2) (Fl.IsFinite.pays (by decide) (by decide) (by simp only [Fl.IsFinite.tab, Cond.before_and, Bool.and_eq_true]; exact ⟨mvT hZ (wd hw 32 rfl), mvT hZ (wd hw 33 rfl), mvT hZ (wd hw 34 rfl), mvT hZ (wd hw 35 rfl), mvT hZ (wd hw 36 rfl), mvT hZ (wd hw 37 rfl)⟩) (mvT hZ (wd hw 31 rfl))) pd_37 (g := (mkF m 6 #[rv a, iv (1 : Int32), dv u, sd] [(.double u), (.int (1 : Int32)), (.ref ob)])) rfl (by rw [hml]; rfl) (argsL := [(.double u)]) (rest := [(.int (1 : Int32)), (.ref ob)]) rfl rfl (by show 2 * 0 + _ ≤ _; exact Nat.le_of_eq rfl) (hb hby dT21_6) (fun _ _ => ⟨by show (0 : Nat) ≤ _; decide, by show (0 : Nat) ≤ _; decide, u, rfl, hu.noNaN⟩) (fun A v B h => ⟨by rw [h.2 u ⟨rfl, hu.noNaN⟩, if_pos ((Fl.le_max_iff hu.noNaN).mpr hu)], h.1⟩)
  refine Wlk.of (fun _ k => st2 _ k) ?_
  show Wlk p.tables e below (T2.setTop (mkF m 9 #[rv a, iv (1 : Int32), dv u, sd] [(.int (1 : Int32)), (.int (1 : Int32)), (.ref ob)])) K
  refine Wlk.of (fun _ k => XS.ifNo X2.here hx rfl (hb hby dT21_9) rfl ((if0 _ _).trans (feq (by decide : ¬ ((1 : Int32) = (0 : Int32)))).1) k) ?_
  show Wlk p.tables e below (T2.setTop (mkF m 12 #[rv a, iv (1 : Int32), dv u, sd] [(.int (1 : Int32)), (.ref ob)])) K
  refine Wlk.of (fun _ k => XS.dloadN X2.here hx rfl (hb hby dT21_12) rfl k) ?_
  show Wlk p.tables e below (T2.setTop (mkF m 13 #[rv a, iv (1 : Int32), dv u, sd] [(.double u), (.int (1 : Int32)), (.ref ob)])) K
  refine Wlk.of (fun _ k => XS.goto X2.here hx rfl (pc0 := 13) (pc' := 19) rfl (hb hby dT21_13) (by decide) (by decide) k) ?_
  show Wlk p.tables e below (T2.setTop (mkF m 19 #[rv a, iv (1 : Int32), dv u, sd] [(.double u), (.int (1 : Int32)), (.ref ob)])) K
  obtain ⟨T3, h3, X3, e3, W3, V3, st3⟩ := stDl X2 hx hZ e2 A_ob (j := (1 : Int32)) (i := 1) (by decide) (by decide) (show 1 < 2 by decide) (g := (mkF m 19 #[rv a, iv (1 : Int32), dv u, sd] [(.double u), (.int (1 : Int32)), (.ref ob)])) rfl rfl (hb hby dT21_19)
  refine Wlk.of (fun _ k => st3 _ k) ?_
  have K4 : Keep h0 h3 [ob] := K0.wr W3 (Or.inl (List.mem_of_getElem? (i := 0) rfl))
  have N5 := Fr.snoc X3 N0 g_ob
  have Vw3 : Arl Z h3 ob .double [(.double x0), (.double u)] := V3
  show Wlk p.tables e below (T3.setTop (mkF m 20 #[rv a, iv (1 : Int32), dv u, sd] [])) K
  refine hK none X3 (fun q => rfl) (fun fs hr => X3.returnOut hx hret (hb hby dT21_20) hr) ?_ (by decide) (by decide)
  rw [show T3.heap = h3 from e3]
  exact ⟨rfl, N5, K4, Vw3⟩
theorem dF10_0 : decode prog_21_method_11_code 0 = .ok (.aload_n 0, 1) := by decide +kernel
theorem dF10_1 : decode prog_21_method_11_code 1 = .ok (.getfield 7, 3) := by decide +kernel
theorem dF10_4 : decode prog_21_method_11_code 4 = .ok (.iload_n 1, 1) := by decide +kernel
theorem dF10_5 : decode prog_21_method_11_code 5 = .ok (.ldc2_w 24, 3) := by decide +kernel
theorem dF10_8 : decode prog_21_method_11_code 8 = .ok (.dastore, 1) := by decide +kernel
theorem dF10_9 : decode prog_21_method_11_code 9 = .ok (.return_, 1) := by decide +kernel
theorem ef_rmF10 (m : MethodId) (a : Addr) : entryFrame m #[(.ref a), (.int (0 : Int32))] 2 = mkF m 0 #[rv a, iv (0 : Int32)] [] := by first | (simp [entryFrame, mkF, argsToLocals, Value.category]; done) | rfl
def Q_rmF10 (Z : State) (a : Addr) (ob : Addr) (x0 : UInt64) (h0 : Heap) (n0 : Nat) (v : Option Value) (h : Heap) (L : List Loc) : Prop := v = none ∧ Fr n0 L ∧ Keep h0 h [ob] ∧ Arl Z h ob .double [(.double (9218868437227405312 : UInt64))]
set_option maxRecDepth 65536 in
set_option maxHeartbeats 40000000 in
theorem rmF10 (l : Launch) (Z : State) (a0 : Array Value) (hw : ∀ d ∈ tables_1, d.before a0 Z = true) (a : Addr) (ob : Addr) (x0 : UInt64) (h0 : Heap) (n0 : Nat) (Z0 : n0 ≤ h0.size) (F_a_objectives : Fld Z h0 a "com/example/selfwright/selfwright/optimiser/Scores" "objectives" "[D" (.ref ob)) (A_ob : Arl Z h0 ob .double [(.double x0)]) (g_ob : n0 ≤ ob) :
    Ctr l Z h0 (⟨"com/example/selfwright/selfwright/optimiser/Scores", "setFailed", "(I)V"⟩ : MethodName) prog_21_method_11_code 2 none [] ({ frames := 0, cells := 0, slots := 0, locals := 0 } : Room) #[(.ref a), (.int (0 : Int32))] (Q_rmF10 Z a ob x0 h0 n0) := by
  refine Ctr.make (plainFor_of_name pn_15) fun p e s m below meth c s₁ K hret hml hx hby hown hnm hZ X0 e0 hK => ?_
  have hown : s.vm.findClass "com/example/selfwright/selfwright/optimiser/Scores" = some m.cls := hown
  have N0 := Fr.nil n0
  have K0 : Keep h0 h0 [ob] := Keep.refl _ _
  refine Wlk.of (fun _ k => castTop (ef_rmF10 m a) k) ?_
  show Wlk p.tables e below (s₁.setTop (mkF m 0 #[rv a, iv (0 : Int32)] [])) K
  refine Wlk.of (fun _ k => XS.aloadN X0.here hx rfl (hb hby dF10_0) rfl rfl k) ?_
  show Wlk p.tables e below (s₁.setTop (mkF m 1 #[rv a, iv (0 : Int32)] [(.ref a)])) K
  obtain ⟨T1, X1, e1, st1⟩ := getF X0 hx hZ hown (host := "") (Or.inl (wd hw 10 rfl)) Via.refl e0 F_a_objectives (g := (mkF m 1 #[rv a, iv (0 : Int32)] [(.ref a)])) rfl rfl (hb hby dF10_1)
  refine Wlk.of (fun _ k => st1 _ k) ?_
  show Wlk p.tables e below (T1.setTop (mkF m 4 #[rv a, iv (0 : Int32)] [(.ref ob)])) K
  refine Wlk.of (fun _ k => XS.iloadN X1.here hx rfl (hb hby dF10_4) rfl k) ?_
  show Wlk p.tables e below (T1.setTop (mkF m 5 #[rv a, iv (0 : Int32)] [(.int (0 : Int32)), (.ref ob)])) K
  refine Wlk.of (fun _ k => X1.ldc2DoubleC hx hown (mvT hZ (wd hw 23 rfl)) (g := (mkF m 5 #[rv a, iv (0 : Int32)] [(.int (0 : Int32)), (.ref ob)])) rfl (hb hby dF10_5) _ k) ?_
  show Wlk p.tables e below (T1.setTop (mkF m 8 #[rv a, iv (0 : Int32)] [(.double (9218868437227405312 : UInt64)), (.int (0 : Int32)), (.ref ob)])) K
  obtain ⟨T2, h2, X2, e2, W2, V2, st2⟩ := stDl X1 hx hZ e1 A_ob (j := (0 : Int32)) (i := 0) (by decide) (by decide) (show 0 < 1 by decide) (g := (mkF m 8 #[rv a, iv (0 : Int32)] [(.double (9218868437227405312 : UInt64)), (.int (0 : Int32)), (.ref ob)])) rfl rfl (hb hby dF10_8)
  refine Wlk.of (fun _ k => st2 _ k) ?_
  have K3 : Keep h0 h2 [ob] := K0.wr W2 (Or.inl (List.mem_of_getElem? (i := 0) rfl))
  have N4 := Fr.snoc X2 N0 g_ob
  have Vw2 : Arl Z h2 ob .double [(.double (9218868437227405312 : UInt64))] := V2
  show Wlk p.tables e below (T2.setTop (mkF m 9 #[rv a, iv (0 : Int32)] [])) K
  refine hK none X2 (fun q => rfl) (fun fs hr => X2.returnOut hx hret (hb hby dF10_9) hr) ?_ (by decide) (by decide)
  rw [show T2.heap = h2 from e2]
  exact ⟨rfl, N4, K3, Vw2⟩
theorem dT10_0 : decode prog_21_method_9_code 0 = .ok (.aload_n 0, 1) := by decide +kernel
theorem dT10_1 : decode prog_21_method_9_code 1 = .ok (.getfield 7, 3) := by decide +kernel
theorem dT10_4 : decode prog_21_method_9_code 4 = .ok (.iload_n 1, 1) := by decide +kernel
theorem dT10_5 : decode prog_21_method_9_code 5 = .ok (.dload_n 2, 1) := by decide +kernel
theorem dT10_6 : decode prog_21_method_9_code 6 = .ok (.invokestatic 38, 3) := by decide +kernel
theorem dT10_9 : decode prog_21_method_9_code 9 = .ok (.ifCond .eq 7, 3) := by decide +kernel
theorem dT10_12 : decode prog_21_method_9_code 12 = .ok (.dload_n 2, 1) := by decide +kernel
theorem dT10_13 : decode prog_21_method_9_code 13 = .ok (.goto 6, 3) := by decide +kernel
theorem dT10_19 : decode prog_21_method_9_code 19 = .ok (.dastore, 1) := by decide +kernel
theorem dT10_20 : decode prog_21_method_9_code 20 = .ok (.return_, 1) := by decide +kernel
theorem ef_rmT10 (m : MethodId) (a : Addr) (u : UInt64) : entryFrame m #[(.ref a), (.int (0 : Int32)), (.double u)] 4 = mkF m 0 #[rv a, iv (0 : Int32), dv u, sd] [] := by first | (simp [entryFrame, mkF, argsToLocals, Value.category]; done) | rfl
def Q_rmT10 (Z : State) (a : Addr) (u : UInt64) (ob : Addr) (x0 : UInt64) (h0 : Heap) (n0 : Nat) (v : Option Value) (h : Heap) (L : List Loc) : Prop := v = none ∧ Fr n0 L ∧ Keep h0 h [ob] ∧ Arl Z h ob .double [(.double u)]
set_option maxRecDepth 65536 in
set_option maxHeartbeats 40000000 in
theorem rmT10 (l : Launch) (Z : State) (a0 : Array Value) (hw : ∀ d ∈ tables_1, d.before a0 Z = true) (a : Addr) (u : UInt64) (ob : Addr) (x0 : UInt64) (h0 : Heap) (n0 : Nat) (Z0 : n0 ≤ h0.size) (F_a_objectives : Fld Z h0 a "com/example/selfwright/selfwright/optimiser/Scores" "objectives" "[D" (.ref ob)) (A_ob : Arl Z h0 ob .double [(.double x0)]) (g_ob : n0 ≤ ob) (hu : Fl.Fin64 u) :
    Ctr l Z h0 (⟨"com/example/selfwright/selfwright/optimiser/Scores", "set", "(ID)V"⟩ : MethodName) prog_21_method_9_code 4 none [] ({ frames := 2, cells := 0, slots := 0, locals := 28 } : Room) #[(.ref a), (.int (0 : Int32)), (.double u)] (Q_rmT10 Z a u ob x0 h0 n0) := by
  refine Ctr.make (plainFor_of_name pn_15) fun p e s m below meth c s₁ K hret hml hx hby hown hnm hZ X0 e0 hK => ?_
  have hown : s.vm.findClass "com/example/selfwright/selfwright/optimiser/Scores" = some m.cls := hown
  have N0 := Fr.nil n0
  have K0 : Keep h0 h0 [ob] := Keep.refl _ _
  refine Wlk.of (fun _ k => castTop (ef_rmT10 m a u) k) ?_
  show Wlk p.tables e below (s₁.setTop (mkF m 0 #[rv a, iv (0 : Int32), dv u, sd] [])) K
  refine Wlk.of (fun _ k => XS.aloadN X0.here hx rfl (hb hby dT10_0) rfl rfl k) ?_
  show Wlk p.tables e below (s₁.setTop (mkF m 1 #[rv a, iv (0 : Int32), dv u, sd] [(.ref a)])) K
  obtain ⟨T1, X1, e1, st1⟩ := getF X0 hx hZ hown (host := "") (Or.inl (wd hw 10 rfl)) Via.refl e0 F_a_objectives (g := (mkF m 1 #[rv a, iv (0 : Int32), dv u, sd] [(.ref a)])) rfl rfl (hb hby dT10_1)
  refine Wlk.of (fun _ k => st1 _ k) ?_
  show Wlk p.tables e below (T1.setTop (mkF m 4 #[rv a, iv (0 : Int32), dv u, sd] [(.ref ob)])) K
  refine Wlk.of (fun _ k => XS.iloadN X1.here hx rfl (hb hby dT10_4) rfl k) ?_
  show Wlk p.tables e below (T1.setTop (mkF m 5 #[rv a, iv (0 : Int32), dv u, sd] [(.int (0 : Int32)), (.ref ob)])) K
  refine Wlk.of (fun _ k => XS.dloadN X1.here hx rfl (hb hby dT10_5) rfl k) ?_
  show Wlk p.tables e below (T1.setTop (mkF m 6 #[rv a, iv (0 : Int32), dv u, sd] [(.double u), (.int (0 : Int32)), (.ref ob)])) K
  obtain ⟨T2, X2, e2, st2⟩ := paidS (y := (⟨"java/lang/Double", "isFinite", "(D)Z"⟩ : MethodName)) (val := (.int (1 : Int32))) X1 hx hZ e1 hown (wd hw 29 rfl) (wd hw 30 rfl) (wd hw 31 rfl) (wd hw 32 rfl) (by decide) (W := 2) (Fl.IsFinite.pays (by decide) (by decide) (by simp only [Fl.IsFinite.tab, Cond.before_and, Bool.and_eq_true]; exact ⟨mvT hZ (wd hw 32 rfl), mvT hZ (wd hw 33 rfl), mvT hZ (wd hw 34 rfl), mvT hZ (wd hw 35 rfl), mvT hZ (wd hw 36 rfl), mvT hZ (wd hw 37 rfl)⟩) (mvT hZ (wd hw 31 rfl))) pd_37 (g := (mkF m 6 #[rv a, iv (0 : Int32), dv u, sd] [(.double u), (.int (0 : Int32)), (.ref ob)])) rfl (by rw [hml]; rfl) (argsL := [(.double u)]) (rest := [(.int (0 : Int32)), (.ref ob)]) rfl rfl (by show 2 * 0 + _ ≤ _; exact Nat.le_of_eq rfl) (hb hby dT10_6) (fun _ _ => ⟨by show (0 : Nat) ≤ _; decide, by show (0 : Nat) ≤ _; decide, u, rfl, hu.noNaN⟩) (fun A v B h => ⟨by rw [h.2 u ⟨rfl, hu.noNaN⟩, if_pos ((Fl.le_max_iff hu.noNaN).mpr hu)], h.1⟩)
  refine Wlk.of (fun _ k => st2 _ k) ?_
  show Wlk p.tables e below (T2.setTop (mkF m 9 #[rv a, iv (0 : Int32), dv u, sd] [(.int (1 : Int32)), (.int (0 : Int32)), (.ref ob)])) K
  refine Wlk.of (fun _ k => XS.ifNo X2.here hx rfl (hb hby dT10_9) rfl ((if0 _ _).trans (feq (by decide : ¬ ((1 : Int32) = (0 : Int32)))).1) k) ?_
  show Wlk p.tables e below (T2.setTop (mkF m 12 #[rv a, iv (0 : Int32), dv u, sd] [(.int (0 : Int32)), (.ref ob)])) K
  refine Wlk.of (fun _ k => XS.dloadN X2.here hx rfl (hb hby dT10_12) rfl k) ?_
  show Wlk p.tables e below (T2.setTop (mkF m 13 #[rv a, iv (0 : Int32), dv u, sd] [(.double u), (.int (0 : Int32)), (.ref ob)])) K
  refine Wlk.of (fun _ k => XS.goto X2.here hx rfl (pc0 := 13) (pc' := 19) rfl (hb hby dT10_13) (by decide) (by decide) k) ?_
  show Wlk p.tables e below (T2.setTop (mkF m 19 #[rv a, iv (0 : Int32), dv u, sd] [(.double u), (.int (0 : Int32)), (.ref ob)])) K
  obtain ⟨T3, h3, X3, e3, W3, V3, st3⟩ := stDl X2 hx hZ e2 A_ob (j := (0 : Int32)) (i := 0) (by decide) (by decide) (show 0 < 1 by decide) (g := (mkF m 19 #[rv a, iv (0 : Int32), dv u, sd] [(.double u), (.int (0 : Int32)), (.ref ob)])) rfl rfl (hb hby dT10_19)
  refine Wlk.of (fun _ k => st3 _ k) ?_
  have K4 : Keep h0 h3 [ob] := K0.wr W3 (Or.inl (List.mem_of_getElem? (i := 0) rfl))
  have N5 := Fr.snoc X3 N0 g_ob
  have Vw3 : Arl Z h3 ob .double [(.double u)] := V3
  show Wlk p.tables e below (T3.setTop (mkF m 20 #[rv a, iv (0 : Int32), dv u, sd] [])) K
  refine hK none X3 (fun q => rfl) (fun fs hr => X3.returnOut hx hret (hb hby dT10_20) hr) ?_ (by decide) (by decide)
  rw [show T3.heap = h3 from e3]
  exact ⟨rfl, N5, K4, Vw3⟩
theorem d8_0 : decode prog_21_method_2_code 0 = .ok (.aload_n 0, 1) := by decide +kernel
theorem d8_1 : decode prog_21_method_2_code 1 = .ok (.getfield 7, 3) := by decide +kernel
theorem d8_4 : decode prog_21_method_2_code 4 = .ok (.arraylength, 1) := by decide +kernel
theorem d8_5 : decode prog_21_method_2_code 5 = .ok (.ireturn, 1) := by decide +kernel
theorem ef_rmZ (m : MethodId) (a : Addr) : entryFrame m #[(.ref a)] 1 = mkF m 0 #[rv a] [] := by first | (simp [entryFrame, mkF, argsToLocals, Value.category]; done) | rfl
def Q_rmZ (Z : State) (a : Addr) (ob : Addr) (x0 : UInt64) (x1 : UInt64) (h0 : Heap) (n0 : Nat) (v : Option Value) (h : Heap) (L : List Loc) : Prop := v = (some (.int (2 : Int32))) ∧ Fr n0 L ∧ h = h0
set_option maxRecDepth 65536 in
set_option maxHeartbeats 40000000 in
theorem rmZ (l : Launch) (Z : State) (a0 : Array Value) (hw : ∀ d ∈ tables_1, d.before a0 Z = true) (a : Addr) (ob : Addr) (x0 : UInt64) (x1 : UInt64) (h0 : Heap) (n0 : Nat) (Z0 : n0 ≤ h0.size) (F_a_objectives : Fld Z h0 a "com/example/selfwright/selfwright/optimiser/Scores" "objectives" "[D" (.ref ob)) (A_ob : Arl Z h0 ob .double [(.double x0), (.double x1)]) :
    Ctr l Z h0 (⟨"com/example/selfwright/selfwright/optimiser/Scores", "size", "()I"⟩ : MethodName) prog_21_method_2_code 1 (some .int) [] ({ frames := 0, cells := 0, slots := 0, locals := 0 } : Room) #[(.ref a)] (Q_rmZ Z a ob x0 x1 h0 n0) := by
  refine Ctr.make (plainFor_of_name pn_15) fun p e s m below meth c s₁ K hret hml hx hby hown hnm hZ X0 e0 hK => ?_
  have hown : s.vm.findClass "com/example/selfwright/selfwright/optimiser/Scores" = some m.cls := hown
  have N0 := Fr.nil n0
  have K0 : Keep h0 h0 [] := Keep.refl _ _
  refine Wlk.of (fun _ k => castTop (ef_rmZ m a) k) ?_
  show Wlk p.tables e below (s₁.setTop (mkF m 0 #[rv a] [])) K
  refine Wlk.of (fun _ k => XS.aloadN X0.here hx rfl (hb hby d8_0) rfl rfl k) ?_
  show Wlk p.tables e below (s₁.setTop (mkF m 1 #[rv a] [(.ref a)])) K
  obtain ⟨T1, X1, e1, st1⟩ := getF X0 hx hZ hown (host := "") (Or.inl (wd hw 10 rfl)) Via.refl e0 F_a_objectives (g := (mkF m 1 #[rv a] [(.ref a)])) rfl rfl (hb hby d8_1)
  refine Wlk.of (fun _ k => st1 _ k) ?_
  show Wlk p.tables e below (T1.setTop (mkF m 4 #[rv a] [(.ref ob)])) K
  refine Wlk.of (fun _ k => lenL X1 hx hZ e1 A_ob (n := (2 : Int32)) rfl (g := (mkF m 4 #[rv a] [(.ref ob)])) rfl rfl (hb hby d8_4) _ k) ?_
  show Wlk p.tables e below (T1.setTop (mkF m 5 #[rv a] [(.int (2 : Int32))])) K
  refine hK (some (.int (2 : Int32))) X1 (fun q => by cases q) (fun fs hr => retOut X1 hx hret rfl (Or.inl ⟨rfl, Or.inl rfl, _, rfl⟩) (hb hby d8_5) hr) ?_ (by decide) (by decide)
  rw [show T1.heap = h0 from e1]
  exact ⟨rfl, N0, rfl⟩
theorem dO20_0 : decode prog_21_method_3_code 0 = .ok (.aload_n 0, 1) := by decide +kernel
theorem dO20_1 : decode prog_21_method_3_code 1 = .ok (.getfield 7, 3) := by decide +kernel
theorem dO20_4 : decode prog_21_method_3_code 4 = .ok (.iload_n 1, 1) := by decide +kernel
theorem dO20_5 : decode prog_21_method_3_code 5 = .ok (.daload, 1) := by decide +kernel
theorem dO20_6 : decode prog_21_method_3_code 6 = .ok (.dreturn, 1) := by decide +kernel
theorem ef_rmO20 (m : MethodId) (a : Addr) : entryFrame m #[(.ref a), (.int (0 : Int32))] 2 = mkF m 0 #[rv a, iv (0 : Int32)] [] := by first | (simp [entryFrame, mkF, argsToLocals, Value.category]; done) | rfl
def Q_rmO20 (Z : State) (a : Addr) (ob : Addr) (x0 : UInt64) (x1 : UInt64) (h0 : Heap) (n0 : Nat) (v : Option Value) (h : Heap) (L : List Loc) : Prop := v = (some (.double x0)) ∧ Fr n0 L ∧ h = h0
set_option maxRecDepth 65536 in
set_option maxHeartbeats 40000000 in
theorem rmO20 (l : Launch) (Z : State) (a0 : Array Value) (hw : ∀ d ∈ tables_1, d.before a0 Z = true) (a : Addr) (ob : Addr) (x0 : UInt64) (x1 : UInt64) (h0 : Heap) (n0 : Nat) (Z0 : n0 ≤ h0.size) (F_a_objectives : Fld Z h0 a "com/example/selfwright/selfwright/optimiser/Scores" "objectives" "[D" (.ref ob)) (A_ob : Arl Z h0 ob .double [(.double x0), (.double x1)]) :
    Ctr l Z h0 (⟨"com/example/selfwright/selfwright/optimiser/Scores", "objective", "(I)D"⟩ : MethodName) prog_21_method_3_code 2 (some .double) [] ({ frames := 0, cells := 0, slots := 0, locals := 0 } : Room) #[(.ref a), (.int (0 : Int32))] (Q_rmO20 Z a ob x0 x1 h0 n0) := by
  refine Ctr.make (plainFor_of_name pn_15) fun p e s m below meth c s₁ K hret hml hx hby hown hnm hZ X0 e0 hK => ?_
  have hown : s.vm.findClass "com/example/selfwright/selfwright/optimiser/Scores" = some m.cls := hown
  have N0 := Fr.nil n0
  have K0 : Keep h0 h0 [] := Keep.refl _ _
  refine Wlk.of (fun _ k => castTop (ef_rmO20 m a) k) ?_
  show Wlk p.tables e below (s₁.setTop (mkF m 0 #[rv a, iv (0 : Int32)] [])) K
  refine Wlk.of (fun _ k => XS.aloadN X0.here hx rfl (hb hby dO20_0) rfl rfl k) ?_
  show Wlk p.tables e below (s₁.setTop (mkF m 1 #[rv a, iv (0 : Int32)] [(.ref a)])) K
  obtain ⟨T1, X1, e1, st1⟩ := getF X0 hx hZ hown (host := "") (Or.inl (wd hw 10 rfl)) Via.refl e0 F_a_objectives (g := (mkF m 1 #[rv a, iv (0 : Int32)] [(.ref a)])) rfl rfl (hb hby dO20_1)
  refine Wlk.of (fun _ k => st1 _ k) ?_
  show Wlk p.tables e below (T1.setTop (mkF m 4 #[rv a, iv (0 : Int32)] [(.ref ob)])) K
  refine Wlk.of (fun _ k => XS.iloadN X1.here hx rfl (hb hby dO20_4) rfl k) ?_
  show Wlk p.tables e below (T1.setTop (mkF m 5 #[rv a, iv (0 : Int32)] [(.int (0 : Int32)), (.ref ob)])) K
  refine Wlk.of (fun _ k => ldD X1 hx hZ e1 A_ob (j := (0 : Int32)) (i := 0) (by decide) (by decide) rfl (g := (mkF m 5 #[rv a, iv (0 : Int32)] [(.int (0 : Int32)), (.ref ob)])) rfl rfl (hb hby dO20_5) _ k) ?_
  show Wlk p.tables e below (T1.setTop (mkF m 6 #[rv a, iv (0 : Int32)] [(.double x0)])) K
  refine hK (some (.double x0)) X1 (fun q => by cases q) (fun fs hr => retOut X1 hx hret rfl (Or.inr (Or.inr (Or.inl ⟨rfl, rfl, _, rfl⟩))) (hb hby dO20_6) hr) ?_ (by decide) (by decide)
  rw [show T1.heap = h0 from e1]
  exact ⟨rfl, N0, rfl⟩
theorem dO21_0 : decode prog_21_method_3_code 0 = .ok (.aload_n 0, 1) := by decide +kernel
theorem dO21_1 : decode prog_21_method_3_code 1 = .ok (.getfield 7, 3) := by decide +kernel
theorem dO21_4 : decode prog_21_method_3_code 4 = .ok (.iload_n 1, 1) := by decide +kernel
theorem dO21_5 : decode prog_21_method_3_code 5 = .ok (.daload, 1) := by decide +kernel
theorem dO21_6 : decode prog_21_method_3_code 6 = .ok (.dreturn, 1) := by decide +kernel
theorem ef_rmO21 (m : MethodId) (a : Addr) : entryFrame m #[(.ref a), (.int (1 : Int32))] 2 = mkF m 0 #[rv a, iv (1 : Int32)] [] := by first | (simp [entryFrame, mkF, argsToLocals, Value.category]; done) | rfl
def Q_rmO21 (Z : State) (a : Addr) (ob : Addr) (x0 : UInt64) (x1 : UInt64) (h0 : Heap) (n0 : Nat) (v : Option Value) (h : Heap) (L : List Loc) : Prop := v = (some (.double x1)) ∧ Fr n0 L ∧ h = h0
set_option maxRecDepth 65536 in
set_option maxHeartbeats 40000000 in
theorem rmO21 (l : Launch) (Z : State) (a0 : Array Value) (hw : ∀ d ∈ tables_1, d.before a0 Z = true) (a : Addr) (ob : Addr) (x0 : UInt64) (x1 : UInt64) (h0 : Heap) (n0 : Nat) (Z0 : n0 ≤ h0.size) (F_a_objectives : Fld Z h0 a "com/example/selfwright/selfwright/optimiser/Scores" "objectives" "[D" (.ref ob)) (A_ob : Arl Z h0 ob .double [(.double x0), (.double x1)]) :
    Ctr l Z h0 (⟨"com/example/selfwright/selfwright/optimiser/Scores", "objective", "(I)D"⟩ : MethodName) prog_21_method_3_code 2 (some .double) [] ({ frames := 0, cells := 0, slots := 0, locals := 0 } : Room) #[(.ref a), (.int (1 : Int32))] (Q_rmO21 Z a ob x0 x1 h0 n0) := by
  refine Ctr.make (plainFor_of_name pn_15) fun p e s m below meth c s₁ K hret hml hx hby hown hnm hZ X0 e0 hK => ?_
  have hown : s.vm.findClass "com/example/selfwright/selfwright/optimiser/Scores" = some m.cls := hown
  have N0 := Fr.nil n0
  have K0 : Keep h0 h0 [] := Keep.refl _ _
  refine Wlk.of (fun _ k => castTop (ef_rmO21 m a) k) ?_
  show Wlk p.tables e below (s₁.setTop (mkF m 0 #[rv a, iv (1 : Int32)] [])) K
  refine Wlk.of (fun _ k => XS.aloadN X0.here hx rfl (hb hby dO21_0) rfl rfl k) ?_
  show Wlk p.tables e below (s₁.setTop (mkF m 1 #[rv a, iv (1 : Int32)] [(.ref a)])) K
  obtain ⟨T1, X1, e1, st1⟩ := getF X0 hx hZ hown (host := "") (Or.inl (wd hw 10 rfl)) Via.refl e0 F_a_objectives (g := (mkF m 1 #[rv a, iv (1 : Int32)] [(.ref a)])) rfl rfl (hb hby dO21_1)
  refine Wlk.of (fun _ k => st1 _ k) ?_
  show Wlk p.tables e below (T1.setTop (mkF m 4 #[rv a, iv (1 : Int32)] [(.ref ob)])) K
  refine Wlk.of (fun _ k => XS.iloadN X1.here hx rfl (hb hby dO21_4) rfl k) ?_
  show Wlk p.tables e below (T1.setTop (mkF m 5 #[rv a, iv (1 : Int32)] [(.int (1 : Int32)), (.ref ob)])) K
  refine Wlk.of (fun _ k => ldD X1 hx hZ e1 A_ob (j := (1 : Int32)) (i := 1) (by decide) (by decide) rfl (g := (mkF m 5 #[rv a, iv (1 : Int32)] [(.int (1 : Int32)), (.ref ob)])) rfl rfl (hb hby dO21_5) _ k) ?_
  show Wlk p.tables e below (T1.setTop (mkF m 6 #[rv a, iv (1 : Int32)] [(.double x1)])) K
  refine hK (some (.double x1)) X1 (fun q => by cases q) (fun fs hr => retOut X1 hx hret rfl (Or.inr (Or.inr (Or.inl ⟨rfl, rfl, _, rfl⟩))) (hb hby dO21_6) hr) ?_ (by decide) (by decide)
  rw [show T1.heap = h0 from e1]
  exact ⟨rfl, N0, rfl⟩
theorem dO10_0 : decode prog_21_method_3_code 0 = .ok (.aload_n 0, 1) := by decide +kernel
theorem dO10_1 : decode prog_21_method_3_code 1 = .ok (.getfield 7, 3) := by decide +kernel
theorem dO10_4 : decode prog_21_method_3_code 4 = .ok (.iload_n 1, 1) := by decide +kernel
theorem dO10_5 : decode prog_21_method_3_code 5 = .ok (.daload, 1) := by decide +kernel
theorem dO10_6 : decode prog_21_method_3_code 6 = .ok (.dreturn, 1) := by decide +kernel
theorem ef_rmO10 (m : MethodId) (a : Addr) : entryFrame m #[(.ref a), (.int (0 : Int32))] 2 = mkF m 0 #[rv a, iv (0 : Int32)] [] := by first | (simp [entryFrame, mkF, argsToLocals, Value.category]; done) | rfl
def Q_rmO10 (Z : State) (a : Addr) (ob : Addr) (x0 : UInt64) (h0 : Heap) (n0 : Nat) (v : Option Value) (h : Heap) (L : List Loc) : Prop := v = (some (.double x0)) ∧ Fr n0 L ∧ h = h0
set_option maxRecDepth 65536 in
set_option maxHeartbeats 40000000 in
theorem rmO10 (l : Launch) (Z : State) (a0 : Array Value) (hw : ∀ d ∈ tables_1, d.before a0 Z = true) (a : Addr) (ob : Addr) (x0 : UInt64) (h0 : Heap) (n0 : Nat) (Z0 : n0 ≤ h0.size) (F_a_objectives : Fld Z h0 a "com/example/selfwright/selfwright/optimiser/Scores" "objectives" "[D" (.ref ob)) (A_ob : Arl Z h0 ob .double [(.double x0)]) :
    Ctr l Z h0 (⟨"com/example/selfwright/selfwright/optimiser/Scores", "objective", "(I)D"⟩ : MethodName) prog_21_method_3_code 2 (some .double) [] ({ frames := 0, cells := 0, slots := 0, locals := 0 } : Room) #[(.ref a), (.int (0 : Int32))] (Q_rmO10 Z a ob x0 h0 n0) := by
  refine Ctr.make (plainFor_of_name pn_15) fun p e s m below meth c s₁ K hret hml hx hby hown hnm hZ X0 e0 hK => ?_
  have hown : s.vm.findClass "com/example/selfwright/selfwright/optimiser/Scores" = some m.cls := hown
  have N0 := Fr.nil n0
  have K0 : Keep h0 h0 [] := Keep.refl _ _
  refine Wlk.of (fun _ k => castTop (ef_rmO10 m a) k) ?_
  show Wlk p.tables e below (s₁.setTop (mkF m 0 #[rv a, iv (0 : Int32)] [])) K
  refine Wlk.of (fun _ k => XS.aloadN X0.here hx rfl (hb hby dO10_0) rfl rfl k) ?_
  show Wlk p.tables e below (s₁.setTop (mkF m 1 #[rv a, iv (0 : Int32)] [(.ref a)])) K
  obtain ⟨T1, X1, e1, st1⟩ := getF X0 hx hZ hown (host := "") (Or.inl (wd hw 10 rfl)) Via.refl e0 F_a_objectives (g := (mkF m 1 #[rv a, iv (0 : Int32)] [(.ref a)])) rfl rfl (hb hby dO10_1)
  refine Wlk.of (fun _ k => st1 _ k) ?_
  show Wlk p.tables e below (T1.setTop (mkF m 4 #[rv a, iv (0 : Int32)] [(.ref ob)])) K
  refine Wlk.of (fun _ k => XS.iloadN X1.here hx rfl (hb hby dO10_4) rfl k) ?_
  show Wlk p.tables e below (T1.setTop (mkF m 5 #[rv a, iv (0 : Int32)] [(.int (0 : Int32)), (.ref ob)])) K
  refine Wlk.of (fun _ k => ldD X1 hx hZ e1 A_ob (j := (0 : Int32)) (i := 0) (by decide) (by decide) rfl (g := (mkF m 5 #[rv a, iv (0 : Int32)] [(.int (0 : Int32)), (.ref ob)])) rfl rfl (hb hby dO10_5) _ k) ?_
  show Wlk p.tables e below (T1.setTop (mkF m 6 #[rv a, iv (0 : Int32)] [(.double x0)])) K
  refine hK (some (.double x0)) X1 (fun q => by cases q) (fun fs hr => retOut X1 hx hret rfl (Or.inr (Or.inr (Or.inl ⟨rfl, rfl, _, rfl⟩))) (hb hby dO10_6) hr) ?_ (by decide) (by decide)
  rw [show T1.heap = h0 from e1]
  exact ⟨rfl, N0, rfl⟩
theorem pd_99 : parseMethodDescriptor "()I" = some ⟨[], some .int⟩ := by decide +kernel
theorem pd_100 : parseMethodDescriptor "(I)D" = some ⟨[.int], some .double⟩ := by decide +kernel
theorem d7_0 : decode prog_15_method_1_code 0 = .ok (.aload_n 0, 1) := by decide +kernel
theorem d7_1 : decode prog_15_method_1_code 1 = .ok (.invokespecial 1, 3) := by decide +kernel
theorem d7_4 : decode prog_15_method_1_code 4 = .ok (.iconst 0, 1) := by decide +kernel
theorem d7_5 : decode prog_15_method_1_code 5 = .ok (.istore_n 2, 1) := by decide +kernel
theorem d7_6 : decode prog_15_method_1_code 6 = .ok (.iconst 1, 1) := by decide +kernel
theorem d7_7 : decode prog_15_method_1_code 7 = .ok (.istore_n 3, 1) := by decide +kernel
theorem d7_8 : decode prog_15_method_1_code 8 = .ok (.iload_n 3, 1) := by decide +kernel
theorem d7_9 : decode prog_15_method_1_code 9 = .ok (.aload_n 1, 1) := by decide +kernel
theorem d7_10 : decode prog_15_method_1_code 10 = .ok (.invokevirtual 7, 3) := by decide +kernel
theorem d7_13 : decode prog_15_method_1_code 13 = .ok (.if_icmp .ge 25, 3) := by decide +kernel
theorem d7_16 : decode prog_15_method_1_code 16 = .ok (.aload_n 1, 1) := by decide +kernel
theorem d7_17 : decode prog_15_method_1_code 17 = .ok (.iload_n 3, 1) := by decide +kernel
theorem d7_18 : decode prog_15_method_1_code 18 = .ok (.invokevirtual 13, 3) := by decide +kernel
theorem d7_21 : decode prog_15_method_1_code 21 = .ok (.aload_n 1, 1) := by decide +kernel
theorem d7_22 : decode prog_15_method_1_code 22 = .ok (.iload_n 2, 1) := by decide +kernel
theorem d7_23 : decode prog_15_method_1_code 23 = .ok (.invokevirtual 13, 3) := by decide +kernel
theorem d7_26 : decode prog_15_method_1_code 26 = .ok (.dcmp .g, 1) := by decide +kernel
theorem d7_27 : decode prog_15_method_1_code 27 = .ok (.ifCond .ge 5, 3) := by decide +kernel
theorem d7_30 : decode prog_15_method_1_code 30 = .ok (.iload_n 3, 1) := by decide +kernel
theorem d7_31 : decode prog_15_method_1_code 31 = .ok (.istore_n 2, 1) := by decide +kernel
theorem d7_32 : decode prog_15_method_1_code 32 = .ok (.iinc 3 1, 3) := by decide +kernel
theorem d7_35 : decode prog_15_method_1_code 35 = .ok (.goto (-27), 3) := by decide +kernel
theorem d7_38 : decode prog_15_method_1_code 38 = .ok (.aload_n 0, 1) := by decide +kernel
theorem d7_39 : decode prog_15_method_1_code 39 = .ok (.iload_n 2, 1) := by decide +kernel
theorem d7_40 : decode prog_15_method_1_code 40 = .ok (.putfield 17, 3) := by decide +kernel
theorem d7_43 : decode prog_15_method_1_code 43 = .ok (.return_, 1) := by decide +kernel
theorem pn_127 : plainName "com/example/selfwright/selfwright/optimiser/ObjectiveRanking" = true := by first | (simp [plainName, overriddenIn]; done) | decide +kernel
theorem ef_rmK (m : MethodId) (a : Addr) (sc : Addr) : entryFrame m #[(.ref a), (.ref sc)] 4 = mkF m 0 #[rv a, rv sc, un, un] [] := by first | (simp [entryFrame, mkF, argsToLocals, Value.category]; done) | rfl
def Q_rmK (Z : State) (a : Addr) (sc : Addr) (ob : Addr) (x0 : UInt64) (x1 : UInt64) (k0 : Int64) (k1 : Int64) (h0 : Heap) (n0 : Nat) (v : Option Value) (h : Heap) (L : List Loc) : Prop := v = none ∧ Fr n0 L ∧ Keep h0 h [a] ∧ Fld Z h a "com/example/selfwright/selfwright/optimiser/ObjectiveRanking" "best" "I" (.int (if k1 < k0 then (1 : Int32) else (0 : Int32)))
set_option maxRecDepth 65536 in
set_option maxHeartbeats 40000000 in
theorem rmK (l : Launch) (Z : State) (a0 : Array Value) (hw : ∀ d ∈ tables_1, d.before a0 Z = true) (a : Addr) (sc : Addr) (ob : Addr) (x0 : UInt64) (x1 : UInt64) (k0 : Int64) (k1 : Int64) (h0 : Heap) (n0 : Nat) (Z0 : n0 ≤ h0.size) (E_a : Exa Z h0 a "com/example/selfwright/selfwright/optimiser/ObjectiveRanking") (F_a_best : Fld Z h0 a "com/example/selfwright/selfwright/optimiser/ObjectiveRanking" "best" "I" (.int (0 : Int32))) (E_sc : Exa Z h0 sc "com/example/selfwright/selfwright/optimiser/Scores") (F_sc_objectives : Fld Z h0 sc "com/example/selfwright/selfwright/optimiser/Scores" "objectives" "[D" (.ref ob)) (A_ob : Arl Z h0 ob .double [(.double x0), (.double x1)]) (g_a : n0 ≤ a) (hp : cmpValue (FP.dcmp x1 x0) .g < 0 ↔ k1 < k0) :
    Ctr l Z h0 (⟨"com/example/selfwright/selfwright/optimiser/ObjectiveRanking", "<init>", "(Lcom/example/selfwright/selfwright/optimiser/Scores;)V"⟩ : MethodName) prog_15_method_1_code 4 none [] ({ frames := 1, cells := 0, slots := 0, locals := 15 } : Room) #[(.ref a), (.ref sc)] (Q_rmK Z a sc ob x0 x1 k0 k1 h0 n0) := by
  refine Ctr.make (plainFor_of_name pn_127) fun p e s m below meth c s₁ K hret hml hx hby hown hnm hZ X0 e0 hK => ?_
  have hown : s.vm.findClass "com/example/selfwright/selfwright/optimiser/ObjectiveRanking" = some m.cls := hown
  have N0 := Fr.nil n0
  have K0 : Keep h0 h0 [a] := Keep.refl _ _
  refine Wlk.of (fun _ k => castTop (ef_rmK m a sc) k) ?_
  show Wlk p.tables e below (s₁.setTop (mkF m 0 #[rv a, rv sc, un, un] [])) K
  refine Wlk.of (fun _ k => XS.aloadN X0.here hx rfl (hb hby d7_0) rfl rfl k) ?_
  show Wlk p.tables e below (s₁.setTop (mkF m 1 #[rv a, rv sc, un, un] [(.ref a)])) K
  obtain ⟨T1, X1, e1, st1⟩ := initO X0 hx hZ hown (wd hw 44 rfl) (wd hw 7 rfl) (wd hw 8 rfl) e0 (g := (mkF m 1 #[rv a, rv sc, un, un] [(.ref a)])) rfl (by rw [hml]; rfl) rfl (hb hby d7_1) (by decide) (W := 0) (by show 2 * 0 + _ ≤ _; exact Nat.le_of_eq rfl) (by decide)
  refine Wlk.of (fun _ k => st1 _ k) ?_
  show Wlk p.tables e below (T1.setTop (mkF m 4 #[rv a, rv sc, un, un] [])) K
  refine Wlk.of (fun _ k => XS.iconst X1.here hx rfl (hb hby d7_4) k) ?_
  show Wlk p.tables e below (T1.setTop (mkF m 5 #[rv a, rv sc, un, un] [(.int (0 : Int32))])) K
  refine Wlk.of (fun _ k => XS.istoreN X1.here hx rfl (hb hby d7_5) rfl (l' := #[rv a, rv sc, iv (0 : Int32), un]) rfl k) ?_
  show Wlk p.tables e below (T1.setTop (mkF m 6 #[rv a, rv sc, iv (0 : Int32), un] [])) K
  refine Wlk.of (fun _ k => XS.iconst X1.here hx rfl (hb hby d7_6) k) ?_
  show Wlk p.tables e below (T1.setTop (mkF m 7 #[rv a, rv sc, iv (0 : Int32), un] [(.int (1 : Int32))])) K
  refine Wlk.of (fun _ k => XS.istoreN X1.here hx rfl (hb hby d7_7) rfl (l' := #[rv a, rv sc, iv (0 : Int32), iv (1 : Int32)]) rfl k) ?_
  show Wlk p.tables e below (T1.setTop (mkF m 8 #[rv a, rv sc, iv (0 : Int32), iv (1 : Int32)] [])) K
  refine Wlk.of (fun _ k => XS.iloadN X1.here hx rfl (hb hby d7_8) rfl k) ?_
  show Wlk p.tables e below (T1.setTop (mkF m 9 #[rv a, rv sc, iv (0 : Int32), iv (1 : Int32)] [(.int (1 : Int32))])) K
  refine Wlk.of (fun _ k => XS.aloadN X1.here hx rfl (hb hby d7_9) rfl rfl k) ?_
  show Wlk p.tables e below (T1.setTop (mkF m 10 #[rv a, rv sc, iv (0 : Int32), iv (1 : Int32)] [(.ref sc), (.int (1 : Int32))])) K
  obtain ⟨v2, T2, L2, X2, q2, st2⟩ := Ctr.virtual (y := (⟨"com/example/selfwright/selfwright/optimiser/Scores", "size", "()I"⟩ : MethodName)) (rmZ l Z a0 hw sc ob x0 x1 h0 n0 (Nat.le_trans Z0 K0.1) F_sc_objectives A_ob) X1 hx hZ e1 hown (wd hw 45 rfl) (wd hw 46 rfl) (notFace_of_selects (args := #[]) (mvT hZ (wd hw 48 rfl))) (wd hw 48 rfl) (wd hw 47 rfl) (wd hw 2 rfl) (wd hw 49 rfl) (by decide) E_sc pd_99 (g := (mkF m 10 #[rv a, rv sc, iv (0 : Int32), iv (1 : Int32)] [(.ref sc), (.int (1 : Int32))])) rfl (by rw [hml]; rfl) (argsL := []) (rest := [(.int (1 : Int32))]) rfl rfl rfl (W := 1) (by show 2 * 0 + _ ≤ _; exact Nat.le_of_eq rfl) (by decide) (by decide) (hb hby d7_10) (by decide) (by decide)
  obtain ⟨rfl, N2q, hh2⟩ := q2
  have N3 := Fr.app N0 N2q
  refine Wlk.of (fun _ k => st2 _ k) ?_
  show Wlk p.tables e below (T2.setTop (mkF m 13 #[rv a, rv sc, iv (0 : Int32), iv (1 : Int32)] [(.int (2 : Int32)), (.int (1 : Int32))])) K
  refine Wlk.of (fun _ k => XS.icmpNo X2.here hx rfl (hb hby d7_13) rfl (tlt (by decide : (1 : Int32) < (2 : Int32))).2.1 k) ?_
  show Wlk p.tables e below (T2.setTop (mkF m 16 #[rv a, rv sc, iv (0 : Int32), iv (1 : Int32)] [])) K
  refine Wlk.of (fun _ k => XS.aloadN X2.here hx rfl (hb hby d7_16) rfl rfl k) ?_
  show Wlk p.tables e below (T2.setTop (mkF m 17 #[rv a, rv sc, iv (0 : Int32), iv (1 : Int32)] [(.ref sc)])) K
  refine Wlk.of (fun _ k => XS.iloadN X2.here hx rfl (hb hby d7_17) rfl k) ?_
  show Wlk p.tables e below (T2.setTop (mkF m 18 #[rv a, rv sc, iv (0 : Int32), iv (1 : Int32)] [(.int (1 : Int32)), (.ref sc)])) K
  obtain ⟨v4, T4, L4, X4, q4, st4⟩ := Ctr.virtual (y := (⟨"com/example/selfwright/selfwright/optimiser/Scores", "objective", "(I)D"⟩ : MethodName)) (rmO21 l Z a0 hw sc ob x0 x1 h0 n0 (Nat.le_trans Z0 K0.1) F_sc_objectives A_ob) X2 hx hZ hh2 hown (wd hw 50 rfl) (wd hw 51 rfl) (notFace_of_selects (args := #[]) (mvT hZ (wd hw 53 rfl))) (wd hw 53 rfl) (wd hw 52 rfl) (wd hw 2 rfl) (wd hw 54 rfl) (by decide) E_sc pd_100 (g := (mkF m 18 #[rv a, rv sc, iv (0 : Int32), iv (1 : Int32)] [(.int (1 : Int32)), (.ref sc)])) rfl (by rw [hml]; rfl) (argsL := [(.int (1 : Int32))]) (rest := []) rfl rfl rfl (W := 0) (by show 2 * 0 + _ ≤ _; exact Nat.le_of_eq rfl) (by decide) (by decide) (hb hby d7_18) (by decide) (by decide)
  obtain ⟨rfl, N4q, hh4⟩ := q4
  have N5 := Fr.app N3 N4q
  refine Wlk.of (fun _ k => st4 _ k) ?_
  show Wlk p.tables e below (T4.setTop (mkF m 21 #[rv a, rv sc, iv (0 : Int32), iv (1 : Int32)] [(.double x1)])) K
  refine Wlk.of (fun _ k => XS.aloadN X4.here hx rfl (hb hby d7_21) rfl rfl k) ?_
  show Wlk p.tables e below (T4.setTop (mkF m 22 #[rv a, rv sc, iv (0 : Int32), iv (1 : Int32)] [(.ref sc), (.double x1)])) K
  refine Wlk.of (fun _ k => XS.iloadN X4.here hx rfl (hb hby d7_22) rfl k) ?_
  show Wlk p.tables e below (T4.setTop (mkF m 23 #[rv a, rv sc, iv (0 : Int32), iv (1 : Int32)] [(.int (0 : Int32)), (.ref sc), (.double x1)])) K
  obtain ⟨v6, T6, L6, X6, q6, st6⟩ := Ctr.virtual (y := (⟨"com/example/selfwright/selfwright/optimiser/Scores", "objective", "(I)D"⟩ : MethodName)) (rmO20 l Z a0 hw sc ob x0 x1 h0 n0 (Nat.le_trans Z0 K0.1) F_sc_objectives A_ob) X4 hx hZ hh4 hown (wd hw 50 rfl) (wd hw 51 rfl) (notFace_of_selects (args := #[]) (mvT hZ (wd hw 53 rfl))) (wd hw 53 rfl) (wd hw 52 rfl) (wd hw 2 rfl) (wd hw 54 rfl) (by decide) E_sc pd_100 (g := (mkF m 23 #[rv a, rv sc, iv (0 : Int32), iv (1 : Int32)] [(.int (0 : Int32)), (.ref sc), (.double x1)])) rfl (by rw [hml]; rfl) (argsL := [(.int (0 : Int32))]) (rest := [(.double x1)]) rfl rfl rfl (W := 2) (by show 2 * 0 + _ ≤ _; exact Nat.le_of_eq rfl) (by decide) (by decide) (hb hby d7_23) (by decide) (by decide)
  obtain ⟨rfl, N6q, hh6⟩ := q6
  have N7 := Fr.app N5 N6q
  refine Wlk.of (fun _ k => st6 _ k) ?_
  show Wlk p.tables e below (T6.setTop (mkF m 26 #[rv a, rv sc, iv (0 : Int32), iv (1 : Int32)] [(.double x0), (.double x1)])) K
  refine Wlk.of (fun _ k => XS.dcmpS X6.here hx rfl (hb hby d7_26) rfl rfl k) ?_
  show Wlk p.tables e below (T6.setTop (mkF m 27 #[rv a, rv sc, iv (0 : Int32), iv (1 : Int32)] [(.int (cmpValue (FP.dcmp x1 x0) .g))])) K
  by_cases hc8 : (cmpValue (FP.dcmp x1 x0) .g) < (0 : Int32)
  · refine Wlk.of (fun _ k => XS.ifNo X6.here hx rfl (hb hby d7_27) rfl ((if0 _ _).trans (tlt hc8).2.1) k) ?_
    show Wlk p.tables e below (T6.setTop (mkF m 30 #[rv a, rv sc, iv (0 : Int32), iv (1 : Int32)] [])) K
    refine Wlk.of (fun _ k => XS.iloadN X6.here hx rfl (hb hby d7_30) rfl k) ?_
    show Wlk p.tables e below (T6.setTop (mkF m 31 #[rv a, rv sc, iv (0 : Int32), iv (1 : Int32)] [(.int (1 : Int32))])) K
    refine Wlk.of (fun _ k => XS.istoreN X6.here hx rfl (hb hby d7_31) rfl (l' := #[rv a, rv sc, iv (1 : Int32), iv (1 : Int32)]) rfl k) ?_
    show Wlk p.tables e below (T6.setTop (mkF m 32 #[rv a, rv sc, iv (1 : Int32), iv (1 : Int32)] [])) K
    refine Wlk.of (fun _ k => XS.iinc X6.here hx rfl (hb hby d7_32) rfl (l' := #[rv a, rv sc, iv (1 : Int32), iv (2 : Int32)]) rfl k) ?_
    show Wlk p.tables e below (T6.setTop (mkF m 35 #[rv a, rv sc, iv (1 : Int32), iv (2 : Int32)] [])) K
    refine Wlk.of (fun _ k => XS.goto X6.here hx rfl (pc0 := 35) (pc' := 8) rfl (hb hby d7_35) (by decide) (by decide) k) ?_
    show Wlk p.tables e below (T6.setTop (mkF m 8 #[rv a, rv sc, iv (1 : Int32), iv (2 : Int32)] [])) K
    refine Wlk.of (fun _ k => XS.iloadN X6.here hx rfl (hb hby d7_8) rfl k) ?_
    show Wlk p.tables e below (T6.setTop (mkF m 9 #[rv a, rv sc, iv (1 : Int32), iv (2 : Int32)] [(.int (2 : Int32))])) K
    refine Wlk.of (fun _ k => XS.aloadN X6.here hx rfl (hb hby d7_9) rfl rfl k) ?_
    show Wlk p.tables e below (T6.setTop (mkF m 10 #[rv a, rv sc, iv (1 : Int32), iv (2 : Int32)] [(.ref sc), (.int (2 : Int32))])) K
    obtain ⟨v9, T9, L9, X9, q9, st9⟩ := Ctr.virtual (y := (⟨"com/example/selfwright/selfwright/optimiser/Scores", "size", "()I"⟩ : MethodName)) (rmZ l Z a0 hw sc ob x0 x1 h0 n0 (Nat.le_trans Z0 K0.1) F_sc_objectives A_ob) X6 hx hZ hh6 hown (wd hw 45 rfl) (wd hw 46 rfl) (notFace_of_selects (args := #[]) (mvT hZ (wd hw 48 rfl))) (wd hw 48 rfl) (wd hw 47 rfl) (wd hw 2 rfl) (wd hw 49 rfl) (by decide) E_sc pd_99 (g := (mkF m 10 #[rv a, rv sc, iv (1 : Int32), iv (2 : Int32)] [(.ref sc), (.int (2 : Int32))])) rfl (by rw [hml]; rfl) (argsL := []) (rest := [(.int (2 : Int32))]) rfl rfl rfl (W := 1) (by show 2 * 0 + _ ≤ _; exact Nat.le_of_eq rfl) (by decide) (by decide) (hb hby d7_10) (by decide) (by decide)
    obtain ⟨rfl, N9q, hh9⟩ := q9
    have N10 := Fr.app N7 N9q
    refine Wlk.of (fun _ k => st9 _ k) ?_
    show Wlk p.tables e below (T9.setTop (mkF m 13 #[rv a, rv sc, iv (1 : Int32), iv (2 : Int32)] [(.int (2 : Int32)), (.int (2 : Int32))])) K
    refine Wlk.of (fun _ k => XS.icmpYes X9.here hx rfl (pc0 := 13) (pc' := 38) rfl (hb hby d7_13) rfl (flt (by decide : ¬ ((2 : Int32) < (2 : Int32)))).2.1 (by decide) (by decide) k) ?_
    show Wlk p.tables e below (T9.setTop (mkF m 38 #[rv a, rv sc, iv (1 : Int32), iv (2 : Int32)] [])) K
    refine Wlk.of (fun _ k => XS.aloadN X9.here hx rfl (hb hby d7_38) rfl rfl k) ?_
    show Wlk p.tables e below (T9.setTop (mkF m 39 #[rv a, rv sc, iv (1 : Int32), iv (2 : Int32)] [(.ref a)])) K
    refine Wlk.of (fun _ k => XS.iloadN X9.here hx rfl (hb hby d7_39) rfl k) ?_
    show Wlk p.tables e below (T9.setTop (mkF m 40 #[rv a, rv sc, iv (1 : Int32), iv (2 : Int32)] [(.int (1 : Int32)), (.ref a)])) K
    obtain ⟨T11, h11, X11, e11, W11, st11⟩ := putF X9 hx hZ hown (host := "") (Or.inl (wd hw 55 rfl)) Via.refl hh9 F_a_best E_a (Or.inr ⟨(wd hw 56 rfl), rfl, hnm⟩) (wd hw 39 rfl) (ty := .int) (by decide) rfl rfl (g := (mkF m 40 #[rv a, rv sc, iv (1 : Int32), iv (2 : Int32)] [(.int (1 : Int32)), (.ref a)])) rfl rfl (hb hby d7_40)
    have Fw11 := F_a_best.same W11
    refine Wlk.of (fun _ k => st11 _ k) ?_
    have K12 : Keep h0 h11 [a] := K0.wr W11 (Or.inl (List.mem_of_getElem? (i := 0) rfl))
    have N13 := Fr.snoc X11 N10 g_a
    show Wlk p.tables e below (T11.setTop (mkF m 43 #[rv a, rv sc, iv (1 : Int32), iv (2 : Int32)] [])) K
    refine hK none X11 (fun q => rfl) (fun fs hr => X11.returnOut hx hret (hb hby d7_43) hr) ?_ (by decide) (by decide)
    rw [show T11.heap = h11 from e11]
    exact ⟨rfl, N13, K12, (by rw [if_pos (hp.mp hc8)]; exact Fw11)⟩
  · refine Wlk.of (fun _ k => XS.ifYes X6.here hx rfl (pc0 := 27) (pc' := 32) rfl (hb hby d7_27) rfl ((if0 _ _).trans (flt hc8).2.1) (by decide) (by decide) k) ?_
    show Wlk p.tables e below (T6.setTop (mkF m 32 #[rv a, rv sc, iv (0 : Int32), iv (1 : Int32)] [])) K
    refine Wlk.of (fun _ k => XS.iinc X6.here hx rfl (hb hby d7_32) rfl (l' := #[rv a, rv sc, iv (0 : Int32), iv (2 : Int32)]) rfl k) ?_
    show Wlk p.tables e below (T6.setTop (mkF m 35 #[rv a, rv sc, iv (0 : Int32), iv (2 : Int32)] [])) K
    refine Wlk.of (fun _ k => XS.goto X6.here hx rfl (pc0 := 35) (pc' := 8) rfl (hb hby d7_35) (by decide) (by decide) k) ?_
    show Wlk p.tables e below (T6.setTop (mkF m 8 #[rv a, rv sc, iv (0 : Int32), iv (2 : Int32)] [])) K
    refine Wlk.of (fun _ k => XS.iloadN X6.here hx rfl (hb hby d7_8) rfl k) ?_
    show Wlk p.tables e below (T6.setTop (mkF m 9 #[rv a, rv sc, iv (0 : Int32), iv (2 : Int32)] [(.int (2 : Int32))])) K
    refine Wlk.of (fun _ k => XS.aloadN X6.here hx rfl (hb hby d7_9) rfl rfl k) ?_
    show Wlk p.tables e below (T6.setTop (mkF m 10 #[rv a, rv sc, iv (0 : Int32), iv (2 : Int32)] [(.ref sc), (.int (2 : Int32))])) K
    obtain ⟨v14, T14, L14, X14, q14, st14⟩ := Ctr.virtual (y := (⟨"com/example/selfwright/selfwright/optimiser/Scores", "size", "()I"⟩ : MethodName)) (rmZ l Z a0 hw sc ob x0 x1 h0 n0 (Nat.le_trans Z0 K0.1) F_sc_objectives A_ob) X6 hx hZ hh6 hown (wd hw 45 rfl) (wd hw 46 rfl) (notFace_of_selects (args := #[]) (mvT hZ (wd hw 48 rfl))) (wd hw 48 rfl) (wd hw 47 rfl) (wd hw 2 rfl) (wd hw 49 rfl) (by decide) E_sc pd_99 (g := (mkF m 10 #[rv a, rv sc, iv (0 : Int32), iv (2 : Int32)] [(.ref sc), (.int (2 : Int32))])) rfl (by rw [hml]; rfl) (argsL := []) (rest := [(.int (2 : Int32))]) rfl rfl rfl (W := 1) (by show 2 * 0 + _ ≤ _; exact Nat.le_of_eq rfl) (by decide) (by decide) (hb hby d7_10) (by decide) (by decide)
    obtain ⟨rfl, N14q, hh14⟩ := q14
    have N15 := Fr.app N7 N14q
    refine Wlk.of (fun _ k => st14 _ k) ?_
    show Wlk p.tables e below (T14.setTop (mkF m 13 #[rv a, rv sc, iv (0 : Int32), iv (2 : Int32)] [(.int (2 : Int32)), (.int (2 : Int32))])) K
    refine Wlk.of (fun _ k => XS.icmpYes X14.here hx rfl (pc0 := 13) (pc' := 38) rfl (hb hby d7_13) rfl (flt (by decide : ¬ ((2 : Int32) < (2 : Int32)))).2.1 (by decide) (by decide) k) ?_
    show Wlk p.tables e below (T14.setTop (mkF m 38 #[rv a, rv sc, iv (0 : Int32), iv (2 : Int32)] [])) K
    refine Wlk.of (fun _ k => XS.aloadN X14.here hx rfl (hb hby d7_38) rfl rfl k) ?_
    show Wlk p.tables e below (T14.setTop (mkF m 39 #[rv a, rv sc, iv (0 : Int32), iv (2 : Int32)] [(.ref a)])) K
    refine Wlk.of (fun _ k => XS.iloadN X14.here hx rfl (hb hby d7_39) rfl k) ?_
    show Wlk p.tables e below (T14.setTop (mkF m 40 #[rv a, rv sc, iv (0 : Int32), iv (2 : Int32)] [(.int (0 : Int32)), (.ref a)])) K
    obtain ⟨T16, h16, X16, e16, W16, st16⟩ := putF X14 hx hZ hown (host := "") (Or.inl (wd hw 55 rfl)) Via.refl hh14 F_a_best E_a (Or.inr ⟨(wd hw 56 rfl), rfl, hnm⟩) (wd hw 39 rfl) (ty := .int) (by decide) rfl rfl (g := (mkF m 40 #[rv a, rv sc, iv (0 : Int32), iv (2 : Int32)] [(.int (0 : Int32)), (.ref a)])) rfl rfl (hb hby d7_40)
    have Fw16 := F_a_best.same W16
    refine Wlk.of (fun _ k => st16 _ k) ?_
    have K17 : Keep h0 h16 [a] := K0.wr W16 (Or.inl (List.mem_of_getElem? (i := 0) rfl))
    have N18 := Fr.snoc X16 N15 g_a
    show Wlk p.tables e below (T16.setTop (mkF m 43 #[rv a, rv sc, iv (0 : Int32), iv (2 : Int32)] [])) K
    refine hK none X16 (fun q => rfl) (fun fs hr => X16.returnOut hx hret (hb hby d7_43) hr) ?_ (by decide) (by decide)
    rw [show T16.heap = h16 from e16]
    exact ⟨rfl, N18, K17, (by rw [if_neg (fun q => hc8 (hp.mpr q))]; exact Fw16)⟩
theorem d10_0 : decode method_2_code 0 = .ok (.iload_n 1, 1) := by decide +kernel
theorem d10_1 : decode method_2_code 1 = .ok (.ifCond .eq 7, 3) := by decide +kernel
theorem d10_4 : decode method_2_code 4 = .ok (.ldc2_w 9, 3) := by decide +kernel
theorem d10_7 : decode method_2_code 7 = .ok (.lreturn, 1) := by decide +kernel
theorem d10_8 : decode method_2_code 8 = .ok (.iload_n 0, 1) := by decide +kernel
theorem d10_9 : decode method_2_code 9 = .ok (.i2l, 1) := by decide +kernel
theorem d10_10 : decode method_2_code 10 = .ok (.lreturn, 1) := by decide +kernel
theorem pn_135 : plainName "com/example/selfwright/selfwright/optimiser/ObjectiveRankingPrefersPinLaw" = true := by first | (simp [plainName, overriddenIn]; done) | decide +kernel
theorem ef_rmY (m : MethodId) (z : Int32) (f : Int32) : entryFrame m #[(.int z), (.int f)] 2 = mkF m 0 #[iv z, iv f] [] := by first | (simp [entryFrame, mkF, argsToLocals, Value.category]; done) | rfl
def Q_rmY (Z : State) (z : Int32) (f : Int32) (h0 : Heap) (n0 : Nat) (v : Option Value) (h : Heap) (L : List Loc) : Prop := v = (some (.long (if f = (0 : Int32) then z.toInt64 else (9223372036854775807 : Int64)))) ∧ Fr n0 L ∧ h = h0
set_option maxRecDepth 65536 in
set_option maxHeartbeats 40000000 in
theorem rmY (l : Launch) (Z : State) (a0 : Array Value) (hw : ∀ d ∈ tables_1, d.before a0 Z = true) (z : Int32) (f : Int32) (h0 : Heap) (n0 : Nat) (Z0 : n0 ≤ h0.size) :
    Ctr l Z h0 (⟨"com/example/selfwright/selfwright/optimiser/ObjectiveRankingPrefersPinLaw", "key", "(IZ)J"⟩ : MethodName) method_2_code 2 (some .long) [] ({ frames := 0, cells := 0, slots := 0, locals := 0 } : Room) #[(.int z), (.int f)] (Q_rmY Z z f h0 n0) := by
  refine Ctr.make (plainFor_of_name pn_135) fun p e s m below meth c s₁ K hret hml hx hby hown hnm hZ X0 e0 hK => ?_
  have hown : s.vm.findClass "com/example/selfwright/selfwright/optimiser/ObjectiveRankingPrefersPinLaw" = some m.cls := hown
  have N0 := Fr.nil n0
  have K0 : Keep h0 h0 [] := Keep.refl _ _
  refine Wlk.of (fun _ k => castTop (ef_rmY m z f) k) ?_
  show Wlk p.tables e below (s₁.setTop (mkF m 0 #[iv z, iv f] [])) K
  refine Wlk.of (fun _ k => XS.iloadN X0.here hx rfl (hb hby d10_0) rfl k) ?_
  show Wlk p.tables e below (s₁.setTop (mkF m 1 #[iv z, iv f] [(.int f)])) K
  by_cases hc1 : f = (0 : Int32)
  · refine Wlk.of (fun _ k => XS.ifYes X0.here hx rfl (pc0 := 1) (pc' := 8) rfl (hb hby d10_1) rfl ((if0 _ _).trans (teq hc1).1) (by decide) (by decide) k) ?_
    show Wlk p.tables e below (s₁.setTop (mkF m 8 #[iv z, iv f] [])) K
    refine Wlk.of (fun _ k => XS.iloadN X0.here hx rfl (hb hby d10_8) rfl k) ?_
    show Wlk p.tables e below (s₁.setTop (mkF m 9 #[iv z, iv f] [(.int z)])) K
    refine Wlk.of (fun _ k => XS.i2l X0.here hx rfl (hb hby d10_9) rfl k) ?_
    show Wlk p.tables e below (s₁.setTop (mkF m 10 #[iv z, iv f] [(.long (z.toInt64))])) K
    refine hK (some (.long (z.toInt64))) X0 (fun q => by cases q) (fun fs hr => retOut X0 hx hret rfl (Or.inr (Or.inl ⟨rfl, rfl, _, rfl⟩)) (hb hby d10_10) hr) ?_ (by decide) (by decide)
    rw [show s₁.heap = h0 from e0]
    exact ⟨(by rw [if_pos hc1]), N0, rfl⟩
  · refine Wlk.of (fun _ k => XS.ifNo X0.here hx rfl (hb hby d10_1) rfl ((if0 _ _).trans (feq hc1).1) k) ?_
    show Wlk p.tables e below (s₁.setTop (mkF m 4 #[iv z, iv f] [])) K
    refine Wlk.of (fun _ k => X0.ldc2Long hx hown (mvT hZ (wd hw 61 rfl)) (g := (mkF m 4 #[iv z, iv f] [])) rfl (hb hby d10_4) _ k) ?_
    show Wlk p.tables e below (s₁.setTop (mkF m 7 #[iv z, iv f] [(.long (9223372036854775807 : Int64))])) K
    refine hK (some (.long (9223372036854775807 : Int64))) X0 (fun q => by cases q) (fun fs hr => retOut X0 hx hret rfl (Or.inr (Or.inl ⟨rfl, rfl, _, rfl⟩)) (hb hby d10_7) hr) ?_ (by decide) (by decide)
    rw [show s₁.heap = h0 from e0]
    exact ⟨(by rw [if_neg hc1]), N0, rfl⟩
theorem dPa_0 : decode prog_15_method_4_code 0 = .ok (.aload_n 1, 1) := by decide +kernel
theorem dPa_1 : decode prog_15_method_4_code 1 = .ok (.iload_n 2, 1) := by decide +kernel
theorem dPa_2 : decode prog_15_method_4_code 2 = .ok (.invokevirtual 13, 3) := by decide +kernel
theorem dPa_5 : decode prog_15_method_4_code 5 = .ok (.aload_n 3, 1) := by decide +kernel
theorem dPa_6 : decode prog_15_method_4_code 6 = .ok (.iload 4, 2) := by decide +kernel
theorem dPa_8 : decode prog_15_method_4_code 8 = .ok (.invokevirtual 13, 3) := by decide +kernel
theorem dPa_11 : decode prog_15_method_4_code 11 = .ok (.dcmp .g, 1) := by decide +kernel
theorem dPa_12 : decode prog_15_method_4_code 12 = .ok (.ifCond .ge 7, 3) := by decide +kernel
theorem dPa_15 : decode prog_15_method_4_code 15 = .ok (.iconst 1, 1) := by decide +kernel
theorem dPa_16 : decode prog_15_method_4_code 16 = .ok (.goto 4, 3) := by decide +kernel
theorem dPa_19 : decode prog_15_method_4_code 19 = .ok (.iconst 0, 1) := by decide +kernel
theorem dPa_20 : decode prog_15_method_4_code 20 = .ok (.ireturn, 1) := by decide +kernel
theorem ef_rmPa (m : MethodId) (r : Addr) (sc : Addr) : entryFrame m #[(.ref r), (.ref sc), (.int (0 : Int32)), (.ref sc), (.int (1 : Int32))] 5 = mkF m 0 #[rv r, rv sc, iv (0 : Int32), rv sc, iv (1 : Int32)] [] := by first | (simp [entryFrame, mkF, argsToLocals, Value.category]; done) | rfl
def Q_rmPa (Z : State) (r : Addr) (sc : Addr) (so : Addr) (sx0 : UInt64) (sx1 : UInt64) (kx : Int64) (ky : Int64) (h0 : Heap) (n0 : Nat) (v : Option Value) (h : Heap) (L : List Loc) : Prop := v = (some (.int (if kx < ky then (1 : Int32) else (0 : Int32)))) ∧ Fr n0 L ∧ h = h0
set_option maxRecDepth 65536 in
set_option maxHeartbeats 40000000 in
theorem rmPa (l : Launch) (Z : State) (a0 : Array Value) (hw : ∀ d ∈ tables_1, d.before a0 Z = true) (r : Addr) (sc : Addr) (so : Addr) (sx0 : UInt64) (sx1 : UInt64) (kx : Int64) (ky : Int64) (h0 : Heap) (n0 : Nat) (Z0 : n0 ≤ h0.size) (E_sc : Exa Z h0 sc "com/example/selfwright/selfwright/optimiser/Scores") (F_sc_objectives : Fld Z h0 sc "com/example/selfwright/selfwright/optimiser/Scores" "objectives" "[D" (.ref so)) (A_so : Arl Z h0 so .double [(.double sx0), (.double sx1)]) (hp : cmpValue (FP.dcmp sx0 sx1) .g < 0 ↔ kx < ky) :
    Ctr l Z h0 (⟨"com/example/selfwright/selfwright/optimiser/ObjectiveRanking", "prefers", "(Lcom/example/selfwright/selfwright/optimiser/Scores;ILcom/example/selfwright/selfwright/optimiser/Scores;I)Z"⟩ : MethodName) prog_15_method_4_code 5 (some .boolean) [] ({ frames := 1, cells := 0, slots := 0, locals := 15 } : Room) #[(.ref r), (.ref sc), (.int (0 : Int32)), (.ref sc), (.int (1 : Int32))] (Q_rmPa Z r sc so sx0 sx1 kx ky h0 n0) := by
  refine Ctr.make (plainFor_of_name pn_127) fun p e s m below meth c s₁ K hret hml hx hby hown hnm hZ X0 e0 hK => ?_
  have hown : s.vm.findClass "com/example/selfwright/selfwright/optimiser/ObjectiveRanking" = some m.cls := hown
  have N0 := Fr.nil n0
  have K0 : Keep h0 h0 [] := Keep.refl _ _
  refine Wlk.of (fun _ k => castTop (ef_rmPa m r sc) k) ?_
  show Wlk p.tables e below (s₁.setTop (mkF m 0 #[rv r, rv sc, iv (0 : Int32), rv sc, iv (1 : Int32)] [])) K
  refine Wlk.of (fun _ k => XS.aloadN X0.here hx rfl (hb hby dPa_0) rfl rfl k) ?_
  show Wlk p.tables e below (s₁.setTop (mkF m 1 #[rv r, rv sc, iv (0 : Int32), rv sc, iv (1 : Int32)] [(.ref sc)])) K
  refine Wlk.of (fun _ k => XS.iloadN X0.here hx rfl (hb hby dPa_1) rfl k) ?_
  show Wlk p.tables e below (s₁.setTop (mkF m 2 #[rv r, rv sc, iv (0 : Int32), rv sc, iv (1 : Int32)] [(.int (0 : Int32)), (.ref sc)])) K
  obtain ⟨v1, T1, L1, X1, q1, st1⟩ := Ctr.virtual (y := (⟨"com/example/selfwright/selfwright/optimiser/Scores", "objective", "(I)D"⟩ : MethodName)) (rmO20 l Z a0 hw sc so sx0 sx1 h0 n0 (Nat.le_trans Z0 K0.1) F_sc_objectives A_so) X0 hx hZ e0 hown (wd hw 50 rfl) (wd hw 51 rfl) (notFace_of_selects (args := #[]) (mvT hZ (wd hw 53 rfl))) (wd hw 53 rfl) (wd hw 52 rfl) (wd hw 2 rfl) (wd hw 54 rfl) (by decide) E_sc pd_100 (g := (mkF m 2 #[rv r, rv sc, iv (0 : Int32), rv sc, iv (1 : Int32)] [(.int (0 : Int32)), (.ref sc)])) rfl (by rw [hml]; rfl) (argsL := [(.int (0 : Int32))]) (rest := []) rfl rfl rfl (W := 0) (by show 2 * 0 + _ ≤ _; exact Nat.le_of_eq rfl) (by decide) (by decide) (hb hby dPa_2) (by decide) (by decide)
  obtain ⟨rfl, N1q, hh1⟩ := q1
  have N2 := Fr.app N0 N1q
  refine Wlk.of (fun _ k => st1 _ k) ?_
  show Wlk p.tables e below (T1.setTop (mkF m 5 #[rv r, rv sc, iv (0 : Int32), rv sc, iv (1 : Int32)] [(.double sx0)])) K
  refine Wlk.of (fun _ k => XS.aloadN X1.here hx rfl (hb hby dPa_5) rfl rfl k) ?_
  show Wlk p.tables e below (T1.setTop (mkF m 6 #[rv r, rv sc, iv (0 : Int32), rv sc, iv (1 : Int32)] [(.ref sc), (.double sx0)])) K
  refine Wlk.of (fun _ k => XS.iload X1.here hx rfl (hb hby dPa_6) rfl k) ?_
  show Wlk p.tables e below (T1.setTop (mkF m 8 #[rv r, rv sc, iv (0 : Int32), rv sc, iv (1 : Int32)] [(.int (1 : Int32)), (.ref sc), (.double sx0)])) K
  obtain ⟨v3, T3, L3, X3, q3, st3⟩ := Ctr.virtual (y := (⟨"com/example/selfwright/selfwright/optimiser/Scores", "objective", "(I)D"⟩ : MethodName)) (rmO21 l Z a0 hw sc so sx0 sx1 h0 n0 (Nat.le_trans Z0 K0.1) F_sc_objectives A_so) X1 hx hZ hh1 hown (wd hw 50 rfl) (wd hw 51 rfl) (notFace_of_selects (args := #[]) (mvT hZ (wd hw 53 rfl))) (wd hw 53 rfl) (wd hw 52 rfl) (wd hw 2 rfl) (wd hw 54 rfl) (by decide) E_sc pd_100 (g := (mkF m 8 #[rv r, rv sc, iv (0 : Int32), rv sc, iv (1 : Int32)] [(.int (1 : Int32)), (.ref sc), (.double sx0)])) rfl (by rw [hml]; rfl) (argsL := [(.int (1 : Int32))]) (rest := [(.double sx0)]) rfl rfl rfl (W := 2) (by show 2 * 0 + _ ≤ _; exact Nat.le_of_eq rfl) (by decide) (by decide) (hb hby dPa_8) (by decide) (by decide)
  obtain ⟨rfl, N3q, hh3⟩ := q3
  have N4 := Fr.app N2 N3q
  refine Wlk.of (fun _ k => st3 _ k) ?_
  show Wlk p.tables e below (T3.setTop (mkF m 11 #[rv r, rv sc, iv (0 : Int32), rv sc, iv (1 : Int32)] [(.double sx1), (.double sx0)])) K
  refine Wlk.of (fun _ k => XS.dcmpS X3.here hx rfl (hb hby dPa_11) rfl rfl k) ?_
  show Wlk p.tables e below (T3.setTop (mkF m 12 #[rv r, rv sc, iv (0 : Int32), rv sc, iv (1 : Int32)] [(.int (cmpValue (FP.dcmp sx0 sx1) .g))])) K
  by_cases hc5 : (cmpValue (FP.dcmp sx0 sx1) .g) < (0 : Int32)
  · refine Wlk.of (fun _ k => XS.ifNo X3.here hx rfl (hb hby dPa_12) rfl ((if0 _ _).trans (tlt hc5).2.1) k) ?_
    show Wlk p.tables e below (T3.setTop (mkF m 15 #[rv r, rv sc, iv (0 : Int32), rv sc, iv (1 : Int32)] [])) K
    refine Wlk.of (fun _ k => XS.iconst X3.here hx rfl (hb hby dPa_15) k) ?_
    show Wlk p.tables e below (T3.setTop (mkF m 16 #[rv r, rv sc, iv (0 : Int32), rv sc, iv (1 : Int32)] [(.int (1 : Int32))])) K
    refine Wlk.of (fun _ k => XS.goto X3.here hx rfl (pc0 := 16) (pc' := 20) rfl (hb hby dPa_16) (by decide) (by decide) k) ?_
    show Wlk p.tables e below (T3.setTop (mkF m 20 #[rv r, rv sc, iv (0 : Int32), rv sc, iv (1 : Int32)] [(.int (1 : Int32))])) K
    refine hK (some (.int (1 : Int32))) X3 (fun q => by cases q) (fun fs hr => retN X3 hx (t := .boolean) hret (by simp) (hb hby dPa_20) hr) ?_ (by decide) (by decide)
    rw [show T3.heap = h0 from hh3]
    exact ⟨(by rw [if_pos (hp.mp hc5)]), N4, rfl⟩
  · refine Wlk.of (fun _ k => XS.ifYes X3.here hx rfl (pc0 := 12) (pc' := 19) rfl (hb hby dPa_12) rfl ((if0 _ _).trans (flt hc5).2.1) (by decide) (by decide) k) ?_
    show Wlk p.tables e below (T3.setTop (mkF m 19 #[rv r, rv sc, iv (0 : Int32), rv sc, iv (1 : Int32)] [])) K
    refine Wlk.of (fun _ k => XS.iconst X3.here hx rfl (hb hby dPa_19) k) ?_
    show Wlk p.tables e below (T3.setTop (mkF m 20 #[rv r, rv sc, iv (0 : Int32), rv sc, iv (1 : Int32)] [(.int (0 : Int32))])) K
    refine hK (some (.int (0 : Int32))) X3 (fun q => by cases q) (fun fs hr => retN X3 hx (t := .boolean) hret (by simp) (hb hby dPa_20) hr) ?_ (by decide) (by decide)
    rw [show T3.heap = h0 from hh3]
    exact ⟨(by rw [if_neg (fun q => hc5 (hp.mpr q))]), N4, rfl⟩
theorem dPb_0 : decode prog_15_method_4_code 0 = .ok (.aload_n 1, 1) := by decide +kernel
theorem dPb_1 : decode prog_15_method_4_code 1 = .ok (.iload_n 2, 1) := by decide +kernel
theorem dPb_2 : decode prog_15_method_4_code 2 = .ok (.invokevirtual 13, 3) := by decide +kernel
theorem dPb_5 : decode prog_15_method_4_code 5 = .ok (.aload_n 3, 1) := by decide +kernel
theorem dPb_6 : decode prog_15_method_4_code 6 = .ok (.iload 4, 2) := by decide +kernel
theorem dPb_8 : decode prog_15_method_4_code 8 = .ok (.invokevirtual 13, 3) := by decide +kernel
theorem dPb_11 : decode prog_15_method_4_code 11 = .ok (.dcmp .g, 1) := by decide +kernel
theorem dPb_12 : decode prog_15_method_4_code 12 = .ok (.ifCond .ge 7, 3) := by decide +kernel
theorem dPb_15 : decode prog_15_method_4_code 15 = .ok (.iconst 1, 1) := by decide +kernel
theorem dPb_16 : decode prog_15_method_4_code 16 = .ok (.goto 4, 3) := by decide +kernel
theorem dPb_19 : decode prog_15_method_4_code 19 = .ok (.iconst 0, 1) := by decide +kernel
theorem dPb_20 : decode prog_15_method_4_code 20 = .ok (.ireturn, 1) := by decide +kernel
theorem ef_rmPb (m : MethodId) (r : Addr) (sc : Addr) : entryFrame m #[(.ref r), (.ref sc), (.int (1 : Int32)), (.ref sc), (.int (0 : Int32))] 5 = mkF m 0 #[rv r, rv sc, iv (1 : Int32), rv sc, iv (0 : Int32)] [] := by first | (simp [entryFrame, mkF, argsToLocals, Value.category]; done) | rfl
def Q_rmPb (Z : State) (r : Addr) (sc : Addr) (so : Addr) (sx0 : UInt64) (sx1 : UInt64) (kx : Int64) (ky : Int64) (h0 : Heap) (n0 : Nat) (v : Option Value) (h : Heap) (L : List Loc) : Prop := v = (some (.int (if kx < ky then (1 : Int32) else (0 : Int32)))) ∧ Fr n0 L ∧ h = h0
set_option maxRecDepth 65536 in
set_option maxHeartbeats 40000000 in
theorem rmPb (l : Launch) (Z : State) (a0 : Array Value) (hw : ∀ d ∈ tables_1, d.before a0 Z = true) (r : Addr) (sc : Addr) (so : Addr) (sx0 : UInt64) (sx1 : UInt64) (kx : Int64) (ky : Int64) (h0 : Heap) (n0 : Nat) (Z0 : n0 ≤ h0.size) (E_sc : Exa Z h0 sc "com/example/selfwright/selfwright/optimiser/Scores") (F_sc_objectives : Fld Z h0 sc "com/example/selfwright/selfwright/optimiser/Scores" "objectives" "[D" (.ref so)) (A_so : Arl Z h0 so .double [(.double sx0), (.double sx1)]) (hp : cmpValue (FP.dcmp sx1 sx0) .g < 0 ↔ kx < ky) :
    Ctr l Z h0 (⟨"com/example/selfwright/selfwright/optimiser/ObjectiveRanking", "prefers", "(Lcom/example/selfwright/selfwright/optimiser/Scores;ILcom/example/selfwright/selfwright/optimiser/Scores;I)Z"⟩ : MethodName) prog_15_method_4_code 5 (some .boolean) [] ({ frames := 1, cells := 0, slots := 0, locals := 15 } : Room) #[(.ref r), (.ref sc), (.int (1 : Int32)), (.ref sc), (.int (0 : Int32))] (Q_rmPb Z r sc so sx0 sx1 kx ky h0 n0) := by
  refine Ctr.make (plainFor_of_name pn_127) fun p e s m below meth c s₁ K hret hml hx hby hown hnm hZ X0 e0 hK => ?_
  have hown : s.vm.findClass "com/example/selfwright/selfwright/optimiser/ObjectiveRanking" = some m.cls := hown
  have N0 := Fr.nil n0
  have K0 : Keep h0 h0 [] := Keep.refl _ _
  refine Wlk.of (fun _ k => castTop (ef_rmPb m r sc) k) ?_
  show Wlk p.tables e below (s₁.setTop (mkF m 0 #[rv r, rv sc, iv (1 : Int32), rv sc, iv (0 : Int32)] [])) K
  refine Wlk.of (fun _ k => XS.aloadN X0.here hx rfl (hb hby dPb_0) rfl rfl k) ?_
  show Wlk p.tables e below (s₁.setTop (mkF m 1 #[rv r, rv sc, iv (1 : Int32), rv sc, iv (0 : Int32)] [(.ref sc)])) K
  refine Wlk.of (fun _ k => XS.iloadN X0.here hx rfl (hb hby dPb_1) rfl k) ?_
  show Wlk p.tables e below (s₁.setTop (mkF m 2 #[rv r, rv sc, iv (1 : Int32), rv sc, iv (0 : Int32)] [(.int (1 : Int32)), (.ref sc)])) K
  obtain ⟨v1, T1, L1, X1, q1, st1⟩ := Ctr.virtual (y := (⟨"com/example/selfwright/selfwright/optimiser/Scores", "objective", "(I)D"⟩ : MethodName)) (rmO21 l Z a0 hw sc so sx0 sx1 h0 n0 (Nat.le_trans Z0 K0.1) F_sc_objectives A_so) X0 hx hZ e0 hown (wd hw 50 rfl) (wd hw 51 rfl) (notFace_of_selects (args := #[]) (mvT hZ (wd hw 53 rfl))) (wd hw 53 rfl) (wd hw 52 rfl) (wd hw 2 rfl) (wd hw 54 rfl) (by decide) E_sc pd_100 (g := (mkF m 2 #[rv r, rv sc, iv (1 : Int32), rv sc, iv (0 : Int32)] [(.int (1 : Int32)), (.ref sc)])) rfl (by rw [hml]; rfl) (argsL := [(.int (1 : Int32))]) (rest := []) rfl rfl rfl (W := 0) (by show 2 * 0 + _ ≤ _; exact Nat.le_of_eq rfl) (by decide) (by decide) (hb hby dPb_2) (by decide) (by decide)
  obtain ⟨rfl, N1q, hh1⟩ := q1
  have N2 := Fr.app N0 N1q
  refine Wlk.of (fun _ k => st1 _ k) ?_
  show Wlk p.tables e below (T1.setTop (mkF m 5 #[rv r, rv sc, iv (1 : Int32), rv sc, iv (0 : Int32)] [(.double sx1)])) K
  refine Wlk.of (fun _ k => XS.aloadN X1.here hx rfl (hb hby dPb_5) rfl rfl k) ?_
  show Wlk p.tables e below (T1.setTop (mkF m 6 #[rv r, rv sc, iv (1 : Int32), rv sc, iv (0 : Int32)] [(.ref sc), (.double sx1)])) K
  refine Wlk.of (fun _ k => XS.iload X1.here hx rfl (hb hby dPb_6) rfl k) ?_
  show Wlk p.tables e below (T1.setTop (mkF m 8 #[rv r, rv sc, iv (1 : Int32), rv sc, iv (0 : Int32)] [(.int (0 : Int32)), (.ref sc), (.double sx1)])) K
  obtain ⟨v3, T3, L3, X3, q3, st3⟩ := Ctr.virtual (y := (⟨"com/example/selfwright/selfwright/optimiser/Scores", "objective", "(I)D"⟩ : MethodName)) (rmO20 l Z a0 hw sc so sx0 sx1 h0 n0 (Nat.le_trans Z0 K0.1) F_sc_objectives A_so) X1 hx hZ hh1 hown (wd hw 50 rfl) (wd hw 51 rfl) (notFace_of_selects (args := #[]) (mvT hZ (wd hw 53 rfl))) (wd hw 53 rfl) (wd hw 52 rfl) (wd hw 2 rfl) (wd hw 54 rfl) (by decide) E_sc pd_100 (g := (mkF m 8 #[rv r, rv sc, iv (1 : Int32), rv sc, iv (0 : Int32)] [(.int (0 : Int32)), (.ref sc), (.double sx1)])) rfl (by rw [hml]; rfl) (argsL := [(.int (0 : Int32))]) (rest := [(.double sx1)]) rfl rfl rfl (W := 2) (by show 2 * 0 + _ ≤ _; exact Nat.le_of_eq rfl) (by decide) (by decide) (hb hby dPb_8) (by decide) (by decide)
  obtain ⟨rfl, N3q, hh3⟩ := q3
  have N4 := Fr.app N2 N3q
  refine Wlk.of (fun _ k => st3 _ k) ?_
  show Wlk p.tables e below (T3.setTop (mkF m 11 #[rv r, rv sc, iv (1 : Int32), rv sc, iv (0 : Int32)] [(.double sx0), (.double sx1)])) K
  refine Wlk.of (fun _ k => XS.dcmpS X3.here hx rfl (hb hby dPb_11) rfl rfl k) ?_
  show Wlk p.tables e below (T3.setTop (mkF m 12 #[rv r, rv sc, iv (1 : Int32), rv sc, iv (0 : Int32)] [(.int (cmpValue (FP.dcmp sx1 sx0) .g))])) K
  by_cases hc5 : (cmpValue (FP.dcmp sx1 sx0) .g) < (0 : Int32)
  · refine Wlk.of (fun _ k => XS.ifNo X3.here hx rfl (hb hby dPb_12) rfl ((if0 _ _).trans (tlt hc5).2.1) k) ?_
    show Wlk p.tables e below (T3.setTop (mkF m 15 #[rv r, rv sc, iv (1 : Int32), rv sc, iv (0 : Int32)] [])) K
    refine Wlk.of (fun _ k => XS.iconst X3.here hx rfl (hb hby dPb_15) k) ?_
    show Wlk p.tables e below (T3.setTop (mkF m 16 #[rv r, rv sc, iv (1 : Int32), rv sc, iv (0 : Int32)] [(.int (1 : Int32))])) K
    refine Wlk.of (fun _ k => XS.goto X3.here hx rfl (pc0 := 16) (pc' := 20) rfl (hb hby dPb_16) (by decide) (by decide) k) ?_
    show Wlk p.tables e below (T3.setTop (mkF m 20 #[rv r, rv sc, iv (1 : Int32), rv sc, iv (0 : Int32)] [(.int (1 : Int32))])) K
    refine hK (some (.int (1 : Int32))) X3 (fun q => by cases q) (fun fs hr => retN X3 hx (t := .boolean) hret (by simp) (hb hby dPb_20) hr) ?_ (by decide) (by decide)
    rw [show T3.heap = h0 from hh3]
    exact ⟨(by rw [if_pos (hp.mp hc5)]), N4, rfl⟩
  · refine Wlk.of (fun _ k => XS.ifYes X3.here hx rfl (pc0 := 12) (pc' := 19) rfl (hb hby dPb_12) rfl ((if0 _ _).trans (flt hc5).2.1) (by decide) (by decide) k) ?_
    show Wlk p.tables e below (T3.setTop (mkF m 19 #[rv r, rv sc, iv (1 : Int32), rv sc, iv (0 : Int32)] [])) K
    refine Wlk.of (fun _ k => XS.iconst X3.here hx rfl (hb hby dPb_19) k) ?_
    show Wlk p.tables e below (T3.setTop (mkF m 20 #[rv r, rv sc, iv (1 : Int32), rv sc, iv (0 : Int32)] [(.int (0 : Int32))])) K
    refine hK (some (.int (0 : Int32))) X3 (fun q => by cases q) (fun fs hr => retN X3 hx (t := .boolean) hret (by simp) (hb hby dPb_20) hr) ?_ (by decide) (by decide)
    rw [show T3.heap = h0 from hh3]
    exact ⟨(by rw [if_neg (fun q => hc5 (hp.mpr q))]), N4, rfl⟩
theorem dPc_0 : decode prog_15_method_4_code 0 = .ok (.aload_n 1, 1) := by decide +kernel
theorem dPc_1 : decode prog_15_method_4_code 1 = .ok (.iload_n 2, 1) := by decide +kernel
theorem dPc_2 : decode prog_15_method_4_code 2 = .ok (.invokevirtual 13, 3) := by decide +kernel
theorem dPc_5 : decode prog_15_method_4_code 5 = .ok (.aload_n 3, 1) := by decide +kernel
theorem dPc_6 : decode prog_15_method_4_code 6 = .ok (.iload 4, 2) := by decide +kernel
theorem dPc_8 : decode prog_15_method_4_code 8 = .ok (.invokevirtual 13, 3) := by decide +kernel
theorem dPc_11 : decode prog_15_method_4_code 11 = .ok (.dcmp .g, 1) := by decide +kernel
theorem dPc_12 : decode prog_15_method_4_code 12 = .ok (.ifCond .ge 7, 3) := by decide +kernel
theorem dPc_15 : decode prog_15_method_4_code 15 = .ok (.iconst 1, 1) := by decide +kernel
theorem dPc_16 : decode prog_15_method_4_code 16 = .ok (.goto 4, 3) := by decide +kernel
theorem dPc_19 : decode prog_15_method_4_code 19 = .ok (.iconst 0, 1) := by decide +kernel
theorem dPc_20 : decode prog_15_method_4_code 20 = .ok (.ireturn, 1) := by decide +kernel
theorem ef_rmPc (m : MethodId) (r : Addr) (sc : Addr) (tc : Addr) : entryFrame m #[(.ref r), (.ref sc), (.int (1 : Int32)), (.ref tc), (.int (0 : Int32))] 5 = mkF m 0 #[rv r, rv sc, iv (1 : Int32), rv tc, iv (0 : Int32)] [] := by first | (simp [entryFrame, mkF, argsToLocals, Value.category]; done) | rfl
def Q_rmPc (Z : State) (r : Addr) (sc : Addr) (tc : Addr) (so : Addr) (sx0 : UInt64) (sx1 : UInt64) (to : Addr) (tx0 : UInt64) (kx : Int64) (ky : Int64) (h0 : Heap) (n0 : Nat) (v : Option Value) (h : Heap) (L : List Loc) : Prop := v = (some (.int (if kx < ky then (1 : Int32) else (0 : Int32)))) ∧ Fr n0 L ∧ h = h0
set_option maxRecDepth 65536 in
set_option maxHeartbeats 40000000 in
theorem rmPc (l : Launch) (Z : State) (a0 : Array Value) (hw : ∀ d ∈ tables_1, d.before a0 Z = true) (r : Addr) (sc : Addr) (tc : Addr) (so : Addr) (sx0 : UInt64) (sx1 : UInt64) (to : Addr) (tx0 : UInt64) (kx : Int64) (ky : Int64) (h0 : Heap) (n0 : Nat) (Z0 : n0 ≤ h0.size) (E_sc : Exa Z h0 sc "com/example/selfwright/selfwright/optimiser/Scores") (F_sc_objectives : Fld Z h0 sc "com/example/selfwright/selfwright/optimiser/Scores" "objectives" "[D" (.ref so)) (A_so : Arl Z h0 so .double [(.double sx0), (.double sx1)]) (E_tc : Exa Z h0 tc "com/example/selfwright/selfwright/optimiser/Scores") (F_tc_objectives : Fld Z h0 tc "com/example/selfwright/selfwright/optimiser/Scores" "objectives" "[D" (.ref to)) (A_to : Arl Z h0 to .double [(.double tx0)]) (hp : cmpValue (FP.dcmp sx1 tx0) .g < 0 ↔ kx < ky) :
    Ctr l Z h0 (⟨"com/example/selfwright/selfwright/optimiser/ObjectiveRanking", "prefers", "(Lcom/example/selfwright/selfwright/optimiser/Scores;ILcom/example/selfwright/selfwright/optimiser/Scores;I)Z"⟩ : MethodName) prog_15_method_4_code 5 (some .boolean) [] ({ frames := 1, cells := 0, slots := 0, locals := 15 } : Room) #[(.ref r), (.ref sc), (.int (1 : Int32)), (.ref tc), (.int (0 : Int32))] (Q_rmPc Z r sc tc so sx0 sx1 to tx0 kx ky h0 n0) := by
  refine Ctr.make (plainFor_of_name pn_127) fun p e s m below meth c s₁ K hret hml hx hby hown hnm hZ X0 e0 hK => ?_
  have hown : s.vm.findClass "com/example/selfwright/selfwright/optimiser/ObjectiveRanking" = some m.cls := hown
  have N0 := Fr.nil n0
  have K0 : Keep h0 h0 [] := Keep.refl _ _
  refine Wlk.of (fun _ k => castTop (ef_rmPc m r sc tc) k) ?_
  show Wlk p.tables e below (s₁.setTop (mkF m 0 #[rv r, rv sc, iv (1 : Int32), rv tc, iv (0 : Int32)] [])) K
  refine Wlk.of (fun _ k => XS.aloadN X0.here hx rfl (hb hby dPc_0) rfl rfl k) ?_
  show Wlk p.tables e below (s₁.setTop (mkF m 1 #[rv r, rv sc, iv (1 : Int32), rv tc, iv (0 : Int32)] [(.ref sc)])) K
  refine Wlk.of (fun _ k => XS.iloadN X0.here hx rfl (hb hby dPc_1) rfl k) ?_
  show Wlk p.tables e below (s₁.setTop (mkF m 2 #[rv r, rv sc, iv (1 : Int32), rv tc, iv (0 : Int32)] [(.int (1 : Int32)), (.ref sc)])) K
  obtain ⟨v1, T1, L1, X1, q1, st1⟩ := Ctr.virtual (y := (⟨"com/example/selfwright/selfwright/optimiser/Scores", "objective", "(I)D"⟩ : MethodName)) (rmO21 l Z a0 hw sc so sx0 sx1 h0 n0 (Nat.le_trans Z0 K0.1) F_sc_objectives A_so) X0 hx hZ e0 hown (wd hw 50 rfl) (wd hw 51 rfl) (notFace_of_selects (args := #[]) (mvT hZ (wd hw 53 rfl))) (wd hw 53 rfl) (wd hw 52 rfl) (wd hw 2 rfl) (wd hw 54 rfl) (by decide) E_sc pd_100 (g := (mkF m 2 #[rv r, rv sc, iv (1 : Int32), rv tc, iv (0 : Int32)] [(.int (1 : Int32)), (.ref sc)])) rfl (by rw [hml]; rfl) (argsL := [(.int (1 : Int32))]) (rest := []) rfl rfl rfl (W := 0) (by show 2 * 0 + _ ≤ _; exact Nat.le_of_eq rfl) (by decide) (by decide) (hb hby dPc_2) (by decide) (by decide)
  obtain ⟨rfl, N1q, hh1⟩ := q1
  have N2 := Fr.app N0 N1q
  refine Wlk.of (fun _ k => st1 _ k) ?_
  show Wlk p.tables e below (T1.setTop (mkF m 5 #[rv r, rv sc, iv (1 : Int32), rv tc, iv (0 : Int32)] [(.double sx1)])) K
  refine Wlk.of (fun _ k => XS.aloadN X1.here hx rfl (hb hby dPc_5) rfl rfl k) ?_
  show Wlk p.tables e below (T1.setTop (mkF m 6 #[rv r, rv sc, iv (1 : Int32), rv tc, iv (0 : Int32)] [(.ref tc), (.double sx1)])) K
  refine Wlk.of (fun _ k => XS.iload X1.here hx rfl (hb hby dPc_6) rfl k) ?_
  show Wlk p.tables e below (T1.setTop (mkF m 8 #[rv r, rv sc, iv (1 : Int32), rv tc, iv (0 : Int32)] [(.int (0 : Int32)), (.ref tc), (.double sx1)])) K
  obtain ⟨v3, T3, L3, X3, q3, st3⟩ := Ctr.virtual (y := (⟨"com/example/selfwright/selfwright/optimiser/Scores", "objective", "(I)D"⟩ : MethodName)) (rmO10 l Z a0 hw tc to tx0 h0 n0 (Nat.le_trans Z0 K0.1) F_tc_objectives A_to) X1 hx hZ hh1 hown (wd hw 50 rfl) (wd hw 51 rfl) (notFace_of_selects (args := #[]) (mvT hZ (wd hw 53 rfl))) (wd hw 53 rfl) (wd hw 52 rfl) (wd hw 2 rfl) (wd hw 54 rfl) (by decide) E_tc pd_100 (g := (mkF m 8 #[rv r, rv sc, iv (1 : Int32), rv tc, iv (0 : Int32)] [(.int (0 : Int32)), (.ref tc), (.double sx1)])) rfl (by rw [hml]; rfl) (argsL := [(.int (0 : Int32))]) (rest := [(.double sx1)]) rfl rfl rfl (W := 2) (by show 2 * 0 + _ ≤ _; exact Nat.le_of_eq rfl) (by decide) (by decide) (hb hby dPc_8) (by decide) (by decide)
  obtain ⟨rfl, N3q, hh3⟩ := q3
  have N4 := Fr.app N2 N3q
  refine Wlk.of (fun _ k => st3 _ k) ?_
  show Wlk p.tables e below (T3.setTop (mkF m 11 #[rv r, rv sc, iv (1 : Int32), rv tc, iv (0 : Int32)] [(.double tx0), (.double sx1)])) K
  refine Wlk.of (fun _ k => XS.dcmpS X3.here hx rfl (hb hby dPc_11) rfl rfl k) ?_
  show Wlk p.tables e below (T3.setTop (mkF m 12 #[rv r, rv sc, iv (1 : Int32), rv tc, iv (0 : Int32)] [(.int (cmpValue (FP.dcmp sx1 tx0) .g))])) K
  by_cases hc5 : (cmpValue (FP.dcmp sx1 tx0) .g) < (0 : Int32)
  · refine Wlk.of (fun _ k => XS.ifNo X3.here hx rfl (hb hby dPc_12) rfl ((if0 _ _).trans (tlt hc5).2.1) k) ?_
    show Wlk p.tables e below (T3.setTop (mkF m 15 #[rv r, rv sc, iv (1 : Int32), rv tc, iv (0 : Int32)] [])) K
    refine Wlk.of (fun _ k => XS.iconst X3.here hx rfl (hb hby dPc_15) k) ?_
    show Wlk p.tables e below (T3.setTop (mkF m 16 #[rv r, rv sc, iv (1 : Int32), rv tc, iv (0 : Int32)] [(.int (1 : Int32))])) K
    refine Wlk.of (fun _ k => XS.goto X3.here hx rfl (pc0 := 16) (pc' := 20) rfl (hb hby dPc_16) (by decide) (by decide) k) ?_
    show Wlk p.tables e below (T3.setTop (mkF m 20 #[rv r, rv sc, iv (1 : Int32), rv tc, iv (0 : Int32)] [(.int (1 : Int32))])) K
    refine hK (some (.int (1 : Int32))) X3 (fun q => by cases q) (fun fs hr => retN X3 hx (t := .boolean) hret (by simp) (hb hby dPc_20) hr) ?_ (by decide) (by decide)
    rw [show T3.heap = h0 from hh3]
    exact ⟨(by rw [if_pos (hp.mp hc5)]), N4, rfl⟩
  · refine Wlk.of (fun _ k => XS.ifYes X3.here hx rfl (pc0 := 12) (pc' := 19) rfl (hb hby dPc_12) rfl ((if0 _ _).trans (flt hc5).2.1) (by decide) (by decide) k) ?_
    show Wlk p.tables e below (T3.setTop (mkF m 19 #[rv r, rv sc, iv (1 : Int32), rv tc, iv (0 : Int32)] [])) K
    refine Wlk.of (fun _ k => XS.iconst X3.here hx rfl (hb hby dPc_19) k) ?_
    show Wlk p.tables e below (T3.setTop (mkF m 20 #[rv r, rv sc, iv (1 : Int32), rv tc, iv (0 : Int32)] [(.int (0 : Int32))])) K
    refine hK (some (.int (0 : Int32))) X3 (fun q => by cases q) (fun fs hr => retN X3 hx (t := .boolean) hret (by simp) (hb hby dPc_20) hr) ?_ (by decide) (by decide)
    rw [show T3.heap = h0 from hh3]
    exact ⟨(by rw [if_neg (fun q => hc5 (hp.mpr q))]), N4, rfl⟩
theorem dPd_0 : decode prog_15_method_4_code 0 = .ok (.aload_n 1, 1) := by decide +kernel
theorem dPd_1 : decode prog_15_method_4_code 1 = .ok (.iload_n 2, 1) := by decide +kernel
theorem dPd_2 : decode prog_15_method_4_code 2 = .ok (.invokevirtual 13, 3) := by decide +kernel
theorem dPd_5 : decode prog_15_method_4_code 5 = .ok (.aload_n 3, 1) := by decide +kernel
theorem dPd_6 : decode prog_15_method_4_code 6 = .ok (.iload 4, 2) := by decide +kernel
theorem dPd_8 : decode prog_15_method_4_code 8 = .ok (.invokevirtual 13, 3) := by decide +kernel
theorem dPd_11 : decode prog_15_method_4_code 11 = .ok (.dcmp .g, 1) := by decide +kernel
theorem dPd_12 : decode prog_15_method_4_code 12 = .ok (.ifCond .ge 7, 3) := by decide +kernel
theorem dPd_15 : decode prog_15_method_4_code 15 = .ok (.iconst 1, 1) := by decide +kernel
theorem dPd_16 : decode prog_15_method_4_code 16 = .ok (.goto 4, 3) := by decide +kernel
theorem dPd_19 : decode prog_15_method_4_code 19 = .ok (.iconst 0, 1) := by decide +kernel
theorem dPd_20 : decode prog_15_method_4_code 20 = .ok (.ireturn, 1) := by decide +kernel
theorem ef_rmPd (m : MethodId) (r : Addr) (tc : Addr) (sc : Addr) : entryFrame m #[(.ref r), (.ref tc), (.int (0 : Int32)), (.ref sc), (.int (0 : Int32))] 5 = mkF m 0 #[rv r, rv tc, iv (0 : Int32), rv sc, iv (0 : Int32)] [] := by first | (simp [entryFrame, mkF, argsToLocals, Value.category]; done) | rfl
def Q_rmPd (Z : State) (r : Addr) (tc : Addr) (sc : Addr) (so : Addr) (sx0 : UInt64) (sx1 : UInt64) (to : Addr) (tx0 : UInt64) (kx : Int64) (ky : Int64) (h0 : Heap) (n0 : Nat) (v : Option Value) (h : Heap) (L : List Loc) : Prop := v = (some (.int (if kx < ky then (1 : Int32) else (0 : Int32)))) ∧ Fr n0 L ∧ h = h0
set_option maxRecDepth 65536 in
set_option maxHeartbeats 40000000 in
theorem rmPd (l : Launch) (Z : State) (a0 : Array Value) (hw : ∀ d ∈ tables_1, d.before a0 Z = true) (r : Addr) (tc : Addr) (sc : Addr) (so : Addr) (sx0 : UInt64) (sx1 : UInt64) (to : Addr) (tx0 : UInt64) (kx : Int64) (ky : Int64) (h0 : Heap) (n0 : Nat) (Z0 : n0 ≤ h0.size) (E_sc : Exa Z h0 sc "com/example/selfwright/selfwright/optimiser/Scores") (F_sc_objectives : Fld Z h0 sc "com/example/selfwright/selfwright/optimiser/Scores" "objectives" "[D" (.ref so)) (A_so : Arl Z h0 so .double [(.double sx0), (.double sx1)]) (E_tc : Exa Z h0 tc "com/example/selfwright/selfwright/optimiser/Scores") (F_tc_objectives : Fld Z h0 tc "com/example/selfwright/selfwright/optimiser/Scores" "objectives" "[D" (.ref to)) (A_to : Arl Z h0 to .double [(.double tx0)]) (hp : cmpValue (FP.dcmp tx0 sx0) .g < 0 ↔ kx < ky) :
    Ctr l Z h0 (⟨"com/example/selfwright/selfwright/optimiser/ObjectiveRanking", "prefers", "(Lcom/example/selfwright/selfwright/optimiser/Scores;ILcom/example/selfwright/selfwright/optimiser/Scores;I)Z"⟩ : MethodName) prog_15_method_4_code 5 (some .boolean) [] ({ frames := 1, cells := 0, slots := 0, locals := 15 } : Room) #[(.ref r), (.ref tc), (.int (0 : Int32)), (.ref sc), (.int (0 : Int32))] (Q_rmPd Z r tc sc so sx0 sx1 to tx0 kx ky h0 n0) := by
  refine Ctr.make (plainFor_of_name pn_127) fun p e s m below meth c s₁ K hret hml hx hby hown hnm hZ X0 e0 hK => ?_
  have hown : s.vm.findClass "com/example/selfwright/selfwright/optimiser/ObjectiveRanking" = some m.cls := hown
  have N0 := Fr.nil n0
  have K0 : Keep h0 h0 [] := Keep.refl _ _
  refine Wlk.of (fun _ k => castTop (ef_rmPd m r tc sc) k) ?_
  show Wlk p.tables e below (s₁.setTop (mkF m 0 #[rv r, rv tc, iv (0 : Int32), rv sc, iv (0 : Int32)] [])) K
  refine Wlk.of (fun _ k => XS.aloadN X0.here hx rfl (hb hby dPd_0) rfl rfl k) ?_
  show Wlk p.tables e below (s₁.setTop (mkF m 1 #[rv r, rv tc, iv (0 : Int32), rv sc, iv (0 : Int32)] [(.ref tc)])) K
  refine Wlk.of (fun _ k => XS.iloadN X0.here hx rfl (hb hby dPd_1) rfl k) ?_
  show Wlk p.tables e below (s₁.setTop (mkF m 2 #[rv r, rv tc, iv (0 : Int32), rv sc, iv (0 : Int32)] [(.int (0 : Int32)), (.ref tc)])) K
  obtain ⟨v1, T1, L1, X1, q1, st1⟩ := Ctr.virtual (y := (⟨"com/example/selfwright/selfwright/optimiser/Scores", "objective", "(I)D"⟩ : MethodName)) (rmO10 l Z a0 hw tc to tx0 h0 n0 (Nat.le_trans Z0 K0.1) F_tc_objectives A_to) X0 hx hZ e0 hown (wd hw 50 rfl) (wd hw 51 rfl) (notFace_of_selects (args := #[]) (mvT hZ (wd hw 53 rfl))) (wd hw 53 rfl) (wd hw 52 rfl) (wd hw 2 rfl) (wd hw 54 rfl) (by decide) E_tc pd_100 (g := (mkF m 2 #[rv r, rv tc, iv (0 : Int32), rv sc, iv (0 : Int32)] [(.int (0 : Int32)), (.ref tc)])) rfl (by rw [hml]; rfl) (argsL := [(.int (0 : Int32))]) (rest := []) rfl rfl rfl (W := 0) (by show 2 * 0 + _ ≤ _; exact Nat.le_of_eq rfl) (by decide) (by decide) (hb hby dPd_2) (by decide) (by decide)
  obtain ⟨rfl, N1q, hh1⟩ := q1
  have N2 := Fr.app N0 N1q
  refine Wlk.of (fun _ k => st1 _ k) ?_
  show Wlk p.tables e below (T1.setTop (mkF m 5 #[rv r, rv tc, iv (0 : Int32), rv sc, iv (0 : Int32)] [(.double tx0)])) K
  refine Wlk.of (fun _ k => XS.aloadN X1.here hx rfl (hb hby dPd_5) rfl rfl k) ?_
  show Wlk p.tables e below (T1.setTop (mkF m 6 #[rv r, rv tc, iv (0 : Int32), rv sc, iv (0 : Int32)] [(.ref sc), (.double tx0)])) K
  refine Wlk.of (fun _ k => XS.iload X1.here hx rfl (hb hby dPd_6) rfl k) ?_
  show Wlk p.tables e below (T1.setTop (mkF m 8 #[rv r, rv tc, iv (0 : Int32), rv sc, iv (0 : Int32)] [(.int (0 : Int32)), (.ref sc), (.double tx0)])) K
  obtain ⟨v3, T3, L3, X3, q3, st3⟩ := Ctr.virtual (y := (⟨"com/example/selfwright/selfwright/optimiser/Scores", "objective", "(I)D"⟩ : MethodName)) (rmO20 l Z a0 hw sc so sx0 sx1 h0 n0 (Nat.le_trans Z0 K0.1) F_sc_objectives A_so) X1 hx hZ hh1 hown (wd hw 50 rfl) (wd hw 51 rfl) (notFace_of_selects (args := #[]) (mvT hZ (wd hw 53 rfl))) (wd hw 53 rfl) (wd hw 52 rfl) (wd hw 2 rfl) (wd hw 54 rfl) (by decide) E_sc pd_100 (g := (mkF m 8 #[rv r, rv tc, iv (0 : Int32), rv sc, iv (0 : Int32)] [(.int (0 : Int32)), (.ref sc), (.double tx0)])) rfl (by rw [hml]; rfl) (argsL := [(.int (0 : Int32))]) (rest := [(.double tx0)]) rfl rfl rfl (W := 2) (by show 2 * 0 + _ ≤ _; exact Nat.le_of_eq rfl) (by decide) (by decide) (hb hby dPd_8) (by decide) (by decide)
  obtain ⟨rfl, N3q, hh3⟩ := q3
  have N4 := Fr.app N2 N3q
  refine Wlk.of (fun _ k => st3 _ k) ?_
  show Wlk p.tables e below (T3.setTop (mkF m 11 #[rv r, rv tc, iv (0 : Int32), rv sc, iv (0 : Int32)] [(.double sx0), (.double tx0)])) K
  refine Wlk.of (fun _ k => XS.dcmpS X3.here hx rfl (hb hby dPd_11) rfl rfl k) ?_
  show Wlk p.tables e below (T3.setTop (mkF m 12 #[rv r, rv tc, iv (0 : Int32), rv sc, iv (0 : Int32)] [(.int (cmpValue (FP.dcmp tx0 sx0) .g))])) K
  by_cases hc5 : (cmpValue (FP.dcmp tx0 sx0) .g) < (0 : Int32)
  · refine Wlk.of (fun _ k => XS.ifNo X3.here hx rfl (hb hby dPd_12) rfl ((if0 _ _).trans (tlt hc5).2.1) k) ?_
    show Wlk p.tables e below (T3.setTop (mkF m 15 #[rv r, rv tc, iv (0 : Int32), rv sc, iv (0 : Int32)] [])) K
    refine Wlk.of (fun _ k => XS.iconst X3.here hx rfl (hb hby dPd_15) k) ?_
    show Wlk p.tables e below (T3.setTop (mkF m 16 #[rv r, rv tc, iv (0 : Int32), rv sc, iv (0 : Int32)] [(.int (1 : Int32))])) K
    refine Wlk.of (fun _ k => XS.goto X3.here hx rfl (pc0 := 16) (pc' := 20) rfl (hb hby dPd_16) (by decide) (by decide) k) ?_
    show Wlk p.tables e below (T3.setTop (mkF m 20 #[rv r, rv tc, iv (0 : Int32), rv sc, iv (0 : Int32)] [(.int (1 : Int32))])) K
    refine hK (some (.int (1 : Int32))) X3 (fun q => by cases q) (fun fs hr => retN X3 hx (t := .boolean) hret (by simp) (hb hby dPd_20) hr) ?_ (by decide) (by decide)
    rw [show T3.heap = h0 from hh3]
    exact ⟨(by rw [if_pos (hp.mp hc5)]), N4, rfl⟩
  · refine Wlk.of (fun _ k => XS.ifYes X3.here hx rfl (pc0 := 12) (pc' := 19) rfl (hb hby dPd_12) rfl ((if0 _ _).trans (flt hc5).2.1) (by decide) (by decide) k) ?_
    show Wlk p.tables e below (T3.setTop (mkF m 19 #[rv r, rv tc, iv (0 : Int32), rv sc, iv (0 : Int32)] [])) K
    refine Wlk.of (fun _ k => XS.iconst X3.here hx rfl (hb hby dPd_19) k) ?_
    show Wlk p.tables e below (T3.setTop (mkF m 20 #[rv r, rv tc, iv (0 : Int32), rv sc, iv (0 : Int32)] [(.int (0 : Int32))])) K
    refine hK (some (.int (0 : Int32))) X3 (fun q => by cases q) (fun fs hr => retN X3 hx (t := .boolean) hret (by simp) (hb hby dPd_20) hr) ?_ (by decide) (by decide)
    rw [show T3.heap = h0 from hh3]
    exact ⟨(by rw [if_neg (fun q => hc5 (hp.mpr q))]), N4, rfl⟩
theorem d12_0 : decode prog_15_method_3_code 0 = .ok (.aload_n 0, 1) := by decide +kernel
theorem d12_1 : decode prog_15_method_3_code 1 = .ok (.getfield 17, 3) := by decide +kernel
theorem d12_4 : decode prog_15_method_3_code 4 = .ok (.ireturn, 1) := by decide +kernel
theorem ef_rmB (m : MethodId) (a : Addr) : entryFrame m #[(.ref a)] 1 = mkF m 0 #[rv a] [] := by first | (simp [entryFrame, mkF, argsToLocals, Value.category]; done) | rfl
def Q_rmB (Z : State) (a : Addr) (b : Int32) (h0 : Heap) (n0 : Nat) (v : Option Value) (h : Heap) (L : List Loc) : Prop := v = (some (.int b)) ∧ Fr n0 L ∧ h = h0
set_option maxRecDepth 65536 in
set_option maxHeartbeats 40000000 in
theorem rmB (l : Launch) (Z : State) (a0 : Array Value) (hw : ∀ d ∈ tables_1, d.before a0 Z = true) (a : Addr) (b : Int32) (h0 : Heap) (n0 : Nat) (Z0 : n0 ≤ h0.size) (F_a_best : Fld Z h0 a "com/example/selfwright/selfwright/optimiser/ObjectiveRanking" "best" "I" (.int b)) :
    Ctr l Z h0 (⟨"com/example/selfwright/selfwright/optimiser/ObjectiveRanking", "best", "()I"⟩ : MethodName) prog_15_method_3_code 1 (some .int) [] ({ frames := 0, cells := 0, slots := 0, locals := 0 } : Room) #[(.ref a)] (Q_rmB Z a b h0 n0) := by
  refine Ctr.make (plainFor_of_name pn_127) fun p e s m below meth c s₁ K hret hml hx hby hown hnm hZ X0 e0 hK => ?_
  have hown : s.vm.findClass "com/example/selfwright/selfwright/optimiser/ObjectiveRanking" = some m.cls := hown
  have N0 := Fr.nil n0
  have K0 : Keep h0 h0 [] := Keep.refl _ _
  refine Wlk.of (fun _ k => castTop (ef_rmB m a) k) ?_
  show Wlk p.tables e below (s₁.setTop (mkF m 0 #[rv a] [])) K
  refine Wlk.of (fun _ k => XS.aloadN X0.here hx rfl (hb hby d12_0) rfl rfl k) ?_
  show Wlk p.tables e below (s₁.setTop (mkF m 1 #[rv a] [(.ref a)])) K
  obtain ⟨T1, X1, e1, st1⟩ := getF X0 hx hZ hown (host := "") (Or.inl (wd hw 55 rfl)) Via.refl e0 F_a_best (g := (mkF m 1 #[rv a] [(.ref a)])) rfl rfl (hb hby d12_1)
  refine Wlk.of (fun _ k => st1 _ k) ?_
  show Wlk p.tables e below (T1.setTop (mkF m 4 #[rv a] [(.int b)])) K
  refine hK (some (.int b)) X1 (fun q => by cases q) (fun fs hr => retOut X1 hx hret rfl (Or.inl ⟨rfl, Or.inl rfl, _, rfl⟩) (hb hby d12_4) hr) ?_ (by decide) (by decide)
  rw [show T1.heap = h0 from e1]
  exact ⟨rfl, N0, rfl⟩
theorem pd_187 : parseMethodDescriptor "(II)V" = some ⟨[.int, .int], none⟩ := by decide +kernel
theorem pd_188 : parseMethodDescriptor "(ID)V" = some ⟨[.int, .double], none⟩ := by decide +kernel
theorem pd_189 : parseMethodDescriptor "(I)V" = some ⟨[.int], none⟩ := by decide +kernel
theorem pd_190 : parseMethodDescriptor "(Lcom/example/selfwright/selfwright/optimiser/Scores;)V" = some ⟨[(.object "com/example/selfwright/selfwright/optimiser/Scores")], none⟩ := by decide +kernel
theorem pd_191 : parseMethodDescriptor "(IZ)J" = some ⟨[.int, .boolean], some .long⟩ := by decide +kernel
theorem pd_192 : parseMethodDescriptor "(Lcom/example/selfwright/selfwright/optimiser/Scores;ILcom/example/selfwright/selfwright/optimiser/Scores;I)Z" = some ⟨[(.object "com/example/selfwright/selfwright/optimiser/Scores"), .int, (.object "com/example/selfwright/selfwright/optimiser/Scores"), .int], some .boolean⟩ := by decide +kernel
theorem ef_rm0 (m : MethodId) (p1 : Int32) (p2 : Int32) (p3 : Int32) (p4 : Int32) : entryFrame m #[(.int p1), (.int p2), (.int p3), (.int p4)] maxLocals = mkF m 0 #[iv p1, iv p2, iv p3, iv p4, un, un, un, un, un, un, un, un, un, un, un, un, un, un, un, un, un, un] [] := by first | (simp [entryFrame, mkF, argsToLocals, Value.category, maxLocals]; done) | rfl
def Q_rm0 (Z : State) (p1 : Int32) (p2 : Int32) (p3 : Int32) (p4 : Int32) (h0 : Heap) (n0 : Nat) (v : Option Value) (h : Heap) (L : List Loc) : Prop := v = (some (.int (1 : Int32))) ∧ Fr n0 L
set_option maxRecDepth 65536 in
set_option maxHeartbeats 40000000 in
theorem rm0 (l : Launch) (Z : State) (a0 : Array Value) (hw : ∀ d ∈ tables_1, d.before a0 Z = true) (ws : List Jvm.Cond) (p1 : Int32) (p2 : Int32) (p3 : Int32) (p4 : Int32) (h0 : Heap) (n0 : Nat) (Z0 : n0 ≤ h0.size) :
    Ctr l Z h0 x code maxLocals ret ws room_1 #[(.int p1), (.int p2), (.int p3), (.int p4)] (Q_rm0 Z p1 p2 p3 p4 h0 n0) := by
  refine Ctr.make (plainFor_of_name pn_135) fun p e s m below meth c s₁ K hret hml hx hby hown hnm hZ X0 e0 hK => ?_
  have hown : s.vm.findClass "com/example/selfwright/selfwright/optimiser/ObjectiveRankingPrefersPinLaw" = some m.cls := hown
  have hml : c.maxLocals = 22 := hml
  have N0 := Fr.nil n0
  have K0 : Keep h0 h0 [] := Keep.refl _ _
  refine Wlk.of (fun _ k => castTop (ef_rm0 m p1 p2 p3 p4) k) ?_
  show Wlk p.tables e below (s₁.setTop (mkF m 0 #[iv p1, iv p2, iv p3, iv p4, un, un, un, un, un, un, un, un, un, un, un, un, un, un, un, un, un, un] [])) K
  refine Wlk.of (fun _ k => XS.iloadN X0.here hx rfl (hb hby at_0) rfl k) ?_
  show Wlk p.tables e below (s₁.setTop (mkF m 1 #[iv p1, iv p2, iv p3, iv p4, un, un, un, un, un, un, un, un, un, un, un, un, un, un, un, un, un, un] [(.int p4)])) K
  refine Wlk.of (fun _ k => XS.iconst X0.here hx rfl (hb hby at_1) k) ?_
  show Wlk p.tables e below (s₁.setTop (mkF m 2 #[iv p1, iv p2, iv p3, iv p4, un, un, un, un, un, un, un, un, un, un, un, un, un, un, un, un, un, un] [(.int (1 : Int32)), (.int p4)])) K
  refine Wlk.of (fun _ k => XS.iand X0.here hx rfl (hb hby at_2) rfl k) ?_
  show Wlk p.tables e below (s₁.setTop (mkF m 3 #[iv p1, iv p2, iv p3, iv p4, un, un, un, un, un, un, un, un, un, un, un, un, un, un, un, un, un, un] [(.int (p4 &&& (1 : Int32)))])) K
  have J1 : ∀ (T1 : State), Stand p l e room_1 s m #[(.int p1), (.int p2), (.int p3), (.int p4)] below meth c T1 [] 0 0 → T1.heap = h0 → ∀ (j1_0 : Int32), j1_0 = (if (p4 &&& (1 : Int32)) = (0 : Int32) then (0 : Int32) else (1 : Int32)) → Wlk p.tables e below (T1.setTop (mkF m 11 #[iv p1, iv p2, iv p3, iv p4, un, un, un, un, un, un, un, un, un, un, un, un, un, un, un, un, un, un] [(.int j1_0)])) K := by
    intro T1 X1 e1 j1_0 hj1_0
    refine Wlk.of (fun _ k => XS.istore X1.here hx rfl (hb hby at_11) rfl (l' := #[iv p1, iv p2, iv p3, iv p4, iv j1_0, un, un, un, un, un, un, un, un, un, un, un, un, un, un, un, un, un]) rfl k) ?_
    show Wlk p.tables e below (T1.setTop (mkF m 13 #[iv p1, iv p2, iv p3, iv p4, iv j1_0, un, un, un, un, un, un, un, un, un, un, un, un, un, un, un, un, un] [])) K
    refine Wlk.of (fun _ k => XS.iloadN X1.here hx rfl (hb hby at_13) rfl k) ?_
    show Wlk p.tables e below (T1.setTop (mkF m 14 #[iv p1, iv p2, iv p3, iv p4, iv j1_0, un, un, un, un, un, un, un, un, un, un, un, un, un, un, un, un, un] [(.int p4)])) K
    refine Wlk.of (fun _ k => XS.iconst X1.here hx rfl (hb hby at_14) k) ?_
    show Wlk p.tables e below (T1.setTop (mkF m 15 #[iv p1, iv p2, iv p3, iv p4, iv j1_0, un, un, un, un, un, un, un, un, un, un, un, un, un, un, un, un, un] [(.int (2 : Int32)), (.int p4)])) K
    refine Wlk.of (fun _ k => XS.iand X1.here hx rfl (hb hby at_15) rfl k) ?_
    show Wlk p.tables e below (T1.setTop (mkF m 16 #[iv p1, iv p2, iv p3, iv p4, iv j1_0, un, un, un, un, un, un, un, un, un, un, un, un, un, un, un, un, un] [(.int (p4 &&& (2 : Int32)))])) K
    have J2 : ∀ (T2 : State), Stand p l e room_1 s m #[(.int p1), (.int p2), (.int p3), (.int p4)] below meth c T2 [] 0 0 → T2.heap = h0 → ∀ (j2_0 : Int32), j2_0 = (if (p4 &&& (2 : Int32)) = (0 : Int32) then (0 : Int32) else (1 : Int32)) → Wlk p.tables e below (T2.setTop (mkF m 24 #[iv p1, iv p2, iv p3, iv p4, iv j1_0, un, un, un, un, un, un, un, un, un, un, un, un, un, un, un, un, un] [(.int j2_0)])) K := by
      intro T2 X2 e2 j2_0 hj2_0
      refine Wlk.of (fun _ k => XS.istore X2.here hx rfl (hb hby at_24) rfl (l' := #[iv p1, iv p2, iv p3, iv p4, iv j1_0, iv j2_0, un, un, un, un, un, un, un, un, un, un, un, un, un, un, un, un]) rfl k) ?_
      show Wlk p.tables e below (T2.setTop (mkF m 26 #[iv p1, iv p2, iv p3, iv p4, iv j1_0, iv j2_0, un, un, un, un, un, un, un, un, un, un, un, un, un, un, un, un] [])) K
      refine Wlk.of (fun _ k => XS.iloadN X2.here hx rfl (hb hby at_26) rfl k) ?_
      show Wlk p.tables e below (T2.setTop (mkF m 27 #[iv p1, iv p2, iv p3, iv p4, iv j1_0, iv j2_0, un, un, un, un, un, un, un, un, un, un, un, un, un, un, un, un] [(.int p4)])) K
      refine Wlk.of (fun _ k => XS.iconst X2.here hx rfl (hb hby at_27) k) ?_
      show Wlk p.tables e below (T2.setTop (mkF m 28 #[iv p1, iv p2, iv p3, iv p4, iv j1_0, iv j2_0, un, un, un, un, un, un, un, un, un, un, un, un, un, un, un, un] [(.int (4 : Int32)), (.int p4)])) K
      refine Wlk.of (fun _ k => XS.iand X2.here hx rfl (hb hby at_28) rfl k) ?_
      show Wlk p.tables e below (T2.setTop (mkF m 29 #[iv p1, iv p2, iv p3, iv p4, iv j1_0, iv j2_0, un, un, un, un, un, un, un, un, un, un, un, un, un, un, un, un] [(.int (p4 &&& (4 : Int32)))])) K
      have J3 : ∀ (T3 : State), Stand p l e room_1 s m #[(.int p1), (.int p2), (.int p3), (.int p4)] below meth c T3 [] 0 0 → T3.heap = h0 → ∀ (j3_0 : Int32), j3_0 = (if (p4 &&& (4 : Int32)) = (0 : Int32) then (0 : Int32) else (1 : Int32)) → Wlk p.tables e below (T3.setTop (mkF m 37 #[iv p1, iv p2, iv p3, iv p4, iv j1_0, iv j2_0, un, un, un, un, un, un, un, un, un, un, un, un, un, un, un, un] [(.int j3_0)])) K := by
        intro T3 X3 e3 j3_0 hj3_0
        refine Wlk.of (fun _ k => XS.istore X3.here hx rfl (hb hby at_37) rfl (l' := #[iv p1, iv p2, iv p3, iv p4, iv j1_0, iv j2_0, iv j3_0, un, un, un, un, un, un, un, un, un, un, un, un, un, un, un]) rfl k) ?_
        show Wlk p.tables e below (T3.setTop (mkF m 39 #[iv p1, iv p2, iv p3, iv p4, iv j1_0, iv j2_0, iv j3_0, un, un, un, un, un, un, un, un, un, un, un, un, un, un, un] [])) K
        obtain ⟨T4, h4, X4, e4, E4, A4, D4, -, st4⟩ := newO X3 hx hZ hown (wd hw 0 rfl) (wd hw 1 rfl) (wd hw 2 rfl) e3 (g := (mkF m 39 #[iv p1, iv p2, iv p3, iv p4, iv j1_0, iv j2_0, iv j3_0, un, un, un, un, un, un, un, un, un, un, un, un, un, un, un] [])) rfl (hb hby at_39) (by decide) (by decide)
        obtain ⟨b4, g4⟩ : ∃ z, z = h0.size := ⟨_, rfl⟩
        rw [← g4] at A4 D4 st4
        have sz_b4 : h0.size ≤ b4 := Nat.le_trans K0.1 (Nat.le_of_eq g4.symm)
        have g_b4 : n0 ≤ b4 := Nat.le_trans Z0 sz_b4
        have K6 : Keep h0 h4 [] := K0.ext E4
        have F_b4_objectives : Fld Z h4 b4 "com/example/selfwright/selfwright/optimiser/Scores" "objectives" "[D" .null := D4 (Or.inr (wd hw 11 rfl)) (ty := (.array .double)) (by decide)
        have F_b4_violations : Fld Z h4 b4 "com/example/selfwright/selfwright/optimiser/Scores" "violations" "[[D" .null := D4 (Or.inr (wd hw 15 rfl)) (ty := (.array (.array .double))) (by decide)
        have F_b4_constraintCount : Fld Z h4 b4 "com/example/selfwright/selfwright/optimiser/Scores" "constraintCount" "I" (.int (0 : Int32)) := D4 (Or.inr (wd hw 17 rfl)) (ty := .int) (by decide)
        refine Wlk.of (fun _ k => st4 _ k) ?_
        show Wlk p.tables e below (T4.setTop (mkF m 42 #[iv p1, iv p2, iv p3, iv p4, iv j1_0, iv j2_0, iv j3_0, un, un, un, un, un, un, un, un, un, un, un, un, un, un, un] [(.ref b4)])) K
        refine Wlk.of (fun _ k => XS.dup X4.here hx rfl (hb hby at_42) rfl rfl k) ?_
        show Wlk p.tables e below (T4.setTop (mkF m 43 #[iv p1, iv p2, iv p3, iv p4, iv j1_0, iv j2_0, iv j3_0, un, un, un, un, un, un, un, un, un, un, un, un, un, un, un] [(.ref b4), (.ref b4)])) K
        refine Wlk.of (fun _ k => XS.iconst X4.here hx rfl (hb hby at_43) k) ?_
        show Wlk p.tables e below (T4.setTop (mkF m 44 #[iv p1, iv p2, iv p3, iv p4, iv j1_0, iv j2_0, iv j3_0, un, un, un, un, un, un, un, un, un, un, un, un, un, un, un] [(.int (2 : Int32)), (.ref b4), (.ref b4)])) K
        refine Wlk.of (fun _ k => XS.iconst X4.here hx rfl (hb hby at_44) k) ?_
        show Wlk p.tables e below (T4.setTop (mkF m 45 #[iv p1, iv p2, iv p3, iv p4, iv j1_0, iv j2_0, iv j3_0, un, un, un, un, un, un, un, un, un, un, un, un, un, un, un] [(.int (0 : Int32)), (.int (2 : Int32)), (.ref b4), (.ref b4)])) K
        obtain ⟨v7, T7, L7, X7, q7, st7⟩ := Ctr.special (rmI2 l Z a0 hw b4 h4 n0 (Nat.le_trans Z0 K6.1) A4 F_b4_objectives F_b4_violations F_b4_constraintCount g_b4) X4 hx hZ e4 hown rfl (wd hw 3 rfl) (wd hw 4 rfl) (wd hw 2 rfl) (wd hw 5 rfl) (by decide) pd_187 (g := (mkF m 45 #[iv p1, iv p2, iv p3, iv p4, iv j1_0, iv j2_0, iv j3_0, un, un, un, un, un, un, un, un, un, un, un, un, un, un, un] [(.int (0 : Int32)), (.int (2 : Int32)), (.ref b4), (.ref b4)])) rfl (by rw [hml]; rfl) (a := b4) (argsL := [(.int (2 : Int32)), (.int (0 : Int32))]) (rest := [(.ref b4)]) rfl rfl rfl (W := 1) (by show 2 * 0 + _ ≤ _; exact Nat.le_of_eq rfl) (by decide) (by decide) (hb hby at_45) (by decide) (by decide)
        obtain ⟨ob_7, rfl, N7q, K7q, p7_0, p7_1, p7_2⟩ := q7
        have N8 := Fr.app N0 N7q
        refine Wlk.of (fun _ k => st7 _ k) ?_
        have ne9 : b4 ≠ ob_7 := Nat.ne_of_lt (Nat.lt_of_lt_of_le A4.lt p7_0)
        have sz_ob_7 : h0.size ≤ ob_7 := Nat.le_trans K6.1 p7_0
        have g_ob_7 : n0 ≤ ob_7 := Nat.le_trans Z0 sz_ob_7
        have K10 : Keep h0 T7.heap [] := K6.trans K7q (allS (Or.inr sz_b4) all0)
        show Wlk p.tables e below (T7.setTop (mkF m 48 #[iv p1, iv p2, iv p3, iv p4, iv j1_0, iv j2_0, iv j3_0, un, un, un, un, un, un, un, un, un, un, un, un, un, un, un] [(.ref b4)])) K
        refine Wlk.of (fun _ k => XS.astore X7.here hx rfl (hb hby at_48) rfl rfl (l' := #[iv p1, iv p2, iv p3, iv p4, iv j1_0, iv j2_0, iv j3_0, rv b4, un, un, un, un, un, un, un, un, un, un, un, un, un, un]) rfl k) ?_
        show Wlk p.tables e below (T7.setTop (mkF m 50 #[iv p1, iv p2, iv p3, iv p4, iv j1_0, iv j2_0, iv j3_0, rv b4, un, un, un, un, un, un, un, un, un, un, un, un, un, un] [])) K
        obtain ⟨T11, h11, X11, e11, E11, A11, D11, -, st11⟩ := newO X7 hx hZ hown (wd hw 0 rfl) (wd hw 1 rfl) (wd hw 2 rfl) rfl (g := (mkF m 50 #[iv p1, iv p2, iv p3, iv p4, iv j1_0, iv j2_0, iv j3_0, rv b4, un, un, un, un, un, un, un, un, un, un, un, un, un, un] [])) rfl (hb hby at_50) (by decide) (by decide)
        obtain ⟨b11, g11⟩ : ∃ z, z = T7.heap.size := ⟨_, rfl⟩
        rw [← g11] at A11 D11 st11
        have f13 : Exa Z T7.heap b4 "com/example/selfwright/selfwright/optimiser/Scores" := (A4.keep K7q)
        have ne12 : b4 ≠ b11 := Nat.ne_of_lt (Nat.lt_of_lt_of_le f13.lt (Nat.le_of_eq g11.symm))
        have ne14 : ob_7 ≠ b11 := Nat.ne_of_lt (Nat.lt_of_lt_of_le p7_2.lt (Nat.le_of_eq g11.symm))
        have sz_b11 : h0.size ≤ b11 := Nat.le_trans K10.1 (Nat.le_of_eq g11.symm)
        have g_b11 : n0 ≤ b11 := Nat.le_trans Z0 sz_b11
        have K16 : Keep h0 h11 [] := K10.ext E11
        have F_b11_objectives : Fld Z h11 b11 "com/example/selfwright/selfwright/optimiser/Scores" "objectives" "[D" .null := D11 (Or.inr (wd hw 11 rfl)) (ty := (.array .double)) (by decide)
        have F_b11_violations : Fld Z h11 b11 "com/example/selfwright/selfwright/optimiser/Scores" "violations" "[[D" .null := D11 (Or.inr (wd hw 15 rfl)) (ty := (.array (.array .double))) (by decide)
        have F_b11_constraintCount : Fld Z h11 b11 "com/example/selfwright/selfwright/optimiser/Scores" "constraintCount" "I" (.int (0 : Int32)) := D11 (Or.inr (wd hw 17 rfl)) (ty := .int) (by decide)
        refine Wlk.of (fun _ k => st11 _ k) ?_
        show Wlk p.tables e below (T11.setTop (mkF m 53 #[iv p1, iv p2, iv p3, iv p4, iv j1_0, iv j2_0, iv j3_0, rv b4, un, un, un, un, un, un, un, un, un, un, un, un, un, un] [(.ref b11)])) K
        refine Wlk.of (fun _ k => XS.dup X11.here hx rfl (hb hby at_53) rfl rfl k) ?_
        show Wlk p.tables e below (T11.setTop (mkF m 54 #[iv p1, iv p2, iv p3, iv p4, iv j1_0, iv j2_0, iv j3_0, rv b4, un, un, un, un, un, un, un, un, un, un, un, un, un, un] [(.ref b11), (.ref b11)])) K
        refine Wlk.of (fun _ k => XS.iconst X11.here hx rfl (hb hby at_54) k) ?_
        show Wlk p.tables e below (T11.setTop (mkF m 55 #[iv p1, iv p2, iv p3, iv p4, iv j1_0, iv j2_0, iv j3_0, rv b4, un, un, un, un, un, un, un, un, un, un, un, un, un, un] [(.int (1 : Int32)), (.ref b11), (.ref b11)])) K
        refine Wlk.of (fun _ k => XS.iconst X11.here hx rfl (hb hby at_55) k) ?_
        show Wlk p.tables e below (T11.setTop (mkF m 56 #[iv p1, iv p2, iv p3, iv p4, iv j1_0, iv j2_0, iv j3_0, rv b4, un, un, un, un, un, un, un, un, un, un, un, un, un, un] [(.int (0 : Int32)), (.int (1 : Int32)), (.ref b11), (.ref b11)])) K
        obtain ⟨v17, T17, L17, X17, q17, st17⟩ := Ctr.special (rmI1 l Z a0 hw b11 h11 n0 (Nat.le_trans Z0 K16.1) A11 F_b11_objectives F_b11_violations F_b11_constraintCount g_b11) X11 hx hZ e11 hown rfl (wd hw 3 rfl) (wd hw 4 rfl) (wd hw 2 rfl) (wd hw 5 rfl) (by decide) pd_187 (g := (mkF m 56 #[iv p1, iv p2, iv p3, iv p4, iv j1_0, iv j2_0, iv j3_0, rv b4, un, un, un, un, un, un, un, un, un, un, un, un, un, un] [(.int (0 : Int32)), (.int (1 : Int32)), (.ref b11), (.ref b11)])) rfl (by rw [hml]; rfl) (a := b11) (argsL := [(.int (1 : Int32)), (.int (0 : Int32))]) (rest := [(.ref b11)]) rfl rfl rfl (W := 1) (by show 2 * 0 + _ ≤ _; exact Nat.le_of_eq rfl) (by decide) (by decide) (hb hby at_56) (by decide) (by decide)
        obtain ⟨ob_17, rfl, N17q, K17q, p17_0, p17_1, p17_2⟩ := q17
        have N18 := Fr.app N8 N17q
        refine Wlk.of (fun _ k => st17 _ k) ?_
        have ne19 : b11 ≠ ob_17 := Nat.ne_of_lt (Nat.lt_of_lt_of_le A11.lt p17_0)
        have f21 : Exa Z h11 b4 "com/example/selfwright/selfwright/optimiser/Scores" := (f13.ext E11)
        have ne20 : b4 ≠ ob_17 := Nat.ne_of_lt (Nat.lt_of_lt_of_le f21.lt p17_0)
        have f23 : Arl Z h11 ob_7 .double [(.double (0 : UInt64)), (.double (0 : UInt64))] := (p7_2.ext E11)
        have ne22 : ob_7 ≠ ob_17 := Nat.ne_of_lt (Nat.lt_of_lt_of_le f23.lt p17_0)
        have sz_ob_17 : h0.size ≤ ob_17 := Nat.le_trans K16.1 p17_0
        have g_ob_17 : n0 ≤ ob_17 := Nat.le_trans Z0 sz_ob_17
        have K24 : Keep h0 T17.heap [] := K16.trans K17q (allS (Or.inr sz_b11) all0)
        show Wlk p.tables e below (T17.setTop (mkF m 59 #[iv p1, iv p2, iv p3, iv p4, iv j1_0, iv j2_0, iv j3_0, rv b4, un, un, un, un, un, un, un, un, un, un, un, un, un, un] [(.ref b11)])) K
        refine Wlk.of (fun _ k => XS.astore X17.here hx rfl (hb hby at_59) rfl rfl (l' := #[iv p1, iv p2, iv p3, iv p4, iv j1_0, iv j2_0, iv j3_0, rv b4, rv b11, un, un, un, un, un, un, un, un, un, un, un, un, un]) rfl k) ?_
        show Wlk p.tables e below (T17.setTop (mkF m 61 #[iv p1, iv p2, iv p3, iv p4, iv j1_0, iv j2_0, iv j3_0, rv b4, rv b11, un, un, un, un, un, un, un, un, un, un, un, un, un] [])) K
        refine Wlk.of (fun _ k => XS.iload X17.here hx rfl (hb hby at_61) rfl k) ?_
        show Wlk p.tables e below (T17.setTop (mkF m 63 #[iv p1, iv p2, iv p3, iv p4, iv j1_0, iv j2_0, iv j3_0, rv b4, rv b11, un, un, un, un, un, un, un, un, un, un, un, un, un] [(.int j1_0)])) K
        have J25 : ∀ (T25 : State) (h25 : Heap) (ls25 : List Loc) (j25_0 : UInt64), j25_0 = (if j1_0 = (0 : Int32) then (FP.i2d p1) else (9218868437227405312 : UInt64)) → Stand p l e room_1 s m #[(.int p1), (.int p2), (.int p3), (.int p4)] below meth c T25 ls25 9 12 → T25.heap = h25 → Fr n0 ls25 → Keep h0 h25 [] → Exa Z h25 b4 "com/example/selfwright/selfwright/optimiser/Scores" → Fld Z h25 b4 "com/example/selfwright/selfwright/optimiser/Scores" "objectives" "[D" (.ref ob_7) → Exa Z h25 b11 "com/example/selfwright/selfwright/optimiser/Scores" → Fld Z h25 b11 "com/example/selfwright/selfwright/optimiser/Scores" "objectives" "[D" (.ref ob_17) → Arl Z h25 ob_17 .double [(.double (0 : UInt64))] → Arl Z h25 ob_7 .double [(.double j25_0), (.double (0 : UInt64))] → Wlk p.tables e below (T25.setTop (mkF m 83 #[iv p1, iv p2, iv p3, iv p4, iv j1_0, iv j2_0, iv j3_0, rv b4, rv b11, un, un, un, un, un, un, un, un, un, un, un, un, un] [])) K := by
          intro T25 h25 ls25 j25_0 hj25_0 X25 e25 N25 K25 z25_0 z25_1 z25_2 z25_3 z25_4 z25_5
          refine Wlk.of (fun _ k => XS.iload X25.here hx rfl (hb hby at_83) rfl k) ?_
          show Wlk p.tables e below (T25.setTop (mkF m 85 #[iv p1, iv p2, iv p3, iv p4, iv j1_0, iv j2_0, iv j3_0, rv b4, rv b11, un, un, un, un, un, un, un, un, un, un, un, un, un] [(.int j2_0)])) K
          have J26 : ∀ (T26 : State) (h26 : Heap) (ls26 : List Loc) (j26_0 : UInt64), j26_0 = (if j2_0 = (0 : Int32) then (FP.i2d p2) else (9218868437227405312 : UInt64)) → Stand p l e room_1 s m #[(.int p1), (.int p2), (.int p3), (.int p4)] below meth c T26 ls26 9 12 → T26.heap = h26 → Fr n0 ls26 → Keep h0 h26 [] → Exa Z h26 b4 "com/example/selfwright/selfwright/optimiser/Scores" → Fld Z h26 b4 "com/example/selfwright/selfwright/optimiser/Scores" "objectives" "[D" (.ref ob_7) → Exa Z h26 b11 "com/example/selfwright/selfwright/optimiser/Scores" → Fld Z h26 b11 "com/example/selfwright/selfwright/optimiser/Scores" "objectives" "[D" (.ref ob_17) → Arl Z h26 ob_17 .double [(.double (0 : UInt64))] → Arl Z h26 ob_7 .double [(.double j25_0), (.double j26_0)] → Wlk p.tables e below (T26.setTop (mkF m 105 #[iv p1, iv p2, iv p3, iv p4, iv j1_0, iv j2_0, iv j3_0, rv b4, rv b11, un, un, un, un, un, un, un, un, un, un, un, un, un] [])) K := by
            intro T26 h26 ls26 j26_0 hj26_0 X26 e26 N26 K26 z26_0 z26_1 z26_2 z26_3 z26_4 z26_5
            refine Wlk.of (fun _ k => XS.iload X26.here hx rfl (hb hby at_105) rfl k) ?_
            show Wlk p.tables e below (T26.setTop (mkF m 107 #[iv p1, iv p2, iv p3, iv p4, iv j1_0, iv j2_0, iv j3_0, rv b4, rv b11, un, un, un, un, un, un, un, un, un, un, un, un, un] [(.int j3_0)])) K
            have J27 : ∀ (T27 : State) (h27 : Heap) (ls27 : List Loc) (j27_0 : UInt64), j27_0 = (if j3_0 = (0 : Int32) then (FP.i2d p3) else (9218868437227405312 : UInt64)) → Stand p l e room_1 s m #[(.int p1), (.int p2), (.int p3), (.int p4)] below meth c T27 ls27 9 12 → T27.heap = h27 → Fr n0 ls27 → Keep h0 h27 [] → Exa Z h27 b4 "com/example/selfwright/selfwright/optimiser/Scores" → Fld Z h27 b4 "com/example/selfwright/selfwright/optimiser/Scores" "objectives" "[D" (.ref ob_7) → Exa Z h27 b11 "com/example/selfwright/selfwright/optimiser/Scores" → Fld Z h27 b11 "com/example/selfwright/selfwright/optimiser/Scores" "objectives" "[D" (.ref ob_17) → Arl Z h27 ob_7 .double [(.double j25_0), (.double j26_0)] → Arl Z h27 ob_17 .double [(.double j27_0)] → Wlk p.tables e below (T27.setTop (mkF m 127 #[iv p1, iv p2, iv p3, iv p4, iv j1_0, iv j2_0, iv j3_0, rv b4, rv b11, un, un, un, un, un, un, un, un, un, un, un, un, un] [])) K := by
              intro T27 h27 ls27 j27_0 hj27_0 X27 e27 N27 K27 z27_0 z27_1 z27_2 z27_3 z27_4 z27_5
              obtain ⟨T28, h28, X28, e28, E28, A28, D28, -, st28⟩ := newO X27 hx hZ hown (wd hw 38 rfl) (wd hw 39 rfl) (wd hw 40 rfl) e27 (g := (mkF m 127 #[iv p1, iv p2, iv p3, iv p4, iv j1_0, iv j2_0, iv j3_0, rv b4, rv b11, un, un, un, un, un, un, un, un, un, un, un, un, un] [])) rfl (hb hby at_127) (by decide) (by decide)
              obtain ⟨b28, g28⟩ : ∃ z, z = h27.size := ⟨_, rfl⟩
              rw [← g28] at A28 D28 st28
              have ne29 : b11 ≠ b28 := Nat.ne_of_lt (Nat.lt_of_lt_of_le z27_2.lt (Nat.le_of_eq g28.symm))
              have ne30 : b4 ≠ b28 := Nat.ne_of_lt (Nat.lt_of_lt_of_le z27_0.lt (Nat.le_of_eq g28.symm))
              have ne31 : ob_17 ≠ b28 := Nat.ne_of_lt (Nat.lt_of_lt_of_le z27_5.lt (Nat.le_of_eq g28.symm))
              have ne32 : ob_7 ≠ b28 := Nat.ne_of_lt (Nat.lt_of_lt_of_le z27_4.lt (Nat.le_of_eq g28.symm))
              have sz_b28 : h0.size ≤ b28 := Nat.le_trans K27.1 (Nat.le_of_eq g28.symm)
              have g_b28 : n0 ≤ b28 := Nat.le_trans Z0 sz_b28
              have K34 : Keep h0 h28 [] := K27.ext E28
              have F_b28_best : Fld Z h28 b28 "com/example/selfwright/selfwright/optimiser/ObjectiveRanking" "best" "I" (.int (0 : Int32)) := D28 (Or.inr (wd hw 56 rfl)) (ty := .int) (by decide)
              refine Wlk.of (fun _ k => st28 _ k) ?_
              show Wlk p.tables e below (T28.setTop (mkF m 130 #[iv p1, iv p2, iv p3, iv p4, iv j1_0, iv j2_0, iv j3_0, rv b4, rv b11, un, un, un, un, un, un, un, un, un, un, un, un, un] [(.ref b28)])) K
              refine Wlk.of (fun _ k => XS.dup X28.here hx rfl (hb hby at_130) rfl rfl k) ?_
              show Wlk p.tables e below (T28.setTop (mkF m 131 #[iv p1, iv p2, iv p3, iv p4, iv j1_0, iv j2_0, iv j3_0, rv b4, rv b11, un, un, un, un, un, un, un, un, un, un, un, un, un] [(.ref b28), (.ref b28)])) K
              refine Wlk.of (fun _ k => XS.aload X28.here hx rfl (hb hby at_131) rfl rfl k) ?_
              show Wlk p.tables e below (T28.setTop (mkF m 133 #[iv p1, iv p2, iv p3, iv p4, iv j1_0, iv j2_0, iv j3_0, rv b4, rv b11, un, un, un, un, un, un, un, un, un, un, un, un, un] [(.ref b4), (.ref b28), (.ref b28)])) K
              have f35 : Exa Z h28 b4 "com/example/selfwright/selfwright/optimiser/Scores" := (z27_0.ext E28)
              have f36 : Fld Z h28 b4 "com/example/selfwright/selfwright/optimiser/Scores" "objectives" "[D" (.ref ob_7) := (z27_1.ext E28)
              have f37 : Arl Z h28 ob_7 .double [(.double j25_0), (.double j26_0)] := (z27_4.ext E28)
              obtain ⟨v38, T38, L38, X38, q38, st38⟩ := Ctr.special (rmK l Z a0 hw b28 b4 ob_7 j25_0 j26_0 ((if j1_0 = (0 : Int32) then p1.toInt64 else (9223372036854775807 : Int64))) ((if j2_0 = (0 : Int32) then p2.toInt64 else (9223372036854775807 : Int64))) h28 n0 (Nat.le_trans Z0 K34.1) A28 F_b28_best f35 f36 f37 g_b28 (own_kv (own_kvite hj26_0) (own_kvite hj25_0))) X28 hx hZ e28 hown rfl (wd hw 41 rfl) (wd hw 42 rfl) (wd hw 40 rfl) (wd hw 43 rfl) (by decide) pd_190 (g := (mkF m 133 #[iv p1, iv p2, iv p3, iv p4, iv j1_0, iv j2_0, iv j3_0, rv b4, rv b11, un, un, un, un, un, un, un, un, un, un, un, un, un] [(.ref b4), (.ref b28), (.ref b28)])) rfl (by rw [hml]; rfl) (a := b28) (argsL := [(.ref b4)]) (rest := [(.ref b28)]) rfl rfl rfl (W := 1) (by show 2 * 0 + _ ≤ _; exact Nat.le_of_eq rfl) (by decide) (by decide) (hb hby at_133) (by decide) (by decide)
              obtain ⟨rfl, N38q, K38q, p38_0⟩ := q38
              have N39 := Fr.app N27 N38q
              refine Wlk.of (fun _ k => st38 _ k) ?_
              have K40 : Keep h0 T38.heap [] := K34.trans K38q (allS (Or.inr sz_b28) all0)
              show Wlk p.tables e below (T38.setTop (mkF m 136 #[iv p1, iv p2, iv p3, iv p4, iv j1_0, iv j2_0, iv j3_0, rv b4, rv b11, un, un, un, un, un, un, un, un, un, un, un, un, un] [(.ref b28)])) K
              refine Wlk.of (fun _ k => XS.astore X38.here hx rfl (hb hby at_136) rfl rfl (l' := #[iv p1, iv p2, iv p3, iv p4, iv j1_0, iv j2_0, iv j3_0, rv b4, rv b11, rv b28, un, un, un, un, un, un, un, un, un, un, un, un]) rfl k) ?_
              show Wlk p.tables e below (T38.setTop (mkF m 138 #[iv p1, iv p2, iv p3, iv p4, iv j1_0, iv j2_0, iv j3_0, rv b4, rv b11, rv b28, un, un, un, un, un, un, un, un, un, un, un, un] [])) K
              refine Wlk.of (fun _ k => XS.iloadN X38.here hx rfl (hb hby at_138) rfl k) ?_
              show Wlk p.tables e below (T38.setTop (mkF m 139 #[iv p1, iv p2, iv p3, iv p4, iv j1_0, iv j2_0, iv j3_0, rv b4, rv b11, rv b28, un, un, un, un, un, un, un, un, un, un, un, un] [(.int p1)])) K
              refine Wlk.of (fun _ k => XS.iload X38.here hx rfl (hb hby at_139) rfl k) ?_
              show Wlk p.tables e below (T38.setTop (mkF m 141 #[iv p1, iv p2, iv p3, iv p4, iv j1_0, iv j2_0, iv j3_0, rv b4, rv b11, rv b28, un, un, un, un, un, un, un, un, un, un, un, un] [(.int j1_0), (.int p1)])) K
              obtain ⟨v41, T41, L41, X41, q41, st41⟩ := Ctr.static (rmY l Z a0 hw p1 j1_0 T38.heap n0 (Nat.le_trans Z0 K40.1) ) X38 hx hZ rfl hown (wd hw 57 rfl) (wd hw 58 rfl) (wd hw 59 rfl) (wd hw 60 rfl) (by decide) pd_191 (g := (mkF m 141 #[iv p1, iv p2, iv p3, iv p4, iv j1_0, iv j2_0, iv j3_0, rv b4, rv b11, rv b28, un, un, un, un, un, un, un, un, un, un, un, un] [(.int j1_0), (.int p1)])) rfl (by rw [hml]; rfl) (argsL := [(.int p1), (.int j1_0)]) (rest := []) rfl rfl rfl (W := 0) (by show 2 * 0 + _ ≤ _; exact Nat.le_of_eq rfl) (by decide) (by decide) (hb hby at_141) (by decide) (by decide)
              obtain ⟨rfl, N41q, hh41⟩ := q41
              have N42 := Fr.app N39 N41q
              refine Wlk.of (fun _ k => st41 _ k) ?_
              show Wlk p.tables e below (T41.setTop (mkF m 144 #[iv p1, iv p2, iv p3, iv p4, iv j1_0, iv j2_0, iv j3_0, rv b4, rv b11, rv b28, un, un, un, un, un, un, un, un, un, un, un, un] [(.long (if j1_0 = (0 : Int32) then p1.toInt64 else (9223372036854775807 : Int64)))])) K
              refine Wlk.of (fun _ k => XS.lstore X41.here hx rfl (hb hby at_144) rfl (l' := #[iv p1, iv p2, iv p3, iv p4, iv j1_0, iv j2_0, iv j3_0, rv b4, rv b11, rv b28, jv (if j1_0 = (0 : Int32) then p1.toInt64 else (9223372036854775807 : Int64)), sd, un, un, un, un, un, un, un, un, un, un]) rfl k) ?_
              show Wlk p.tables e below (T41.setTop (mkF m 146 #[iv p1, iv p2, iv p3, iv p4, iv j1_0, iv j2_0, iv j3_0, rv b4, rv b11, rv b28, jv (if j1_0 = (0 : Int32) then p1.toInt64 else (9223372036854775807 : Int64)), sd, un, un, un, un, un, un, un, un, un, un] [])) K
              generalize hv43 : (if j1_0 = (0 : Int32) then p1.toInt64 else (9223372036854775807 : Int64)) = v43
              refine Wlk.of (fun _ k => XS.iloadN X41.here hx rfl (hb hby at_146) rfl k) ?_
              show Wlk p.tables e below (T41.setTop (mkF m 147 #[iv p1, iv p2, iv p3, iv p4, iv j1_0, iv j2_0, iv j3_0, rv b4, rv b11, rv b28, jv v43, sd, un, un, un, un, un, un, un, un, un, un] [(.int p2)])) K
              refine Wlk.of (fun _ k => XS.iload X41.here hx rfl (hb hby at_147) rfl k) ?_
              show Wlk p.tables e below (T41.setTop (mkF m 149 #[iv p1, iv p2, iv p3, iv p4, iv j1_0, iv j2_0, iv j3_0, rv b4, rv b11, rv b28, jv v43, sd, un, un, un, un, un, un, un, un, un, un] [(.int j2_0), (.int p2)])) K
              obtain ⟨v44, T44, L44, X44, q44, st44⟩ := Ctr.static (rmY l Z a0 hw p2 j2_0 T38.heap n0 (Nat.le_trans Z0 K40.1) ) X41 hx hZ hh41 hown (wd hw 57 rfl) (wd hw 58 rfl) (wd hw 59 rfl) (wd hw 60 rfl) (by decide) pd_191 (g := (mkF m 149 #[iv p1, iv p2, iv p3, iv p4, iv j1_0, iv j2_0, iv j3_0, rv b4, rv b11, rv b28, jv v43, sd, un, un, un, un, un, un, un, un, un, un] [(.int j2_0), (.int p2)])) rfl (by rw [hml]; rfl) (argsL := [(.int p2), (.int j2_0)]) (rest := []) rfl rfl rfl (W := 0) (by show 2 * 0 + _ ≤ _; exact Nat.le_of_eq rfl) (by decide) (by decide) (hb hby at_149) (by decide) (by decide)
              obtain ⟨rfl, N44q, hh44⟩ := q44
              have N45 := Fr.app N42 N44q
              refine Wlk.of (fun _ k => st44 _ k) ?_
              show Wlk p.tables e below (T44.setTop (mkF m 152 #[iv p1, iv p2, iv p3, iv p4, iv j1_0, iv j2_0, iv j3_0, rv b4, rv b11, rv b28, jv v43, sd, un, un, un, un, un, un, un, un, un, un] [(.long (if j2_0 = (0 : Int32) then p2.toInt64 else (9223372036854775807 : Int64)))])) K
              refine Wlk.of (fun _ k => XS.lstore X44.here hx rfl (hb hby at_152) rfl (l' := #[iv p1, iv p2, iv p3, iv p4, iv j1_0, iv j2_0, iv j3_0, rv b4, rv b11, rv b28, jv v43, sd, jv (if j2_0 = (0 : Int32) then p2.toInt64 else (9223372036854775807 : Int64)), sd, un, un, un, un, un, un, un, un]) rfl k) ?_
              show Wlk p.tables e below (T44.setTop (mkF m 154 #[iv p1, iv p2, iv p3, iv p4, iv j1_0, iv j2_0, iv j3_0, rv b4, rv b11, rv b28, jv v43, sd, jv (if j2_0 = (0 : Int32) then p2.toInt64 else (9223372036854775807 : Int64)), sd, un, un, un, un, un, un, un, un] [])) K
              generalize hv46 : (if j2_0 = (0 : Int32) then p2.toInt64 else (9223372036854775807 : Int64)) = v46
              refine Wlk.of (fun _ k => XS.iloadN X44.here hx rfl (hb hby at_154) rfl k) ?_
              show Wlk p.tables e below (T44.setTop (mkF m 155 #[iv p1, iv p2, iv p3, iv p4, iv j1_0, iv j2_0, iv j3_0, rv b4, rv b11, rv b28, jv v43, sd, jv v46, sd, un, un, un, un, un, un, un, un] [(.int p3)])) K
              refine Wlk.of (fun _ k => XS.iload X44.here hx rfl (hb hby at_155) rfl k) ?_
              show Wlk p.tables e below (T44.setTop (mkF m 157 #[iv p1, iv p2, iv p3, iv p4, iv j1_0, iv j2_0, iv j3_0, rv b4, rv b11, rv b28, jv v43, sd, jv v46, sd, un, un, un, un, un, un, un, un] [(.int j3_0), (.int p3)])) K
              obtain ⟨v47, T47, L47, X47, q47, st47⟩ := Ctr.static (rmY l Z a0 hw p3 j3_0 T38.heap n0 (Nat.le_trans Z0 K40.1) ) X44 hx hZ hh44 hown (wd hw 57 rfl) (wd hw 58 rfl) (wd hw 59 rfl) (wd hw 60 rfl) (by decide) pd_191 (g := (mkF m 157 #[iv p1, iv p2, iv p3, iv p4, iv j1_0, iv j2_0, iv j3_0, rv b4, rv b11, rv b28, jv v43, sd, jv v46, sd, un, un, un, un, un, un, un, un] [(.int j3_0), (.int p3)])) rfl (by rw [hml]; rfl) (argsL := [(.int p3), (.int j3_0)]) (rest := []) rfl rfl rfl (W := 0) (by show 2 * 0 + _ ≤ _; exact Nat.le_of_eq rfl) (by decide) (by decide) (hb hby at_157) (by decide) (by decide)
              obtain ⟨rfl, N47q, hh47⟩ := q47
              have N48 := Fr.app N45 N47q
              refine Wlk.of (fun _ k => st47 _ k) ?_
              show Wlk p.tables e below (T47.setTop (mkF m 160 #[iv p1, iv p2, iv p3, iv p4, iv j1_0, iv j2_0, iv j3_0, rv b4, rv b11, rv b28, jv v43, sd, jv v46, sd, un, un, un, un, un, un, un, un] [(.long (if j3_0 = (0 : Int32) then p3.toInt64 else (9223372036854775807 : Int64)))])) K
              refine Wlk.of (fun _ k => XS.lstore X47.here hx rfl (hb hby at_160) rfl (l' := #[iv p1, iv p2, iv p3, iv p4, iv j1_0, iv j2_0, iv j3_0, rv b4, rv b11, rv b28, jv v43, sd, jv v46, sd, jv (if j3_0 = (0 : Int32) then p3.toInt64 else (9223372036854775807 : Int64)), sd, un, un, un, un, un, un]) rfl k) ?_
              show Wlk p.tables e below (T47.setTop (mkF m 162 #[iv p1, iv p2, iv p3, iv p4, iv j1_0, iv j2_0, iv j3_0, rv b4, rv b11, rv b28, jv v43, sd, jv v46, sd, jv (if j3_0 = (0 : Int32) then p3.toInt64 else (9223372036854775807 : Int64)), sd, un, un, un, un, un, un] [])) K
              generalize hv49 : (if j3_0 = (0 : Int32) then p3.toInt64 else (9223372036854775807 : Int64)) = v49
              refine Wlk.of (fun _ k => XS.aload X47.here hx rfl (hb hby at_162) rfl rfl k) ?_
              show Wlk p.tables e below (T47.setTop (mkF m 164 #[iv p1, iv p2, iv p3, iv p4, iv j1_0, iv j2_0, iv j3_0, rv b4, rv b11, rv b28, jv v43, sd, jv v46, sd, jv v49, sd, un, un, un, un, un, un] [(.ref b28)])) K
              refine Wlk.of (fun _ k => XS.aload X47.here hx rfl (hb hby at_164) rfl rfl k) ?_
              show Wlk p.tables e below (T47.setTop (mkF m 166 #[iv p1, iv p2, iv p3, iv p4, iv j1_0, iv j2_0, iv j3_0, rv b4, rv b11, rv b28, jv v43, sd, jv v46, sd, jv v49, sd, un, un, un, un, un, un] [(.ref b4), (.ref b28)])) K
              refine Wlk.of (fun _ k => XS.iconst X47.here hx rfl (hb hby at_166) k) ?_
              show Wlk p.tables e below (T47.setTop (mkF m 167 #[iv p1, iv p2, iv p3, iv p4, iv j1_0, iv j2_0, iv j3_0, rv b4, rv b11, rv b28, jv v43, sd, jv v46, sd, jv v49, sd, un, un, un, un, un, un] [(.int (0 : Int32)), (.ref b4), (.ref b28)])) K
              refine Wlk.of (fun _ k => XS.aload X47.here hx rfl (hb hby at_167) rfl rfl k) ?_
              show Wlk p.tables e below (T47.setTop (mkF m 169 #[iv p1, iv p2, iv p3, iv p4, iv j1_0, iv j2_0, iv j3_0, rv b4, rv b11, rv b28, jv v43, sd, jv v46, sd, jv v49, sd, un, un, un, un, un, un] [(.ref b4), (.int (0 : Int32)), (.ref b4), (.ref b28)])) K
              refine Wlk.of (fun _ k => XS.iconst X47.here hx rfl (hb hby at_169) k) ?_
              show Wlk p.tables e below (T47.setTop (mkF m 170 #[iv p1, iv p2, iv p3, iv p4, iv j1_0, iv j2_0, iv j3_0, rv b4, rv b11, rv b28, jv v43, sd, jv v46, sd, jv v49, sd, un, un, un, un, un, un] [(.int (1 : Int32)), (.ref b4), (.int (0 : Int32)), (.ref b4), (.ref b28)])) K
              have f50 : Exa Z T38.heap b4 "com/example/selfwright/selfwright/optimiser/Scores" := (f35.keep K38q)
              have f51 : Fld Z T38.heap b4 "com/example/selfwright/selfwright/optimiser/Scores" "objectives" "[D" (.ref ob_7) := (f36.keep K38q (ninS ne30 nin0))
              have f52 : Arl Z T38.heap ob_7 .double [(.double j25_0), (.double j26_0)] := (f37.keep K38q (ninS ne32 nin0))
              have f53 : Exa Z T38.heap b28 "com/example/selfwright/selfwright/optimiser/ObjectiveRanking" := (A28.keep K38q)
              obtain ⟨v54, T54, L54, X54, q54, st54⟩ := Ctr.virtual (y := (⟨"com/example/selfwright/selfwright/optimiser/ObjectiveRanking", "prefers", "(Lcom/example/selfwright/selfwright/optimiser/Scores;ILcom/example/selfwright/selfwright/optimiser/Scores;I)Z"⟩ : MethodName)) (rmPa l Z a0 hw b28 b4 ob_7 j25_0 j26_0 v43 v46 T38.heap n0 (Nat.le_trans Z0 K40.1) f50 f51 f52 (own_kv (hv43 ▸ own_kvite hj25_0) (hv46 ▸ own_kvite hj26_0))) X47 hx hZ hh47 hown (wd hw 62 rfl) (wd hw 63 rfl) (notFace_of_selects (args := #[]) (mvT hZ (wd hw 65 rfl))) (wd hw 65 rfl) (wd hw 64 rfl) (wd hw 40 rfl) (wd hw 66 rfl) (by decide) f53 pd_192 (g := (mkF m 170 #[iv p1, iv p2, iv p3, iv p4, iv j1_0, iv j2_0, iv j3_0, rv b4, rv b11, rv b28, jv v43, sd, jv v46, sd, jv v49, sd, un, un, un, un, un, un] [(.int (1 : Int32)), (.ref b4), (.int (0 : Int32)), (.ref b4), (.ref b28)])) rfl (by rw [hml]; rfl) (argsL := [(.ref b4), (.int (0 : Int32)), (.ref b4), (.int (1 : Int32))]) (rest := []) rfl rfl rfl (W := 0) (by show 2 * 0 + _ ≤ _; exact Nat.le_of_eq rfl) (by decide) (by decide) (hb hby at_170) (by decide) (by decide)
              obtain ⟨rfl, N54q, hh54⟩ := q54
              have N55 := Fr.app N48 N54q
              refine Wlk.of (fun _ k => st54 _ k) ?_
              show Wlk p.tables e below (T54.setTop (mkF m 173 #[iv p1, iv p2, iv p3, iv p4, iv j1_0, iv j2_0, iv j3_0, rv b4, rv b11, rv b28, jv v43, sd, jv v46, sd, jv v49, sd, un, un, un, un, un, un] [(.int (if v43 < v46 then (1 : Int32) else (0 : Int32)))])) K
              refine Wlk.of (fun _ k => XS.istore X54.here hx rfl (hb hby at_173) rfl (l' := #[iv p1, iv p2, iv p3, iv p4, iv j1_0, iv j2_0, iv j3_0, rv b4, rv b11, rv b28, jv v43, sd, jv v46, sd, jv v49, sd, iv (if v43 < v46 then (1 : Int32) else (0 : Int32)), un, un, un, un, un]) rfl k) ?_
              show Wlk p.tables e below (T54.setTop (mkF m 175 #[iv p1, iv p2, iv p3, iv p4, iv j1_0, iv j2_0, iv j3_0, rv b4, rv b11, rv b28, jv v43, sd, jv v46, sd, jv v49, sd, iv (if v43 < v46 then (1 : Int32) else (0 : Int32)), un, un, un, un, un] [])) K
              generalize hv56 : (if v43 < v46 then (1 : Int32) else (0 : Int32)) = v56
              refine Wlk.of (fun _ k => XS.aload X54.here hx rfl (hb hby at_175) rfl rfl k) ?_
              show Wlk p.tables e below (T54.setTop (mkF m 177 #[iv p1, iv p2, iv p3, iv p4, iv j1_0, iv j2_0, iv j3_0, rv b4, rv b11, rv b28, jv v43, sd, jv v46, sd, jv v49, sd, iv v56, un, un, un, un, un] [(.ref b28)])) K
              refine Wlk.of (fun _ k => XS.aload X54.here hx rfl (hb hby at_177) rfl rfl k) ?_
              show Wlk p.tables e below (T54.setTop (mkF m 179 #[iv p1, iv p2, iv p3, iv p4, iv j1_0, iv j2_0, iv j3_0, rv b4, rv b11, rv b28, jv v43, sd, jv v46, sd, jv v49, sd, iv v56, un, un, un, un, un] [(.ref b4), (.ref b28)])) K
              refine Wlk.of (fun _ k => XS.iconst X54.here hx rfl (hb hby at_179) k) ?_
              show Wlk p.tables e below (T54.setTop (mkF m 180 #[iv p1, iv p2, iv p3, iv p4, iv j1_0, iv j2_0, iv j3_0, rv b4, rv b11, rv b28, jv v43, sd, jv v46, sd, jv v49, sd, iv v56, un, un, un, un, un] [(.int (1 : Int32)), (.ref b4), (.ref b28)])) K
              refine Wlk.of (fun _ k => XS.aload X54.here hx rfl (hb hby at_180) rfl rfl k) ?_
              show Wlk p.tables e below (T54.setTop (mkF m 182 #[iv p1, iv p2, iv p3, iv p4, iv j1_0, iv j2_0, iv j3_0, rv b4, rv b11, rv b28, jv v43, sd, jv v46, sd, jv v49, sd, iv v56, un, un, un, un, un] [(.ref b4), (.int (1 : Int32)), (.ref b4), (.ref b28)])) K
              refine Wlk.of (fun _ k => XS.iconst X54.here hx rfl (hb hby at_182) k) ?_
              show Wlk p.tables e below (T54.setTop (mkF m 183 #[iv p1, iv p2, iv p3, iv p4, iv j1_0, iv j2_0, iv j3_0, rv b4, rv b11, rv b28, jv v43, sd, jv v46, sd, jv v49, sd, iv v56, un, un, un, un, un] [(.int (0 : Int32)), (.ref b4), (.int (1 : Int32)), (.ref b4), (.ref b28)])) K
              obtain ⟨v57, T57, L57, X57, q57, st57⟩ := Ctr.virtual (y := (⟨"com/example/selfwright/selfwright/optimiser/ObjectiveRanking", "prefers", "(Lcom/example/selfwright/selfwright/optimiser/Scores;ILcom/example/selfwright/selfwright/optimiser/Scores;I)Z"⟩ : MethodName)) (rmPb l Z a0 hw b28 b4 ob_7 j25_0 j26_0 v46 v43 T38.heap n0 (Nat.le_trans Z0 K40.1) f50 f51 f52 (own_kv (hv46 ▸ own_kvite hj26_0) (hv43 ▸ own_kvite hj25_0))) X54 hx hZ hh54 hown (wd hw 62 rfl) (wd hw 63 rfl) (notFace_of_selects (args := #[]) (mvT hZ (wd hw 65 rfl))) (wd hw 65 rfl) (wd hw 64 rfl) (wd hw 40 rfl) (wd hw 66 rfl) (by decide) f53 pd_192 (g := (mkF m 183 #[iv p1, iv p2, iv p3, iv p4, iv j1_0, iv j2_0, iv j3_0, rv b4, rv b11, rv b28, jv v43, sd, jv v46, sd, jv v49, sd, iv v56, un, un, un, un, un] [(.int (0 : Int32)), (.ref b4), (.int (1 : Int32)), (.ref b4), (.ref b28)])) rfl (by rw [hml]; rfl) (argsL := [(.ref b4), (.int (1 : Int32)), (.ref b4), (.int (0 : Int32))]) (rest := []) rfl rfl rfl (W := 0) (by show 2 * 0 + _ ≤ _; exact Nat.le_of_eq rfl) (by decide) (by decide) (hb hby at_183) (by decide) (by decide)
              obtain ⟨rfl, N57q, hh57⟩ := q57
              have N58 := Fr.app N55 N57q
              refine Wlk.of (fun _ k => st57 _ k) ?_
              show Wlk p.tables e below (T57.setTop (mkF m 186 #[iv p1, iv p2, iv p3, iv p4, iv j1_0, iv j2_0, iv j3_0, rv b4, rv b11, rv b28, jv v43, sd, jv v46, sd, jv v49, sd, iv v56, un, un, un, un, un] [(.int (if v46 < v43 then (1 : Int32) else (0 : Int32)))])) K
              refine Wlk.of (fun _ k => XS.istore X57.here hx rfl (hb hby at_186) rfl (l' := #[iv p1, iv p2, iv p3, iv p4, iv j1_0, iv j2_0, iv j3_0, rv b4, rv b11, rv b28, jv v43, sd, jv v46, sd, jv v49, sd, iv v56, iv (if v46 < v43 then (1 : Int32) else (0 : Int32)), un, un, un, un]) rfl k) ?_
              show Wlk p.tables e below (T57.setTop (mkF m 188 #[iv p1, iv p2, iv p3, iv p4, iv j1_0, iv j2_0, iv j3_0, rv b4, rv b11, rv b28, jv v43, sd, jv v46, sd, jv v49, sd, iv v56, iv (if v46 < v43 then (1 : Int32) else (0 : Int32)), un, un, un, un] [])) K
              generalize hv59 : (if v46 < v43 then (1 : Int32) else (0 : Int32)) = v59
              refine Wlk.of (fun _ k => XS.aload X57.here hx rfl (hb hby at_188) rfl rfl k) ?_
              show Wlk p.tables e below (T57.setTop (mkF m 190 #[iv p1, iv p2, iv p3, iv p4, iv j1_0, iv j2_0, iv j3_0, rv b4, rv b11, rv b28, jv v43, sd, jv v46, sd, jv v49, sd, iv v56, iv v59, un, un, un, un] [(.ref b28)])) K
              refine Wlk.of (fun _ k => XS.aload X57.here hx rfl (hb hby at_190) rfl rfl k) ?_
              show Wlk p.tables e below (T57.setTop (mkF m 192 #[iv p1, iv p2, iv p3, iv p4, iv j1_0, iv j2_0, iv j3_0, rv b4, rv b11, rv b28, jv v43, sd, jv v46, sd, jv v49, sd, iv v56, iv v59, un, un, un, un] [(.ref b4), (.ref b28)])) K
              refine Wlk.of (fun _ k => XS.iconst X57.here hx rfl (hb hby at_192) k) ?_
              show Wlk p.tables e below (T57.setTop (mkF m 193 #[iv p1, iv p2, iv p3, iv p4, iv j1_0, iv j2_0, iv j3_0, rv b4, rv b11, rv b28, jv v43, sd, jv v46, sd, jv v49, sd, iv v56, iv v59, un, un, un, un] [(.int (1 : Int32)), (.ref b4), (.ref b28)])) K
              refine Wlk.of (fun _ k => XS.aload X57.here hx rfl (hb hby at_193) rfl rfl k) ?_
              show Wlk p.tables e below (T57.setTop (mkF m 195 #[iv p1, iv p2, iv p3, iv p4, iv j1_0, iv j2_0, iv j3_0, rv b4, rv b11, rv b28, jv v43, sd, jv v46, sd, jv v49, sd, iv v56, iv v59, un, un, un, un] [(.ref b11), (.int (1 : Int32)), (.ref b4), (.ref b28)])) K
              refine Wlk.of (fun _ k => XS.iconst X57.here hx rfl (hb hby at_195) k) ?_
              show Wlk p.tables e below (T57.setTop (mkF m 196 #[iv p1, iv p2, iv p3, iv p4, iv j1_0, iv j2_0, iv j3_0, rv b4, rv b11, rv b28, jv v43, sd, jv v46, sd, jv v49, sd, iv v56, iv v59, un, un, un, un] [(.int (0 : Int32)), (.ref b11), (.int (1 : Int32)), (.ref b4), (.ref b28)])) K
              have f60 : Exa Z T38.heap b11 "com/example/selfwright/selfwright/optimiser/Scores" := ((z27_2.ext E28).keep K38q)
              have f61 : Fld Z T38.heap b11 "com/example/selfwright/selfwright/optimiser/Scores" "objectives" "[D" (.ref ob_17) := ((z27_3.ext E28).keep K38q (ninS ne29 nin0))
              have f62 : Arl Z T38.heap ob_17 .double [(.double j27_0)] := ((z27_5.ext E28).keep K38q (ninS ne31 nin0))
              obtain ⟨v63, T63, L63, X63, q63, st63⟩ := Ctr.virtual (y := (⟨"com/example/selfwright/selfwright/optimiser/ObjectiveRanking", "prefers", "(Lcom/example/selfwright/selfwright/optimiser/Scores;ILcom/example/selfwright/selfwright/optimiser/Scores;I)Z"⟩ : MethodName)) (rmPc l Z a0 hw b28 b4 b11 ob_7 j25_0 j26_0 ob_17 j27_0 v46 v49 T38.heap n0 (Nat.le_trans Z0 K40.1) f50 f51 f52 f60 f61 f62 (own_kv (hv46 ▸ own_kvite hj26_0) (hv49 ▸ own_kvite hj27_0))) X57 hx hZ hh57 hown (wd hw 62 rfl) (wd hw 63 rfl) (notFace_of_selects (args := #[]) (mvT hZ (wd hw 65 rfl))) (wd hw 65 rfl) (wd hw 64 rfl) (wd hw 40 rfl) (wd hw 66 rfl) (by decide) f53 pd_192 (g := (mkF m 196 #[iv p1, iv p2, iv p3, iv p4, iv j1_0, iv j2_0, iv j3_0, rv b4, rv b11, rv b28, jv v43, sd, jv v46, sd, jv v49, sd, iv v56, iv v59, un, un, un, un] [(.int (0 : Int32)), (.ref b11), (.int (1 : Int32)), (.ref b4), (.ref b28)])) rfl (by rw [hml]; rfl) (argsL := [(.ref b4), (.int (1 : Int32)), (.ref b11), (.int (0 : Int32))]) (rest := []) rfl rfl rfl (W := 0) (by show 2 * 0 + _ ≤ _; exact Nat.le_of_eq rfl) (by decide) (by decide) (hb hby at_196) (by decide) (by decide)
              obtain ⟨rfl, N63q, hh63⟩ := q63
              have N64 := Fr.app N58 N63q
              refine Wlk.of (fun _ k => st63 _ k) ?_
              show Wlk p.tables e below (T63.setTop (mkF m 199 #[iv p1, iv p2, iv p3, iv p4, iv j1_0, iv j2_0, iv j3_0, rv b4, rv b11, rv b28, jv v43, sd, jv v46, sd, jv v49, sd, iv v56, iv v59, un, un, un, un] [(.int (if v46 < v49 then (1 : Int32) else (0 : Int32)))])) K
              refine Wlk.of (fun _ k => XS.istore X63.here hx rfl (hb hby at_199) rfl (l' := #[iv p1, iv p2, iv p3, iv p4, iv j1_0, iv j2_0, iv j3_0, rv b4, rv b11, rv b28, jv v43, sd, jv v46, sd, jv v49, sd, iv v56, iv v59, iv (if v46 < v49 then (1 : Int32) else (0 : Int32)), un, un, un]) rfl k) ?_
              show Wlk p.tables e below (T63.setTop (mkF m 201 #[iv p1, iv p2, iv p3, iv p4, iv j1_0, iv j2_0, iv j3_0, rv b4, rv b11, rv b28, jv v43, sd, jv v46, sd, jv v49, sd, iv v56, iv v59, iv (if v46 < v49 then (1 : Int32) else (0 : Int32)), un, un, un] [])) K
              generalize hv65 : (if v46 < v49 then (1 : Int32) else (0 : Int32)) = v65
              refine Wlk.of (fun _ k => XS.aload X63.here hx rfl (hb hby at_201) rfl rfl k) ?_
              show Wlk p.tables e below (T63.setTop (mkF m 203 #[iv p1, iv p2, iv p3, iv p4, iv j1_0, iv j2_0, iv j3_0, rv b4, rv b11, rv b28, jv v43, sd, jv v46, sd, jv v49, sd, iv v56, iv v59, iv v65, un, un, un] [(.ref b28)])) K
              refine Wlk.of (fun _ k => XS.aload X63.here hx rfl (hb hby at_203) rfl rfl k) ?_
              show Wlk p.tables e below (T63.setTop (mkF m 205 #[iv p1, iv p2, iv p3, iv p4, iv j1_0, iv j2_0, iv j3_0, rv b4, rv b11, rv b28, jv v43, sd, jv v46, sd, jv v49, sd, iv v56, iv v59, iv v65, un, un, un] [(.ref b11), (.ref b28)])) K
              refine Wlk.of (fun _ k => XS.iconst X63.here hx rfl (hb hby at_205) k) ?_
              show Wlk p.tables e below (T63.setTop (mkF m 206 #[iv p1, iv p2, iv p3, iv p4, iv j1_0, iv j2_0, iv j3_0, rv b4, rv b11, rv b28, jv v43, sd, jv v46, sd, jv v49, sd, iv v56, iv v59, iv v65, un, un, un] [(.int (0 : Int32)), (.ref b11), (.ref b28)])) K
              refine Wlk.of (fun _ k => XS.aload X63.here hx rfl (hb hby at_206) rfl rfl k) ?_
              show Wlk p.tables e below (T63.setTop (mkF m 208 #[iv p1, iv p2, iv p3, iv p4, iv j1_0, iv j2_0, iv j3_0, rv b4, rv b11, rv b28, jv v43, sd, jv v46, sd, jv v49, sd, iv v56, iv v59, iv v65, un, un, un] [(.ref b4), (.int (0 : Int32)), (.ref b11), (.ref b28)])) K
              refine Wlk.of (fun _ k => XS.iconst X63.here hx rfl (hb hby at_208) k) ?_
              show Wlk p.tables e below (T63.setTop (mkF m 209 #[iv p1, iv p2, iv p3, iv p4, iv j1_0, iv j2_0, iv j3_0, rv b4, rv b11, rv b28, jv v43, sd, jv v46, sd, jv v49, sd, iv v56, iv v59, iv v65, un, un, un] [(.int (0 : Int32)), (.ref b4), (.int (0 : Int32)), (.ref b11), (.ref b28)])) K
              obtain ⟨v66, T66, L66, X66, q66, st66⟩ := Ctr.virtual (y := (⟨"com/example/selfwright/selfwright/optimiser/ObjectiveRanking", "prefers", "(Lcom/example/selfwright/selfwright/optimiser/Scores;ILcom/example/selfwright/selfwright/optimiser/Scores;I)Z"⟩ : MethodName)) (rmPd l Z a0 hw b28 b11 b4 ob_7 j25_0 j26_0 ob_17 j27_0 v49 v43 T38.heap n0 (Nat.le_trans Z0 K40.1) f50 f51 f52 f60 f61 f62 (own_kv (hv49 ▸ own_kvite hj27_0) (hv43 ▸ own_kvite hj25_0))) X63 hx hZ hh63 hown (wd hw 62 rfl) (wd hw 63 rfl) (notFace_of_selects (args := #[]) (mvT hZ (wd hw 65 rfl))) (wd hw 65 rfl) (wd hw 64 rfl) (wd hw 40 rfl) (wd hw 66 rfl) (by decide) f53 pd_192 (g := (mkF m 209 #[iv p1, iv p2, iv p3, iv p4, iv j1_0, iv j2_0, iv j3_0, rv b4, rv b11, rv b28, jv v43, sd, jv v46, sd, jv v49, sd, iv v56, iv v59, iv v65, un, un, un] [(.int (0 : Int32)), (.ref b4), (.int (0 : Int32)), (.ref b11), (.ref b28)])) rfl (by rw [hml]; rfl) (argsL := [(.ref b11), (.int (0 : Int32)), (.ref b4), (.int (0 : Int32))]) (rest := []) rfl rfl rfl (W := 0) (by show 2 * 0 + _ ≤ _; exact Nat.le_of_eq rfl) (by decide) (by decide) (hb hby at_209) (by decide) (by decide)
              obtain ⟨rfl, N66q, hh66⟩ := q66
              have N67 := Fr.app N64 N66q
              refine Wlk.of (fun _ k => st66 _ k) ?_
              show Wlk p.tables e below (T66.setTop (mkF m 212 #[iv p1, iv p2, iv p3, iv p4, iv j1_0, iv j2_0, iv j3_0, rv b4, rv b11, rv b28, jv v43, sd, jv v46, sd, jv v49, sd, iv v56, iv v59, iv v65, un, un, un] [(.int (if v49 < v43 then (1 : Int32) else (0 : Int32)))])) K
              refine Wlk.of (fun _ k => XS.istore X66.here hx rfl (hb hby at_212) rfl (l' := #[iv p1, iv p2, iv p3, iv p4, iv j1_0, iv j2_0, iv j3_0, rv b4, rv b11, rv b28, jv v43, sd, jv v46, sd, jv v49, sd, iv v56, iv v59, iv v65, iv (if v49 < v43 then (1 : Int32) else (0 : Int32)), un, un]) rfl k) ?_
              show Wlk p.tables e below (T66.setTop (mkF m 214 #[iv p1, iv p2, iv p3, iv p4, iv j1_0, iv j2_0, iv j3_0, rv b4, rv b11, rv b28, jv v43, sd, jv v46, sd, jv v49, sd, iv v56, iv v59, iv v65, iv (if v49 < v43 then (1 : Int32) else (0 : Int32)), un, un] [])) K
              generalize hv68 : (if v49 < v43 then (1 : Int32) else (0 : Int32)) = v68
              refine Wlk.of (fun _ k => XS.aload X66.here hx rfl (hb hby at_214) rfl rfl k) ?_
              show Wlk p.tables e below (T66.setTop (mkF m 216 #[iv p1, iv p2, iv p3, iv p4, iv j1_0, iv j2_0, iv j3_0, rv b4, rv b11, rv b28, jv v43, sd, jv v46, sd, jv v49, sd, iv v56, iv v59, iv v65, iv v68, un, un] [(.ref b28)])) K
              obtain ⟨v69, T69, L69, X69, q69, st69⟩ := Ctr.virtual (y := (⟨"com/example/selfwright/selfwright/optimiser/ObjectiveRanking", "best", "()I"⟩ : MethodName)) (rmB l Z a0 hw b28 ((if (if j2_0 = (0 : Int32) then p2.toInt64 else (9223372036854775807 : Int64)) < (if j1_0 = (0 : Int32) then p1.toInt64 else (9223372036854775807 : Int64)) then (1 : Int32) else (0 : Int32))) T38.heap n0 (Nat.le_trans Z0 K40.1) p38_0) X66 hx hZ hh66 hown (wd hw 67 rfl) (wd hw 68 rfl) (notFace_of_selects (args := #[]) (mvT hZ (wd hw 70 rfl))) (wd hw 70 rfl) (wd hw 69 rfl) (wd hw 40 rfl) (wd hw 71 rfl) (by decide) f53 pd_99 (g := (mkF m 216 #[iv p1, iv p2, iv p3, iv p4, iv j1_0, iv j2_0, iv j3_0, rv b4, rv b11, rv b28, jv v43, sd, jv v46, sd, jv v49, sd, iv v56, iv v59, iv v65, iv v68, un, un] [(.ref b28)])) rfl (by rw [hml]; rfl) (argsL := []) (rest := []) rfl rfl rfl (W := 0) (by show 2 * 0 + _ ≤ _; exact Nat.le_of_eq rfl) (by decide) (by decide) (hb hby at_216) (by decide) (by decide)
              obtain ⟨rfl, N69q, hh69⟩ := q69
              have N70 := Fr.app N67 N69q
              refine Wlk.of (fun _ k => st69 _ k) ?_
              show Wlk p.tables e below (T69.setTop (mkF m 219 #[iv p1, iv p2, iv p3, iv p4, iv j1_0, iv j2_0, iv j3_0, rv b4, rv b11, rv b28, jv v43, sd, jv v46, sd, jv v49, sd, iv v56, iv v59, iv v65, iv v68, un, un] [(.int (if (if j2_0 = (0 : Int32) then p2.toInt64 else (9223372036854775807 : Int64)) < (if j1_0 = (0 : Int32) then p1.toInt64 else (9223372036854775807 : Int64)) then (1 : Int32) else (0 : Int32)))])) K
              refine Wlk.of (fun _ k => XS.istore X69.here hx rfl (hb hby at_219) rfl (l' := #[iv p1, iv p2, iv p3, iv p4, iv j1_0, iv j2_0, iv j3_0, rv b4, rv b11, rv b28, jv v43, sd, jv v46, sd, jv v49, sd, iv v56, iv v59, iv v65, iv v68, iv (if (if j2_0 = (0 : Int32) then p2.toInt64 else (9223372036854775807 : Int64)) < (if j1_0 = (0 : Int32) then p1.toInt64 else (9223372036854775807 : Int64)) then (1 : Int32) else (0 : Int32)), un]) rfl k) ?_
              show Wlk p.tables e below (T69.setTop (mkF m 221 #[iv p1, iv p2, iv p3, iv p4, iv j1_0, iv j2_0, iv j3_0, rv b4, rv b11, rv b28, jv v43, sd, jv v46, sd, jv v49, sd, iv v56, iv v59, iv v65, iv v68, iv (if (if j2_0 = (0 : Int32) then p2.toInt64 else (9223372036854775807 : Int64)) < (if j1_0 = (0 : Int32) then p1.toInt64 else (9223372036854775807 : Int64)) then (1 : Int32) else (0 : Int32)), un] [])) K
              generalize hv71 : (if (if j2_0 = (0 : Int32) then p2.toInt64 else (9223372036854775807 : Int64)) < (if j1_0 = (0 : Int32) then p1.toInt64 else (9223372036854775807 : Int64)) then (1 : Int32) else (0 : Int32)) = v71
              refine Wlk.of (fun _ k => XS.lload X69.here hx rfl (hb hby at_221) rfl k) ?_
              show Wlk p.tables e below (T69.setTop (mkF m 223 #[iv p1, iv p2, iv p3, iv p4, iv j1_0, iv j2_0, iv j3_0, rv b4, rv b11, rv b28, jv v43, sd, jv v46, sd, jv v49, sd, iv v56, iv v59, iv v65, iv v68, iv v71, un] [(.long v46)])) K
              refine Wlk.of (fun _ k => XS.lload X69.here hx rfl (hb hby at_223) rfl k) ?_
              show Wlk p.tables e below (T69.setTop (mkF m 225 #[iv p1, iv p2, iv p3, iv p4, iv j1_0, iv j2_0, iv j3_0, rv b4, rv b11, rv b28, jv v43, sd, jv v46, sd, jv v49, sd, iv v56, iv v59, iv v65, iv v68, iv v71, un] [(.long v43), (.long v46)])) K
              refine Wlk.of (fun _ k => XS.lcmp X69.here hx rfl (hb hby at_225) rfl k) ?_
              show Wlk p.tables e below (T69.setTop (mkF m 226 #[iv p1, iv p2, iv p3, iv p4, iv j1_0, iv j2_0, iv j3_0, rv b4, rv b11, rv b28, jv v43, sd, jv v46, sd, jv v49, sd, iv v56, iv v59, iv v65, iv v68, iv v71, un] [(.int (lcmpW v46 v43))])) K
              have J72 : ∀ (T72 : State), Stand p l e room_1 s m #[(.int p1), (.int p2), (.int p3), (.int p4)] below meth c T72 (((((((((ls27 ++ L38) ++ L41) ++ L44) ++ L47) ++ L54) ++ L57) ++ L63) ++ L66) ++ L69) 10 13 → T72.heap = T38.heap → ∀ (j72_0 : Int32), j72_0 = (if v46 < v43 then (1 : Int32) else (0 : Int32)) → Wlk p.tables e below (T72.setTop (mkF m 234 #[iv p1, iv p2, iv p3, iv p4, iv j1_0, iv j2_0, iv j3_0, rv b4, rv b11, rv b28, jv v43, sd, jv v46, sd, jv v49, sd, iv v56, iv v59, iv v65, iv v68, iv v71, un] [(.int j72_0)])) K := by
                intro T72 X72 e72 j72_0 hj72_0
                refine Wlk.of (fun _ k => XS.istore X72.here hx rfl (hb hby at_234) rfl (l' := #[iv p1, iv p2, iv p3, iv p4, iv j1_0, iv j2_0, iv j3_0, rv b4, rv b11, rv b28, jv v43, sd, jv v46, sd, jv v49, sd, iv v56, iv v59, iv v65, iv v68, iv v71, iv j72_0]) rfl k) ?_
                show Wlk p.tables e below (T72.setTop (mkF m 236 #[iv p1, iv p2, iv p3, iv p4, iv j1_0, iv j2_0, iv j3_0, rv b4, rv b11, rv b28, jv v43, sd, jv v46, sd, jv v49, sd, iv v56, iv v59, iv v65, iv v68, iv v71, iv j72_0] [])) K
                refine Wlk.of (fun _ k => XS.iload X72.here hx rfl (hb hby at_236) rfl k) ?_
                show Wlk p.tables e below (T72.setTop (mkF m 238 #[iv p1, iv p2, iv p3, iv p4, iv j1_0, iv j2_0, iv j3_0, rv b4, rv b11, rv b28, jv v43, sd, jv v46, sd, jv v49, sd, iv v56, iv v59, iv v65, iv v68, iv v71, iv j72_0] [(.int v56)])) K
                refine Wlk.of (fun _ k => XS.lload X72.here hx rfl (hb hby at_238) rfl k) ?_
                show Wlk p.tables e below (T72.setTop (mkF m 240 #[iv p1, iv p2, iv p3, iv p4, iv j1_0, iv j2_0, iv j3_0, rv b4, rv b11, rv b28, jv v43, sd, jv v46, sd, jv v49, sd, iv v56, iv v59, iv v65, iv v68, iv v71, iv j72_0] [(.long v43), (.int v56)])) K
                refine Wlk.of (fun _ k => XS.lload X72.here hx rfl (hb hby at_240) rfl k) ?_
                show Wlk p.tables e below (T72.setTop (mkF m 242 #[iv p1, iv p2, iv p3, iv p4, iv j1_0, iv j2_0, iv j3_0, rv b4, rv b11, rv b28, jv v43, sd, jv v46, sd, jv v49, sd, iv v56, iv v59, iv v65, iv v68, iv v71, iv j72_0] [(.long v46), (.long v43), (.int v56)])) K
                refine Wlk.of (fun _ k => XS.lcmp X72.here hx rfl (hb hby at_242) rfl k) ?_
                show Wlk p.tables e below (T72.setTop (mkF m 243 #[iv p1, iv p2, iv p3, iv p4, iv j1_0, iv j2_0, iv j3_0, rv b4, rv b11, rv b28, jv v43, sd, jv v46, sd, jv v49, sd, iv v56, iv v59, iv v65, iv v68, iv v71, iv j72_0] [(.int (lcmpW v43 v46)), (.int v56)])) K
                have J73 : ∀ (T73 : State), Stand p l e room_1 s m #[(.int p1), (.int p2), (.int p3), (.int p4)] below meth c T73 (((((((((ls27 ++ L38) ++ L41) ++ L44) ++ L47) ++ L54) ++ L57) ++ L63) ++ L66) ++ L69) 10 13 → T73.heap = T38.heap → ∀ (j73_0 : Int32), j73_0 = (if v43 < v46 then (1 : Int32) else (0 : Int32)) → Wlk p.tables e below (T73.setTop (mkF m 251 #[iv p1, iv p2, iv p3, iv p4, iv j1_0, iv j2_0, iv j3_0, rv b4, rv b11, rv b28, jv v43, sd, jv v46, sd, jv v49, sd, iv v56, iv v59, iv v65, iv v68, iv v71, iv j72_0] [(.int j73_0), (.int v56)])) K := by
                  intro T73 X73 e73 j73_0 hj73_0
                  refine Wlk.of (fun _ k => XS.icmpNo X73.here hx rfl (hb hby at_251) rfl (teq (show v56 = j73_0 by rw [hj73_0, ← hv56])).2 k) ?_
                  show Wlk p.tables e below (T73.setTop (mkF m 254 #[iv p1, iv p2, iv p3, iv p4, iv j1_0, iv j2_0, iv j3_0, rv b4, rv b11, rv b28, jv v43, sd, jv v46, sd, jv v49, sd, iv v56, iv v59, iv v65, iv v68, iv v71, iv j72_0] [])) K
                  refine Wlk.of (fun _ k => XS.iload X73.here hx rfl (hb hby at_254) rfl k) ?_
                  show Wlk p.tables e below (T73.setTop (mkF m 256 #[iv p1, iv p2, iv p3, iv p4, iv j1_0, iv j2_0, iv j3_0, rv b4, rv b11, rv b28, jv v43, sd, jv v46, sd, jv v49, sd, iv v56, iv v59, iv v65, iv v68, iv v71, iv j72_0] [(.int v59)])) K
                  refine Wlk.of (fun _ k => XS.lload X73.here hx rfl (hb hby at_256) rfl k) ?_
                  show Wlk p.tables e below (T73.setTop (mkF m 258 #[iv p1, iv p2, iv p3, iv p4, iv j1_0, iv j2_0, iv j3_0, rv b4, rv b11, rv b28, jv v43, sd, jv v46, sd, jv v49, sd, iv v56, iv v59, iv v65, iv v68, iv v71, iv j72_0] [(.long v46), (.int v59)])) K
                  refine Wlk.of (fun _ k => XS.lload X73.here hx rfl (hb hby at_258) rfl k) ?_
                  show Wlk p.tables e below (T73.setTop (mkF m 260 #[iv p1, iv p2, iv p3, iv p4, iv j1_0, iv j2_0, iv j3_0, rv b4, rv b11, rv b28, jv v43, sd, jv v46, sd, jv v49, sd, iv v56, iv v59, iv v65, iv v68, iv v71, iv j72_0] [(.long v43), (.long v46), (.int v59)])) K
                  refine Wlk.of (fun _ k => XS.lcmp X73.here hx rfl (hb hby at_260) rfl k) ?_
                  show Wlk p.tables e below (T73.setTop (mkF m 261 #[iv p1, iv p2, iv p3, iv p4, iv j1_0, iv j2_0, iv j3_0, rv b4, rv b11, rv b28, jv v43, sd, jv v46, sd, jv v49, sd, iv v56, iv v59, iv v65, iv v68, iv v71, iv j72_0] [(.int (lcmpW v46 v43)), (.int v59)])) K
                  have J74 : ∀ (T74 : State), Stand p l e room_1 s m #[(.int p1), (.int p2), (.int p3), (.int p4)] below meth c T74 (((((((((ls27 ++ L38) ++ L41) ++ L44) ++ L47) ++ L54) ++ L57) ++ L63) ++ L66) ++ L69) 10 13 → T74.heap = T38.heap → ∀ (j74_0 : Int32), j74_0 = (if v46 < v43 then (1 : Int32) else (0 : Int32)) → Wlk p.tables e below (T74.setTop (mkF m 269 #[iv p1, iv p2, iv p3, iv p4, iv j1_0, iv j2_0, iv j3_0, rv b4, rv b11, rv b28, jv v43, sd, jv v46, sd, jv v49, sd, iv v56, iv v59, iv v65, iv v68, iv v71, iv j72_0] [(.int j74_0), (.int v59)])) K := by
                    intro T74 X74 e74 j74_0 hj74_0
                    refine Wlk.of (fun _ k => XS.icmpNo X74.here hx rfl (hb hby at_269) rfl (teq (show v59 = j74_0 by rw [hj74_0, ← hv59])).2 k) ?_
                    show Wlk p.tables e below (T74.setTop (mkF m 272 #[iv p1, iv p2, iv p3, iv p4, iv j1_0, iv j2_0, iv j3_0, rv b4, rv b11, rv b28, jv v43, sd, jv v46, sd, jv v49, sd, iv v56, iv v59, iv v65, iv v68, iv v71, iv j72_0] [])) K
                    refine Wlk.of (fun _ k => XS.iload X74.here hx rfl (hb hby at_272) rfl k) ?_
                    show Wlk p.tables e below (T74.setTop (mkF m 274 #[iv p1, iv p2, iv p3, iv p4, iv j1_0, iv j2_0, iv j3_0, rv b4, rv b11, rv b28, jv v43, sd, jv v46, sd, jv v49, sd, iv v56, iv v59, iv v65, iv v68, iv v71, iv j72_0] [(.int v65)])) K
                    refine Wlk.of (fun _ k => XS.lload X74.here hx rfl (hb hby at_274) rfl k) ?_
                    show Wlk p.tables e below (T74.setTop (mkF m 276 #[iv p1, iv p2, iv p3, iv p4, iv j1_0, iv j2_0, iv j3_0, rv b4, rv b11, rv b28, jv v43, sd, jv v46, sd, jv v49, sd, iv v56, iv v59, iv v65, iv v68, iv v71, iv j72_0] [(.long v46), (.int v65)])) K
                    refine Wlk.of (fun _ k => XS.lload X74.here hx rfl (hb hby at_276) rfl k) ?_
                    show Wlk p.tables e below (T74.setTop (mkF m 278 #[iv p1, iv p2, iv p3, iv p4, iv j1_0, iv j2_0, iv j3_0, rv b4, rv b11, rv b28, jv v43, sd, jv v46, sd, jv v49, sd, iv v56, iv v59, iv v65, iv v68, iv v71, iv j72_0] [(.long v49), (.long v46), (.int v65)])) K
                    refine Wlk.of (fun _ k => XS.lcmp X74.here hx rfl (hb hby at_278) rfl k) ?_
                    show Wlk p.tables e below (T74.setTop (mkF m 279 #[iv p1, iv p2, iv p3, iv p4, iv j1_0, iv j2_0, iv j3_0, rv b4, rv b11, rv b28, jv v43, sd, jv v46, sd, jv v49, sd, iv v56, iv v59, iv v65, iv v68, iv v71, iv j72_0] [(.int (lcmpW v46 v49)), (.int v65)])) K
                    have J75 : ∀ (T75 : State), Stand p l e room_1 s m #[(.int p1), (.int p2), (.int p3), (.int p4)] below meth c T75 (((((((((ls27 ++ L38) ++ L41) ++ L44) ++ L47) ++ L54) ++ L57) ++ L63) ++ L66) ++ L69) 10 13 → T75.heap = T38.heap → ∀ (j75_0 : Int32), j75_0 = (if v46 < v49 then (1 : Int32) else (0 : Int32)) → Wlk p.tables e below (T75.setTop (mkF m 287 #[iv p1, iv p2, iv p3, iv p4, iv j1_0, iv j2_0, iv j3_0, rv b4, rv b11, rv b28, jv v43, sd, jv v46, sd, jv v49, sd, iv v56, iv v59, iv v65, iv v68, iv v71, iv j72_0] [(.int j75_0), (.int v65)])) K := by
                      intro T75 X75 e75 j75_0 hj75_0
                      refine Wlk.of (fun _ k => XS.icmpNo X75.here hx rfl (hb hby at_287) rfl (teq (show v65 = j75_0 by rw [hj75_0, ← hv65])).2 k) ?_
                      show Wlk p.tables e below (T75.setTop (mkF m 290 #[iv p1, iv p2, iv p3, iv p4, iv j1_0, iv j2_0, iv j3_0, rv b4, rv b11, rv b28, jv v43, sd, jv v46, sd, jv v49, sd, iv v56, iv v59, iv v65, iv v68, iv v71, iv j72_0] [])) K
                      refine Wlk.of (fun _ k => XS.iload X75.here hx rfl (hb hby at_290) rfl k) ?_
                      show Wlk p.tables e below (T75.setTop (mkF m 292 #[iv p1, iv p2, iv p3, iv p4, iv j1_0, iv j2_0, iv j3_0, rv b4, rv b11, rv b28, jv v43, sd, jv v46, sd, jv v49, sd, iv v56, iv v59, iv v65, iv v68, iv v71, iv j72_0] [(.int v68)])) K
                      refine Wlk.of (fun _ k => XS.lload X75.here hx rfl (hb hby at_292) rfl k) ?_
                      show Wlk p.tables e below (T75.setTop (mkF m 294 #[iv p1, iv p2, iv p3, iv p4, iv j1_0, iv j2_0, iv j3_0, rv b4, rv b11, rv b28, jv v43, sd, jv v46, sd, jv v49, sd, iv v56, iv v59, iv v65, iv v68, iv v71, iv j72_0] [(.long v49), (.int v68)])) K
                      refine Wlk.of (fun _ k => XS.lload X75.here hx rfl (hb hby at_294) rfl k) ?_
                      show Wlk p.tables e below (T75.setTop (mkF m 296 #[iv p1, iv p2, iv p3, iv p4, iv j1_0, iv j2_0, iv j3_0, rv b4, rv b11, rv b28, jv v43, sd, jv v46, sd, jv v49, sd, iv v56, iv v59, iv v65, iv v68, iv v71, iv j72_0] [(.long v43), (.long v49), (.int v68)])) K
                      refine Wlk.of (fun _ k => XS.lcmp X75.here hx rfl (hb hby at_296) rfl k) ?_
                      show Wlk p.tables e below (T75.setTop (mkF m 297 #[iv p1, iv p2, iv p3, iv p4, iv j1_0, iv j2_0, iv j3_0, rv b4, rv b11, rv b28, jv v43, sd, jv v46, sd, jv v49, sd, iv v56, iv v59, iv v65, iv v68, iv v71, iv j72_0] [(.int (lcmpW v49 v43)), (.int v68)])) K
                      have J76 : ∀ (T76 : State), Stand p l e room_1 s m #[(.int p1), (.int p2), (.int p3), (.int p4)] below meth c T76 (((((((((ls27 ++ L38) ++ L41) ++ L44) ++ L47) ++ L54) ++ L57) ++ L63) ++ L66) ++ L69) 10 13 → T76.heap = T38.heap → ∀ (j76_0 : Int32), j76_0 = (if v49 < v43 then (1 : Int32) else (0 : Int32)) → Wlk p.tables e below (T76.setTop (mkF m 305 #[iv p1, iv p2, iv p3, iv p4, iv j1_0, iv j2_0, iv j3_0, rv b4, rv b11, rv b28, jv v43, sd, jv v46, sd, jv v49, sd, iv v56, iv v59, iv v65, iv v68, iv v71, iv j72_0] [(.int j76_0), (.int v68)])) K := by
                        intro T76 X76 e76 j76_0 hj76_0
                        refine Wlk.of (fun _ k => XS.icmpNo X76.here hx rfl (hb hby at_305) rfl (teq (show v68 = j76_0 by rw [hj76_0, ← hv68])).2 k) ?_
                        show Wlk p.tables e below (T76.setTop (mkF m 308 #[iv p1, iv p2, iv p3, iv p4, iv j1_0, iv j2_0, iv j3_0, rv b4, rv b11, rv b28, jv v43, sd, jv v46, sd, jv v49, sd, iv v56, iv v59, iv v65, iv v68, iv v71, iv j72_0] [])) K
                        refine Wlk.of (fun _ k => XS.iload X76.here hx rfl (hb hby at_308) rfl k) ?_
                        show Wlk p.tables e below (T76.setTop (mkF m 310 #[iv p1, iv p2, iv p3, iv p4, iv j1_0, iv j2_0, iv j3_0, rv b4, rv b11, rv b28, jv v43, sd, jv v46, sd, jv v49, sd, iv v56, iv v59, iv v65, iv v68, iv v71, iv j72_0] [(.int v71)])) K
                        refine Wlk.of (fun _ k => XS.iload X76.here hx rfl (hb hby at_310) rfl k) ?_
                        show Wlk p.tables e below (T76.setTop (mkF m 312 #[iv p1, iv p2, iv p3, iv p4, iv j1_0, iv j2_0, iv j3_0, rv b4, rv b11, rv b28, jv v43, sd, jv v46, sd, jv v49, sd, iv v56, iv v59, iv v65, iv v68, iv v71, iv j72_0] [(.int j72_0), (.int v71)])) K
                        refine Wlk.of (fun _ k => XS.icmpNo X76.here hx rfl (hb hby at_312) rfl (teq (show v71 = j72_0 by rw [hj72_0, ← hv71, hv43, hv46])).2 k) ?_
                        show Wlk p.tables e below (T76.setTop (mkF m 315 #[iv p1, iv p2, iv p3, iv p4, iv j1_0, iv j2_0, iv j3_0, rv b4, rv b11, rv b28, jv v43, sd, jv v46, sd, jv v49, sd, iv v56, iv v59, iv v65, iv v68, iv v71, iv j72_0] [])) K
                        refine Wlk.of (fun _ k => XS.iconst X76.here hx rfl (hb hby at_315) k) ?_
                        show Wlk p.tables e below (T76.setTop (mkF m 316 #[iv p1, iv p2, iv p3, iv p4, iv j1_0, iv j2_0, iv j3_0, rv b4, rv b11, rv b28, jv v43, sd, jv v46, sd, jv v49, sd, iv v56, iv v59, iv v65, iv v68, iv v71, iv j72_0] [(.int (1 : Int32))])) K
                        refine Wlk.of (fun _ k => XS.goto X76.here hx rfl (pc0 := 316) (pc' := 320) rfl (hb hby at_316) (by decide) (by decide) k) ?_
                        show Wlk p.tables e below (T76.setTop (mkF m 320 #[iv p1, iv p2, iv p3, iv p4, iv j1_0, iv j2_0, iv j3_0, rv b4, rv b11, rv b28, jv v43, sd, jv v46, sd, jv v49, sd, iv v56, iv v59, iv v65, iv v68, iv v71, iv j72_0] [(.int (1 : Int32))])) K
                        refine hK (some (.int (1 : Int32))) X76 (fun q => by cases q) (fun fs hr => retN X76 hx (t := .boolean) hret (by simp) (hb hby at_320) hr) ?_ (by decide) (by decide)
                        rw [show T76.heap = T38.heap from e76]
                        exact ⟨rfl, N70⟩
                      by_cases hc77 : v49 < v43
                      · refine Wlk.of (fun _ k => XS.ifNo X75.here hx rfl (hb hby at_297) rfl ((if0 _ _).trans (tlt ((lw_lt _ _).mpr hc77)).2.1) k) ?_
                        show Wlk p.tables e below (T75.setTop (mkF m 300 #[iv p1, iv p2, iv p3, iv p4, iv j1_0, iv j2_0, iv j3_0, rv b4, rv b11, rv b28, jv v43, sd, jv v46, sd, jv v49, sd, iv v56, iv v59, iv v65, iv v68, iv v71, iv j72_0] [(.int v68)])) K
                        refine Wlk.of (fun _ k => XS.iconst X75.here hx rfl (hb hby at_300) k) ?_
                        show Wlk p.tables e below (T75.setTop (mkF m 301 #[iv p1, iv p2, iv p3, iv p4, iv j1_0, iv j2_0, iv j3_0, rv b4, rv b11, rv b28, jv v43, sd, jv v46, sd, jv v49, sd, iv v56, iv v59, iv v65, iv v68, iv v71, iv j72_0] [(.int (1 : Int32)), (.int v68)])) K
                        refine Wlk.of (fun _ k => XS.goto X75.here hx rfl (pc0 := 301) (pc' := 305) rfl (hb hby at_301) (by decide) (by decide) k) ?_
                        show Wlk p.tables e below (T75.setTop (mkF m 305 #[iv p1, iv p2, iv p3, iv p4, iv j1_0, iv j2_0, iv j3_0, rv b4, rv b11, rv b28, jv v43, sd, jv v46, sd, jv v49, sd, iv v56, iv v59, iv v65, iv v68, iv v71, iv j72_0] [(.int (1 : Int32)), (.int v68)])) K
                        exact J76 _ X75 e75 _ (by rw [if_pos hc77])
                      · refine Wlk.of (fun _ k => XS.ifYes X75.here hx rfl (pc0 := 297) (pc' := 304) rfl (hb hby at_297) rfl ((if0 _ _).trans (flt (fun q => hc77 ((lw_lt _ _).mp q))).2.1) (by decide) (by decide) k) ?_
                        show Wlk p.tables e below (T75.setTop (mkF m 304 #[iv p1, iv p2, iv p3, iv p4, iv j1_0, iv j2_0, iv j3_0, rv b4, rv b11, rv b28, jv v43, sd, jv v46, sd, jv v49, sd, iv v56, iv v59, iv v65, iv v68, iv v71, iv j72_0] [(.int v68)])) K
                        refine Wlk.of (fun _ k => XS.iconst X75.here hx rfl (hb hby at_304) k) ?_
                        show Wlk p.tables e below (T75.setTop (mkF m 305 #[iv p1, iv p2, iv p3, iv p4, iv j1_0, iv j2_0, iv j3_0, rv b4, rv b11, rv b28, jv v43, sd, jv v46, sd, jv v49, sd, iv v56, iv v59, iv v65, iv v68, iv v71, iv j72_0] [(.int (0 : Int32)), (.int v68)])) K
                        exact J76 _ X75 e75 _ (by rw [if_neg hc77])
                    by_cases hc78 : v46 < v49
                    · refine Wlk.of (fun _ k => XS.ifNo X74.here hx rfl (hb hby at_279) rfl ((if0 _ _).trans (tlt ((lw_lt _ _).mpr hc78)).2.1) k) ?_
                      show Wlk p.tables e below (T74.setTop (mkF m 282 #[iv p1, iv p2, iv p3, iv p4, iv j1_0, iv j2_0, iv j3_0, rv b4, rv b11, rv b28, jv v43, sd, jv v46, sd, jv v49, sd, iv v56, iv v59, iv v65, iv v68, iv v71, iv j72_0] [(.int v65)])) K
                      refine Wlk.of (fun _ k => XS.iconst X74.here hx rfl (hb hby at_282) k) ?_
                      show Wlk p.tables e below (T74.setTop (mkF m 283 #[iv p1, iv p2, iv p3, iv p4, iv j1_0, iv j2_0, iv j3_0, rv b4, rv b11, rv b28, jv v43, sd, jv v46, sd, jv v49, sd, iv v56, iv v59, iv v65, iv v68, iv v71, iv j72_0] [(.int (1 : Int32)), (.int v65)])) K
                      refine Wlk.of (fun _ k => XS.goto X74.here hx rfl (pc0 := 283) (pc' := 287) rfl (hb hby at_283) (by decide) (by decide) k) ?_
                      show Wlk p.tables e below (T74.setTop (mkF m 287 #[iv p1, iv p2, iv p3, iv p4, iv j1_0, iv j2_0, iv j3_0, rv b4, rv b11, rv b28, jv v43, sd, jv v46, sd, jv v49, sd, iv v56, iv v59, iv v65, iv v68, iv v71, iv j72_0] [(.int (1 : Int32)), (.int v65)])) K
                      exact J75 _ X74 e74 _ (by rw [if_pos hc78])
                    · refine Wlk.of (fun _ k => XS.ifYes X74.here hx rfl (pc0 := 279) (pc' := 286) rfl (hb hby at_279) rfl ((if0 _ _).trans (flt (fun q => hc78 ((lw_lt _ _).mp q))).2.1) (by decide) (by decide) k) ?_
                      show Wlk p.tables e below (T74.setTop (mkF m 286 #[iv p1, iv p2, iv p3, iv p4, iv j1_0, iv j2_0, iv j3_0, rv b4, rv b11, rv b28, jv v43, sd, jv v46, sd, jv v49, sd, iv v56, iv v59, iv v65, iv v68, iv v71, iv j72_0] [(.int v65)])) K
                      refine Wlk.of (fun _ k => XS.iconst X74.here hx rfl (hb hby at_286) k) ?_
                      show Wlk p.tables e below (T74.setTop (mkF m 287 #[iv p1, iv p2, iv p3, iv p4, iv j1_0, iv j2_0, iv j3_0, rv b4, rv b11, rv b28, jv v43, sd, jv v46, sd, jv v49, sd, iv v56, iv v59, iv v65, iv v68, iv v71, iv j72_0] [(.int (0 : Int32)), (.int v65)])) K
                      exact J75 _ X74 e74 _ (by rw [if_neg hc78])
                  by_cases hc79 : v46 < v43
                  · refine Wlk.of (fun _ k => XS.ifNo X73.here hx rfl (hb hby at_261) rfl ((if0 _ _).trans (tlt ((lw_lt _ _).mpr hc79)).2.1) k) ?_
                    show Wlk p.tables e below (T73.setTop (mkF m 264 #[iv p1, iv p2, iv p3, iv p4, iv j1_0, iv j2_0, iv j3_0, rv b4, rv b11, rv b28, jv v43, sd, jv v46, sd, jv v49, sd, iv v56, iv v59, iv v65, iv v68, iv v71, iv j72_0] [(.int v59)])) K
                    refine Wlk.of (fun _ k => XS.iconst X73.here hx rfl (hb hby at_264) k) ?_
                    show Wlk p.tables e below (T73.setTop (mkF m 265 #[iv p1, iv p2, iv p3, iv p4, iv j1_0, iv j2_0, iv j3_0, rv b4, rv b11, rv b28, jv v43, sd, jv v46, sd, jv v49, sd, iv v56, iv v59, iv v65, iv v68, iv v71, iv j72_0] [(.int (1 : Int32)), (.int v59)])) K
                    refine Wlk.of (fun _ k => XS.goto X73.here hx rfl (pc0 := 265) (pc' := 269) rfl (hb hby at_265) (by decide) (by decide) k) ?_
                    show Wlk p.tables e below (T73.setTop (mkF m 269 #[iv p1, iv p2, iv p3, iv p4, iv j1_0, iv j2_0, iv j3_0, rv b4, rv b11, rv b28, jv v43, sd, jv v46, sd, jv v49, sd, iv v56, iv v59, iv v65, iv v68, iv v71, iv j72_0] [(.int (1 : Int32)), (.int v59)])) K
                    exact J74 _ X73 e73 _ (by rw [if_pos hc79])
                  · refine Wlk.of (fun _ k => XS.ifYes X73.here hx rfl (pc0 := 261) (pc' := 268) rfl (hb hby at_261) rfl ((if0 _ _).trans (flt (fun q => hc79 ((lw_lt _ _).mp q))).2.1) (by decide) (by decide) k) ?_
                    show Wlk p.tables e below (T73.setTop (mkF m 268 #[iv p1, iv p2, iv p3, iv p4, iv j1_0, iv j2_0, iv j3_0, rv b4, rv b11, rv b28, jv v43, sd, jv v46, sd, jv v49, sd, iv v56, iv v59, iv v65, iv v68, iv v71, iv j72_0] [(.int v59)])) K
                    refine Wlk.of (fun _ k => XS.iconst X73.here hx rfl (hb hby at_268) k) ?_
                    show Wlk p.tables e below (T73.setTop (mkF m 269 #[iv p1, iv p2, iv p3, iv p4, iv j1_0, iv j2_0, iv j3_0, rv b4, rv b11, rv b28, jv v43, sd, jv v46, sd, jv v49, sd, iv v56, iv v59, iv v65, iv v68, iv v71, iv j72_0] [(.int (0 : Int32)), (.int v59)])) K
                    exact J74 _ X73 e73 _ (by rw [if_neg hc79])
                by_cases hc80 : v43 < v46
                · refine Wlk.of (fun _ k => XS.ifNo X72.here hx rfl (hb hby at_243) rfl ((if0 _ _).trans (tlt ((lw_lt _ _).mpr hc80)).2.1) k) ?_
                  show Wlk p.tables e below (T72.setTop (mkF m 246 #[iv p1, iv p2, iv p3, iv p4, iv j1_0, iv j2_0, iv j3_0, rv b4, rv b11, rv b28, jv v43, sd, jv v46, sd, jv v49, sd, iv v56, iv v59, iv v65, iv v68, iv v71, iv j72_0] [(.int v56)])) K
                  refine Wlk.of (fun _ k => XS.iconst X72.here hx rfl (hb hby at_246) k) ?_
                  show Wlk p.tables e below (T72.setTop (mkF m 247 #[iv p1, iv p2, iv p3, iv p4, iv j1_0, iv j2_0, iv j3_0, rv b4, rv b11, rv b28, jv v43, sd, jv v46, sd, jv v49, sd, iv v56, iv v59, iv v65, iv v68, iv v71, iv j72_0] [(.int (1 : Int32)), (.int v56)])) K
                  refine Wlk.of (fun _ k => XS.goto X72.here hx rfl (pc0 := 247) (pc' := 251) rfl (hb hby at_247) (by decide) (by decide) k) ?_
                  show Wlk p.tables e below (T72.setTop (mkF m 251 #[iv p1, iv p2, iv p3, iv p4, iv j1_0, iv j2_0, iv j3_0, rv b4, rv b11, rv b28, jv v43, sd, jv v46, sd, jv v49, sd, iv v56, iv v59, iv v65, iv v68, iv v71, iv j72_0] [(.int (1 : Int32)), (.int v56)])) K
                  exact J73 _ X72 e72 _ (by rw [if_pos hc80])
                · refine Wlk.of (fun _ k => XS.ifYes X72.here hx rfl (pc0 := 243) (pc' := 250) rfl (hb hby at_243) rfl ((if0 _ _).trans (flt (fun q => hc80 ((lw_lt _ _).mp q))).2.1) (by decide) (by decide) k) ?_
                  show Wlk p.tables e below (T72.setTop (mkF m 250 #[iv p1, iv p2, iv p3, iv p4, iv j1_0, iv j2_0, iv j3_0, rv b4, rv b11, rv b28, jv v43, sd, jv v46, sd, jv v49, sd, iv v56, iv v59, iv v65, iv v68, iv v71, iv j72_0] [(.int v56)])) K
                  refine Wlk.of (fun _ k => XS.iconst X72.here hx rfl (hb hby at_250) k) ?_
                  show Wlk p.tables e below (T72.setTop (mkF m 251 #[iv p1, iv p2, iv p3, iv p4, iv j1_0, iv j2_0, iv j3_0, rv b4, rv b11, rv b28, jv v43, sd, jv v46, sd, jv v49, sd, iv v56, iv v59, iv v65, iv v68, iv v71, iv j72_0] [(.int (0 : Int32)), (.int v56)])) K
                  exact J73 _ X72 e72 _ (by rw [if_neg hc80])
              by_cases hc81 : v46 < v43
              · refine Wlk.of (fun _ k => XS.ifNo X69.here hx rfl (hb hby at_226) rfl ((if0 _ _).trans (tlt ((lw_lt _ _).mpr hc81)).2.1) k) ?_
                show Wlk p.tables e below (T69.setTop (mkF m 229 #[iv p1, iv p2, iv p3, iv p4, iv j1_0, iv j2_0, iv j3_0, rv b4, rv b11, rv b28, jv v43, sd, jv v46, sd, jv v49, sd, iv v56, iv v59, iv v65, iv v68, iv v71, un] [])) K
                refine Wlk.of (fun _ k => XS.iconst X69.here hx rfl (hb hby at_229) k) ?_
                show Wlk p.tables e below (T69.setTop (mkF m 230 #[iv p1, iv p2, iv p3, iv p4, iv j1_0, iv j2_0, iv j3_0, rv b4, rv b11, rv b28, jv v43, sd, jv v46, sd, jv v49, sd, iv v56, iv v59, iv v65, iv v68, iv v71, un] [(.int (1 : Int32))])) K
                refine Wlk.of (fun _ k => XS.goto X69.here hx rfl (pc0 := 230) (pc' := 234) rfl (hb hby at_230) (by decide) (by decide) k) ?_
                show Wlk p.tables e below (T69.setTop (mkF m 234 #[iv p1, iv p2, iv p3, iv p4, iv j1_0, iv j2_0, iv j3_0, rv b4, rv b11, rv b28, jv v43, sd, jv v46, sd, jv v49, sd, iv v56, iv v59, iv v65, iv v68, iv v71, un] [(.int (1 : Int32))])) K
                exact J72 _ X69 hh69 _ (by rw [if_pos hc81])
              · refine Wlk.of (fun _ k => XS.ifYes X69.here hx rfl (pc0 := 226) (pc' := 233) rfl (hb hby at_226) rfl ((if0 _ _).trans (flt (fun q => hc81 ((lw_lt _ _).mp q))).2.1) (by decide) (by decide) k) ?_
                show Wlk p.tables e below (T69.setTop (mkF m 233 #[iv p1, iv p2, iv p3, iv p4, iv j1_0, iv j2_0, iv j3_0, rv b4, rv b11, rv b28, jv v43, sd, jv v46, sd, jv v49, sd, iv v56, iv v59, iv v65, iv v68, iv v71, un] [])) K
                refine Wlk.of (fun _ k => XS.iconst X69.here hx rfl (hb hby at_233) k) ?_
                show Wlk p.tables e below (T69.setTop (mkF m 234 #[iv p1, iv p2, iv p3, iv p4, iv j1_0, iv j2_0, iv j3_0, rv b4, rv b11, rv b28, jv v43, sd, jv v46, sd, jv v49, sd, iv v56, iv v59, iv v65, iv v68, iv v71, un] [(.int (0 : Int32))])) K
                exact J72 _ X69 hh69 _ (by rw [if_neg hc81])
            by_cases hc82 : j3_0 = (0 : Int32)
            · refine Wlk.of (fun _ k => XS.ifYes X26.here hx rfl (pc0 := 107) (pc' := 119) rfl (hb hby at_107) rfl ((if0 _ _).trans (teq hc82).1) (by decide) (by decide) k) ?_
              show Wlk p.tables e below (T26.setTop (mkF m 119 #[iv p1, iv p2, iv p3, iv p4, iv j1_0, iv j2_0, iv j3_0, rv b4, rv b11, un, un, un, un, un, un, un, un, un, un, un, un, un] [])) K
              refine Wlk.of (fun _ k => XS.aload X26.here hx rfl (hb hby at_119) rfl rfl k) ?_
              show Wlk p.tables e below (T26.setTop (mkF m 121 #[iv p1, iv p2, iv p3, iv p4, iv j1_0, iv j2_0, iv j3_0, rv b4, rv b11, un, un, un, un, un, un, un, un, un, un, un, un, un] [(.ref b11)])) K
              refine Wlk.of (fun _ k => XS.iconst X26.here hx rfl (hb hby at_121) k) ?_
              show Wlk p.tables e below (T26.setTop (mkF m 122 #[iv p1, iv p2, iv p3, iv p4, iv j1_0, iv j2_0, iv j3_0, rv b4, rv b11, un, un, un, un, un, un, un, un, un, un, un, un, un] [(.int (0 : Int32)), (.ref b11)])) K
              refine Wlk.of (fun _ k => XS.iloadN X26.here hx rfl (hb hby at_122) rfl k) ?_
              show Wlk p.tables e below (T26.setTop (mkF m 123 #[iv p1, iv p2, iv p3, iv p4, iv j1_0, iv j2_0, iv j3_0, rv b4, rv b11, un, un, un, un, un, un, un, un, un, un, un, un, un] [(.int p3), (.int (0 : Int32)), (.ref b11)])) K
              refine Wlk.of (fun _ k => XS.i2dS X26.here hx rfl (hb hby at_123) rfl rfl k) ?_
              show Wlk p.tables e below (T26.setTop (mkF m 124 #[iv p1, iv p2, iv p3, iv p4, iv j1_0, iv j2_0, iv j3_0, rv b4, rv b11, un, un, un, un, un, un, un, un, un, un, un, un, un] [(.double (FP.i2d p3)), (.int (0 : Int32)), (.ref b11)])) K
              obtain ⟨v83, T83, L83, X83, q83, st83⟩ := Ctr.virtual (y := (⟨"com/example/selfwright/selfwright/optimiser/Scores", "set", "(ID)V"⟩ : MethodName)) (rmT10 l Z a0 hw b11 ((FP.i2d p3)) ob_17 (0 : UInt64) h26 n0 (Nat.le_trans Z0 K26.1) z26_3 z26_4 g_ob_17 (Fl.i2d_fin _)) X26 hx hZ e26 hown (wd hw 24 rfl) (wd hw 25 rfl) (notFace_of_selects (args := #[]) (mvT hZ (wd hw 27 rfl))) (wd hw 27 rfl) (wd hw 26 rfl) (wd hw 2 rfl) (wd hw 28 rfl) (by decide) z26_2 pd_188 (g := (mkF m 124 #[iv p1, iv p2, iv p3, iv p4, iv j1_0, iv j2_0, iv j3_0, rv b4, rv b11, un, un, un, un, un, un, un, un, un, un, un, un, un] [(.double (FP.i2d p3)), (.int (0 : Int32)), (.ref b11)])) rfl (by rw [hml]; rfl) (argsL := [(.int (0 : Int32)), (.double (FP.i2d p3))]) (rest := []) rfl rfl rfl (W := 0) (by show 2 * 0 + _ ≤ _; exact Nat.le_of_eq rfl) (by decide) (by decide) (hb hby at_124) (by decide) (by decide)
              obtain ⟨rfl, N83q, K83q, p83_0⟩ := q83
              have N84 := Fr.app N26 N83q
              refine Wlk.of (fun _ k => st83 _ k) ?_
              have K85 : Keep h0 T83.heap [] := K26.trans K83q (allS (Or.inr sz_ob_17) all0)
              show Wlk p.tables e below (T83.setTop (mkF m 127 #[iv p1, iv p2, iv p3, iv p4, iv j1_0, iv j2_0, iv j3_0, rv b4, rv b11, un, un, un, un, un, un, un, un, un, un, un, un, un] [])) K
              have f86 : Exa Z T83.heap b4 "com/example/selfwright/selfwright/optimiser/Scores" := (z26_0.keep K83q)
              have f87 : Fld Z T83.heap b4 "com/example/selfwright/selfwright/optimiser/Scores" "objectives" "[D" (.ref ob_7) := (z26_1.keep K83q (ninS ne20 nin0))
              have f88 : Exa Z T83.heap b11 "com/example/selfwright/selfwright/optimiser/Scores" := (z26_2.keep K83q)
              have f89 : Fld Z T83.heap b11 "com/example/selfwright/selfwright/optimiser/Scores" "objectives" "[D" (.ref ob_17) := (z26_3.keep K83q (ninS ne19 nin0))
              have f90 : Arl Z T83.heap ob_7 .double [(.double j25_0), (.double j26_0)] := (z26_5.keep K83q (ninS ne22 nin0))
              exact J27 _ _ _ (FP.i2d p3) (by rw [if_pos hc82]) (X83.more (by decide) (by decide)) rfl N84 K85 f86 f87 f88 f89 f90 p83_0
            · refine Wlk.of (fun _ k => XS.ifNo X26.here hx rfl (hb hby at_107) rfl ((if0 _ _).trans (feq hc82).1) k) ?_
              show Wlk p.tables e below (T26.setTop (mkF m 110 #[iv p1, iv p2, iv p3, iv p4, iv j1_0, iv j2_0, iv j3_0, rv b4, rv b11, un, un, un, un, un, un, un, un, un, un, un, un, un] [])) K
              refine Wlk.of (fun _ k => XS.aload X26.here hx rfl (hb hby at_110) rfl rfl k) ?_
              show Wlk p.tables e below (T26.setTop (mkF m 112 #[iv p1, iv p2, iv p3, iv p4, iv j1_0, iv j2_0, iv j3_0, rv b4, rv b11, un, un, un, un, un, un, un, un, un, un, un, un, un] [(.ref b11)])) K
              refine Wlk.of (fun _ k => XS.iconst X26.here hx rfl (hb hby at_112) k) ?_
              show Wlk p.tables e below (T26.setTop (mkF m 113 #[iv p1, iv p2, iv p3, iv p4, iv j1_0, iv j2_0, iv j3_0, rv b4, rv b11, un, un, un, un, un, un, un, un, un, un, un, un, un] [(.int (0 : Int32)), (.ref b11)])) K
              obtain ⟨v91, T91, L91, X91, q91, st91⟩ := Ctr.virtual (y := (⟨"com/example/selfwright/selfwright/optimiser/Scores", "setFailed", "(I)V"⟩ : MethodName)) (rmF10 l Z a0 hw b11 ob_17 (0 : UInt64) h26 n0 (Nat.le_trans Z0 K26.1) z26_3 z26_4 g_ob_17) X26 hx hZ e26 hown (wd hw 18 rfl) (wd hw 19 rfl) (notFace_of_selects (args := #[]) (mvT hZ (wd hw 21 rfl))) (wd hw 21 rfl) (wd hw 20 rfl) (wd hw 2 rfl) (wd hw 22 rfl) (by decide) z26_2 pd_189 (g := (mkF m 113 #[iv p1, iv p2, iv p3, iv p4, iv j1_0, iv j2_0, iv j3_0, rv b4, rv b11, un, un, un, un, un, un, un, un, un, un, un, un, un] [(.int (0 : Int32)), (.ref b11)])) rfl (by rw [hml]; rfl) (argsL := [(.int (0 : Int32))]) (rest := []) rfl rfl rfl (W := 0) (by show 2 * 0 + _ ≤ _; exact Nat.le_of_eq rfl) (by decide) (by decide) (hb hby at_113) (by decide) (by decide)
              obtain ⟨rfl, N91q, K91q, p91_0⟩ := q91
              have N92 := Fr.app N26 N91q
              refine Wlk.of (fun _ k => st91 _ k) ?_
              have K93 : Keep h0 T91.heap [] := K26.trans K91q (allS (Or.inr sz_ob_17) all0)
              show Wlk p.tables e below (T91.setTop (mkF m 116 #[iv p1, iv p2, iv p3, iv p4, iv j1_0, iv j2_0, iv j3_0, rv b4, rv b11, un, un, un, un, un, un, un, un, un, un, un, un, un] [])) K
              refine Wlk.of (fun _ k => XS.goto X91.here hx rfl (pc0 := 116) (pc' := 127) rfl (hb hby at_116) (by decide) (by decide) k) ?_
              show Wlk p.tables e below (T91.setTop (mkF m 127 #[iv p1, iv p2, iv p3, iv p4, iv j1_0, iv j2_0, iv j3_0, rv b4, rv b11, un, un, un, un, un, un, un, un, un, un, un, un, un] [])) K
              have f94 : Exa Z T91.heap b4 "com/example/selfwright/selfwright/optimiser/Scores" := (z26_0.keep K91q)
              have f95 : Fld Z T91.heap b4 "com/example/selfwright/selfwright/optimiser/Scores" "objectives" "[D" (.ref ob_7) := (z26_1.keep K91q (ninS ne20 nin0))
              have f96 : Exa Z T91.heap b11 "com/example/selfwright/selfwright/optimiser/Scores" := (z26_2.keep K91q)
              have f97 : Fld Z T91.heap b11 "com/example/selfwright/selfwright/optimiser/Scores" "objectives" "[D" (.ref ob_17) := (z26_3.keep K91q (ninS ne19 nin0))
              have f98 : Arl Z T91.heap ob_7 .double [(.double j25_0), (.double j26_0)] := (z26_5.keep K91q (ninS ne22 nin0))
              exact J27 _ _ _ (9218868437227405312 : UInt64) (by rw [if_neg hc82]) (X91.more (by decide) (by decide)) rfl N92 K93 f94 f95 f96 f97 f98 p91_0
          by_cases hc99 : j2_0 = (0 : Int32)
          · refine Wlk.of (fun _ k => XS.ifYes X25.here hx rfl (pc0 := 85) (pc' := 97) rfl (hb hby at_85) rfl ((if0 _ _).trans (teq hc99).1) (by decide) (by decide) k) ?_
            show Wlk p.tables e below (T25.setTop (mkF m 97 #[iv p1, iv p2, iv p3, iv p4, iv j1_0, iv j2_0, iv j3_0, rv b4, rv b11, un, un, un, un, un, un, un, un, un, un, un, un, un] [])) K
            refine Wlk.of (fun _ k => XS.aload X25.here hx rfl (hb hby at_97) rfl rfl k) ?_
            show Wlk p.tables e below (T25.setTop (mkF m 99 #[iv p1, iv p2, iv p3, iv p4, iv j1_0, iv j2_0, iv j3_0, rv b4, rv b11, un, un, un, un, un, un, un, un, un, un, un, un, un] [(.ref b4)])) K
            refine Wlk.of (fun _ k => XS.iconst X25.here hx rfl (hb hby at_99) k) ?_
            show Wlk p.tables e below (T25.setTop (mkF m 100 #[iv p1, iv p2, iv p3, iv p4, iv j1_0, iv j2_0, iv j3_0, rv b4, rv b11, un, un, un, un, un, un, un, un, un, un, un, un, un] [(.int (1 : Int32)), (.ref b4)])) K
            refine Wlk.of (fun _ k => XS.iloadN X25.here hx rfl (hb hby at_100) rfl k) ?_
            show Wlk p.tables e below (T25.setTop (mkF m 101 #[iv p1, iv p2, iv p3, iv p4, iv j1_0, iv j2_0, iv j3_0, rv b4, rv b11, un, un, un, un, un, un, un, un, un, un, un, un, un] [(.int p2), (.int (1 : Int32)), (.ref b4)])) K
            refine Wlk.of (fun _ k => XS.i2dS X25.here hx rfl (hb hby at_101) rfl rfl k) ?_
            show Wlk p.tables e below (T25.setTop (mkF m 102 #[iv p1, iv p2, iv p3, iv p4, iv j1_0, iv j2_0, iv j3_0, rv b4, rv b11, un, un, un, un, un, un, un, un, un, un, un, un, un] [(.double (FP.i2d p2)), (.int (1 : Int32)), (.ref b4)])) K
            obtain ⟨v100, T100, L100, X100, q100, st100⟩ := Ctr.virtual (y := (⟨"com/example/selfwright/selfwright/optimiser/Scores", "set", "(ID)V"⟩ : MethodName)) (rmT21 l Z a0 hw b4 ((FP.i2d p2)) ob_7 j25_0 (0 : UInt64) h25 n0 (Nat.le_trans Z0 K25.1) z25_1 z25_5 g_ob_7 (Fl.i2d_fin _)) X25 hx hZ e25 hown (wd hw 24 rfl) (wd hw 25 rfl) (notFace_of_selects (args := #[]) (mvT hZ (wd hw 27 rfl))) (wd hw 27 rfl) (wd hw 26 rfl) (wd hw 2 rfl) (wd hw 28 rfl) (by decide) z25_0 pd_188 (g := (mkF m 102 #[iv p1, iv p2, iv p3, iv p4, iv j1_0, iv j2_0, iv j3_0, rv b4, rv b11, un, un, un, un, un, un, un, un, un, un, un, un, un] [(.double (FP.i2d p2)), (.int (1 : Int32)), (.ref b4)])) rfl (by rw [hml]; rfl) (argsL := [(.int (1 : Int32)), (.double (FP.i2d p2))]) (rest := []) rfl rfl rfl (W := 0) (by show 2 * 0 + _ ≤ _; exact Nat.le_of_eq rfl) (by decide) (by decide) (hb hby at_102) (by decide) (by decide)
            obtain ⟨rfl, N100q, K100q, p100_0⟩ := q100
            have N101 := Fr.app N25 N100q
            refine Wlk.of (fun _ k => st100 _ k) ?_
            have K102 : Keep h0 T100.heap [] := K25.trans K100q (allS (Or.inr sz_ob_7) all0)
            show Wlk p.tables e below (T100.setTop (mkF m 105 #[iv p1, iv p2, iv p3, iv p4, iv j1_0, iv j2_0, iv j3_0, rv b4, rv b11, un, un, un, un, un, un, un, un, un, un, un, un, un] [])) K
            have f103 : Exa Z T100.heap b4 "com/example/selfwright/selfwright/optimiser/Scores" := (z25_0.keep K100q)
            have f104 : Fld Z T100.heap b4 "com/example/selfwright/selfwright/optimiser/Scores" "objectives" "[D" (.ref ob_7) := (z25_1.keep K100q (ninS ne9 nin0))
            have f105 : Exa Z T100.heap b11 "com/example/selfwright/selfwright/optimiser/Scores" := (z25_2.keep K100q)
            have f106 : Fld Z T100.heap b11 "com/example/selfwright/selfwright/optimiser/Scores" "objectives" "[D" (.ref ob_17) := (z25_3.keep K100q (ninS (Ne.symm ne14) nin0))
            have f107 : Arl Z T100.heap ob_17 .double [(.double (0 : UInt64))] := (z25_4.keep K100q (ninS (Ne.symm ne22) nin0))
            exact J26 _ _ _ (FP.i2d p2) (by rw [if_pos hc99]) (X100.more (by decide) (by decide)) rfl N101 K102 f103 f104 f105 f106 f107 p100_0
          · refine Wlk.of (fun _ k => XS.ifNo X25.here hx rfl (hb hby at_85) rfl ((if0 _ _).trans (feq hc99).1) k) ?_
            show Wlk p.tables e below (T25.setTop (mkF m 88 #[iv p1, iv p2, iv p3, iv p4, iv j1_0, iv j2_0, iv j3_0, rv b4, rv b11, un, un, un, un, un, un, un, un, un, un, un, un, un] [])) K
            refine Wlk.of (fun _ k => XS.aload X25.here hx rfl (hb hby at_88) rfl rfl k) ?_
            show Wlk p.tables e below (T25.setTop (mkF m 90 #[iv p1, iv p2, iv p3, iv p4, iv j1_0, iv j2_0, iv j3_0, rv b4, rv b11, un, un, un, un, un, un, un, un, un, un, un, un, un] [(.ref b4)])) K
            refine Wlk.of (fun _ k => XS.iconst X25.here hx rfl (hb hby at_90) k) ?_
            show Wlk p.tables e below (T25.setTop (mkF m 91 #[iv p1, iv p2, iv p3, iv p4, iv j1_0, iv j2_0, iv j3_0, rv b4, rv b11, un, un, un, un, un, un, un, un, un, un, un, un, un] [(.int (1 : Int32)), (.ref b4)])) K
            obtain ⟨v108, T108, L108, X108, q108, st108⟩ := Ctr.virtual (y := (⟨"com/example/selfwright/selfwright/optimiser/Scores", "setFailed", "(I)V"⟩ : MethodName)) (rmF21 l Z a0 hw b4 ob_7 j25_0 (0 : UInt64) h25 n0 (Nat.le_trans Z0 K25.1) z25_1 z25_5 g_ob_7) X25 hx hZ e25 hown (wd hw 18 rfl) (wd hw 19 rfl) (notFace_of_selects (args := #[]) (mvT hZ (wd hw 21 rfl))) (wd hw 21 rfl) (wd hw 20 rfl) (wd hw 2 rfl) (wd hw 22 rfl) (by decide) z25_0 pd_189 (g := (mkF m 91 #[iv p1, iv p2, iv p3, iv p4, iv j1_0, iv j2_0, iv j3_0, rv b4, rv b11, un, un, un, un, un, un, un, un, un, un, un, un, un] [(.int (1 : Int32)), (.ref b4)])) rfl (by rw [hml]; rfl) (argsL := [(.int (1 : Int32))]) (rest := []) rfl rfl rfl (W := 0) (by show 2 * 0 + _ ≤ _; exact Nat.le_of_eq rfl) (by decide) (by decide) (hb hby at_91) (by decide) (by decide)
            obtain ⟨rfl, N108q, K108q, p108_0⟩ := q108
            have N109 := Fr.app N25 N108q
            refine Wlk.of (fun _ k => st108 _ k) ?_
            have K110 : Keep h0 T108.heap [] := K25.trans K108q (allS (Or.inr sz_ob_7) all0)
            show Wlk p.tables e below (T108.setTop (mkF m 94 #[iv p1, iv p2, iv p3, iv p4, iv j1_0, iv j2_0, iv j3_0, rv b4, rv b11, un, un, un, un, un, un, un, un, un, un, un, un, un] [])) K
            refine Wlk.of (fun _ k => XS.goto X108.here hx rfl (pc0 := 94) (pc' := 105) rfl (hb hby at_94) (by decide) (by decide) k) ?_
            show Wlk p.tables e below (T108.setTop (mkF m 105 #[iv p1, iv p2, iv p3, iv p4, iv j1_0, iv j2_0, iv j3_0, rv b4, rv b11, un, un, un, un, un, un, un, un, un, un, un, un, un] [])) K
            have f111 : Exa Z T108.heap b4 "com/example/selfwright/selfwright/optimiser/Scores" := (z25_0.keep K108q)
            have f112 : Fld Z T108.heap b4 "com/example/selfwright/selfwright/optimiser/Scores" "objectives" "[D" (.ref ob_7) := (z25_1.keep K108q (ninS ne9 nin0))
            have f113 : Exa Z T108.heap b11 "com/example/selfwright/selfwright/optimiser/Scores" := (z25_2.keep K108q)
            have f114 : Fld Z T108.heap b11 "com/example/selfwright/selfwright/optimiser/Scores" "objectives" "[D" (.ref ob_17) := (z25_3.keep K108q (ninS (Ne.symm ne14) nin0))
            have f115 : Arl Z T108.heap ob_17 .double [(.double (0 : UInt64))] := (z25_4.keep K108q (ninS (Ne.symm ne22) nin0))
            exact J26 _ _ _ (9218868437227405312 : UInt64) (by rw [if_neg hc99]) (X108.more (by decide) (by decide)) rfl N109 K110 f111 f112 f113 f114 f115 p108_0
        by_cases hc116 : j1_0 = (0 : Int32)
        · refine Wlk.of (fun _ k => XS.ifYes X17.here hx rfl (pc0 := 63) (pc' := 75) rfl (hb hby at_63) rfl ((if0 _ _).trans (teq hc116).1) (by decide) (by decide) k) ?_
          show Wlk p.tables e below (T17.setTop (mkF m 75 #[iv p1, iv p2, iv p3, iv p4, iv j1_0, iv j2_0, iv j3_0, rv b4, rv b11, un, un, un, un, un, un, un, un, un, un, un, un, un] [])) K
          refine Wlk.of (fun _ k => XS.aload X17.here hx rfl (hb hby at_75) rfl rfl k) ?_
          show Wlk p.tables e below (T17.setTop (mkF m 77 #[iv p1, iv p2, iv p3, iv p4, iv j1_0, iv j2_0, iv j3_0, rv b4, rv b11, un, un, un, un, un, un, un, un, un, un, un, un, un] [(.ref b4)])) K
          refine Wlk.of (fun _ k => XS.iconst X17.here hx rfl (hb hby at_77) k) ?_
          show Wlk p.tables e below (T17.setTop (mkF m 78 #[iv p1, iv p2, iv p3, iv p4, iv j1_0, iv j2_0, iv j3_0, rv b4, rv b11, un, un, un, un, un, un, un, un, un, un, un, un, un] [(.int (0 : Int32)), (.ref b4)])) K
          refine Wlk.of (fun _ k => XS.iloadN X17.here hx rfl (hb hby at_78) rfl k) ?_
          show Wlk p.tables e below (T17.setTop (mkF m 79 #[iv p1, iv p2, iv p3, iv p4, iv j1_0, iv j2_0, iv j3_0, rv b4, rv b11, un, un, un, un, un, un, un, un, un, un, un, un, un] [(.int p1), (.int (0 : Int32)), (.ref b4)])) K
          refine Wlk.of (fun _ k => XS.i2dS X17.here hx rfl (hb hby at_79) rfl rfl k) ?_
          show Wlk p.tables e below (T17.setTop (mkF m 80 #[iv p1, iv p2, iv p3, iv p4, iv j1_0, iv j2_0, iv j3_0, rv b4, rv b11, un, un, un, un, un, un, un, un, un, un, un, un, un] [(.double (FP.i2d p1)), (.int (0 : Int32)), (.ref b4)])) K
          have f117 : Fld Z T17.heap b4 "com/example/selfwright/selfwright/optimiser/Scores" "objectives" "[D" (.ref ob_7) := ((p7_1.ext E11).keep K17q (ninS ne12 nin0))
          have f118 : Arl Z T17.heap ob_7 .double [(.double (0 : UInt64)), (.double (0 : UInt64))] := (f23.keep K17q (ninS ne14 nin0))
          have f119 : Exa Z T17.heap b4 "com/example/selfwright/selfwright/optimiser/Scores" := (f21.keep K17q)
          obtain ⟨v120, T120, L120, X120, q120, st120⟩ := Ctr.virtual (y := (⟨"com/example/selfwright/selfwright/optimiser/Scores", "set", "(ID)V"⟩ : MethodName)) (rmT20 l Z a0 hw b4 ((FP.i2d p1)) ob_7 (0 : UInt64) (0 : UInt64) T17.heap n0 (Nat.le_trans Z0 K24.1) f117 f118 g_ob_7 (Fl.i2d_fin _)) X17 hx hZ rfl hown (wd hw 24 rfl) (wd hw 25 rfl) (notFace_of_selects (args := #[]) (mvT hZ (wd hw 27 rfl))) (wd hw 27 rfl) (wd hw 26 rfl) (wd hw 2 rfl) (wd hw 28 rfl) (by decide) f119 pd_188 (g := (mkF m 80 #[iv p1, iv p2, iv p3, iv p4, iv j1_0, iv j2_0, iv j3_0, rv b4, rv b11, un, un, un, un, un, un, un, un, un, un, un, un, un] [(.double (FP.i2d p1)), (.int (0 : Int32)), (.ref b4)])) rfl (by rw [hml]; rfl) (argsL := [(.int (0 : Int32)), (.double (FP.i2d p1))]) (rest := []) rfl rfl rfl (W := 0) (by show 2 * 0 + _ ≤ _; exact Nat.le_of_eq rfl) (by decide) (by decide) (hb hby at_80) (by decide) (by decide)
          obtain ⟨rfl, N120q, K120q, p120_0⟩ := q120
          have N121 := Fr.app N18 N120q
          refine Wlk.of (fun _ k => st120 _ k) ?_
          have K122 : Keep h0 T120.heap [] := K24.trans K120q (allS (Or.inr sz_ob_7) all0)
          show Wlk p.tables e below (T120.setTop (mkF m 83 #[iv p1, iv p2, iv p3, iv p4, iv j1_0, iv j2_0, iv j3_0, rv b4, rv b11, un, un, un, un, un, un, un, un, un, un, un, un, un] [])) K
          have f123 : Exa Z T120.heap b4 "com/example/selfwright/selfwright/optimiser/Scores" := (f119.keep K120q)
          have f124 : Fld Z T120.heap b4 "com/example/selfwright/selfwright/optimiser/Scores" "objectives" "[D" (.ref ob_7) := (f117.keep K120q (ninS ne9 nin0))
          have f125 : Exa Z T120.heap b11 "com/example/selfwright/selfwright/optimiser/Scores" := ((A11.keep K17q).keep K120q)
          have f126 : Fld Z T120.heap b11 "com/example/selfwright/selfwright/optimiser/Scores" "objectives" "[D" (.ref ob_17) := (p17_1.keep K120q (ninS (Ne.symm ne14) nin0))
          have f127 : Arl Z T120.heap ob_17 .double [(.double (0 : UInt64))] := (p17_2.keep K120q (ninS (Ne.symm ne22) nin0))
          exact J25 _ _ _ (FP.i2d p1) (by rw [if_pos hc116]) (X120.more (by decide) (by decide)) rfl N121 K122 f123 f124 f125 f126 f127 p120_0
        · refine Wlk.of (fun _ k => XS.ifNo X17.here hx rfl (hb hby at_63) rfl ((if0 _ _).trans (feq hc116).1) k) ?_
          show Wlk p.tables e below (T17.setTop (mkF m 66 #[iv p1, iv p2, iv p3, iv p4, iv j1_0, iv j2_0, iv j3_0, rv b4, rv b11, un, un, un, un, un, un, un, un, un, un, un, un, un] [])) K
          refine Wlk.of (fun _ k => XS.aload X17.here hx rfl (hb hby at_66) rfl rfl k) ?_
          show Wlk p.tables e below (T17.setTop (mkF m 68 #[iv p1, iv p2, iv p3, iv p4, iv j1_0, iv j2_0, iv j3_0, rv b4, rv b11, un, un, un, un, un, un, un, un, un, un, un, un, un] [(.ref b4)])) K
          refine Wlk.of (fun _ k => XS.iconst X17.here hx rfl (hb hby at_68) k) ?_
          show Wlk p.tables e below (T17.setTop (mkF m 69 #[iv p1, iv p2, iv p3, iv p4, iv j1_0, iv j2_0, iv j3_0, rv b4, rv b11, un, un, un, un, un, un, un, un, un, un, un, un, un] [(.int (0 : Int32)), (.ref b4)])) K
          have f128 : Fld Z T17.heap b4 "com/example/selfwright/selfwright/optimiser/Scores" "objectives" "[D" (.ref ob_7) := ((p7_1.ext E11).keep K17q (ninS ne12 nin0))
          have f129 : Arl Z T17.heap ob_7 .double [(.double (0 : UInt64)), (.double (0 : UInt64))] := (f23.keep K17q (ninS ne14 nin0))
          have f130 : Exa Z T17.heap b4 "com/example/selfwright/selfwright/optimiser/Scores" := (f21.keep K17q)
          obtain ⟨v131, T131, L131, X131, q131, st131⟩ := Ctr.virtual (y := (⟨"com/example/selfwright/selfwright/optimiser/Scores", "setFailed", "(I)V"⟩ : MethodName)) (rmF20 l Z a0 hw b4 ob_7 (0 : UInt64) (0 : UInt64) T17.heap n0 (Nat.le_trans Z0 K24.1) f128 f129 g_ob_7) X17 hx hZ rfl hown (wd hw 18 rfl) (wd hw 19 rfl) (notFace_of_selects (args := #[]) (mvT hZ (wd hw 21 rfl))) (wd hw 21 rfl) (wd hw 20 rfl) (wd hw 2 rfl) (wd hw 22 rfl) (by decide) f130 pd_189 (g := (mkF m 69 #[iv p1, iv p2, iv p3, iv p4, iv j1_0, iv j2_0, iv j3_0, rv b4, rv b11, un, un, un, un, un, un, un, un, un, un, un, un, un] [(.int (0 : Int32)), (.ref b4)])) rfl (by rw [hml]; rfl) (argsL := [(.int (0 : Int32))]) (rest := []) rfl rfl rfl (W := 0) (by show 2 * 0 + _ ≤ _; exact Nat.le_of_eq rfl) (by decide) (by decide) (hb hby at_69) (by decide) (by decide)
          obtain ⟨rfl, N131q, K131q, p131_0⟩ := q131
          have N132 := Fr.app N18 N131q
          refine Wlk.of (fun _ k => st131 _ k) ?_
          have K133 : Keep h0 T131.heap [] := K24.trans K131q (allS (Or.inr sz_ob_7) all0)
          show Wlk p.tables e below (T131.setTop (mkF m 72 #[iv p1, iv p2, iv p3, iv p4, iv j1_0, iv j2_0, iv j3_0, rv b4, rv b11, un, un, un, un, un, un, un, un, un, un, un, un, un] [])) K
          refine Wlk.of (fun _ k => XS.goto X131.here hx rfl (pc0 := 72) (pc' := 83) rfl (hb hby at_72) (by decide) (by decide) k) ?_
          show Wlk p.tables e below (T131.setTop (mkF m 83 #[iv p1, iv p2, iv p3, iv p4, iv j1_0, iv j2_0, iv j3_0, rv b4, rv b11, un, un, un, un, un, un, un, un, un, un, un, un, un] [])) K
          have f134 : Exa Z T131.heap b4 "com/example/selfwright/selfwright/optimiser/Scores" := (f130.keep K131q)
          have f135 : Fld Z T131.heap b4 "com/example/selfwright/selfwright/optimiser/Scores" "objectives" "[D" (.ref ob_7) := (f128.keep K131q (ninS ne9 nin0))
          have f136 : Exa Z T131.heap b11 "com/example/selfwright/selfwright/optimiser/Scores" := ((A11.keep K17q).keep K131q)
          have f137 : Fld Z T131.heap b11 "com/example/selfwright/selfwright/optimiser/Scores" "objectives" "[D" (.ref ob_17) := (p17_1.keep K131q (ninS (Ne.symm ne14) nin0))
          have f138 : Arl Z T131.heap ob_17 .double [(.double (0 : UInt64))] := (p17_2.keep K131q (ninS (Ne.symm ne22) nin0))
          exact J25 _ _ _ (9218868437227405312 : UInt64) (by rw [if_neg hc116]) (X131.more (by decide) (by decide)) rfl N132 K133 f134 f135 f136 f137 f138 p131_0
      by_cases hc139 : (p4 &&& (4 : Int32)) = (0 : Int32)
      · refine Wlk.of (fun _ k => XS.ifYes X2.here hx rfl (pc0 := 29) (pc' := 36) rfl (hb hby at_29) rfl ((if0 _ _).trans (teq hc139).1) (by decide) (by decide) k) ?_
        show Wlk p.tables e below (T2.setTop (mkF m 36 #[iv p1, iv p2, iv p3, iv p4, iv j1_0, iv j2_0, un, un, un, un, un, un, un, un, un, un, un, un, un, un, un, un] [])) K
        refine Wlk.of (fun _ k => XS.iconst X2.here hx rfl (hb hby at_36) k) ?_
        show Wlk p.tables e below (T2.setTop (mkF m 37 #[iv p1, iv p2, iv p3, iv p4, iv j1_0, iv j2_0, un, un, un, un, un, un, un, un, un, un, un, un, un, un, un, un] [(.int (0 : Int32))])) K
        exact J3 _ X2 e2 _ (by rw [if_pos hc139])
      · refine Wlk.of (fun _ k => XS.ifNo X2.here hx rfl (hb hby at_29) rfl ((if0 _ _).trans (feq hc139).1) k) ?_
        show Wlk p.tables e below (T2.setTop (mkF m 32 #[iv p1, iv p2, iv p3, iv p4, iv j1_0, iv j2_0, un, un, un, un, un, un, un, un, un, un, un, un, un, un, un, un] [])) K
        refine Wlk.of (fun _ k => XS.iconst X2.here hx rfl (hb hby at_32) k) ?_
        show Wlk p.tables e below (T2.setTop (mkF m 33 #[iv p1, iv p2, iv p3, iv p4, iv j1_0, iv j2_0, un, un, un, un, un, un, un, un, un, un, un, un, un, un, un, un] [(.int (1 : Int32))])) K
        refine Wlk.of (fun _ k => XS.goto X2.here hx rfl (pc0 := 33) (pc' := 37) rfl (hb hby at_33) (by decide) (by decide) k) ?_
        show Wlk p.tables e below (T2.setTop (mkF m 37 #[iv p1, iv p2, iv p3, iv p4, iv j1_0, iv j2_0, un, un, un, un, un, un, un, un, un, un, un, un, un, un, un, un] [(.int (1 : Int32))])) K
        exact J3 _ X2 e2 _ (by rw [if_neg hc139])
    by_cases hc140 : (p4 &&& (2 : Int32)) = (0 : Int32)
    · refine Wlk.of (fun _ k => XS.ifYes X1.here hx rfl (pc0 := 16) (pc' := 23) rfl (hb hby at_16) rfl ((if0 _ _).trans (teq hc140).1) (by decide) (by decide) k) ?_
      show Wlk p.tables e below (T1.setTop (mkF m 23 #[iv p1, iv p2, iv p3, iv p4, iv j1_0, un, un, un, un, un, un, un, un, un, un, un, un, un, un, un, un, un] [])) K
      refine Wlk.of (fun _ k => XS.iconst X1.here hx rfl (hb hby at_23) k) ?_
      show Wlk p.tables e below (T1.setTop (mkF m 24 #[iv p1, iv p2, iv p3, iv p4, iv j1_0, un, un, un, un, un, un, un, un, un, un, un, un, un, un, un, un, un] [(.int (0 : Int32))])) K
      exact J2 _ X1 e1 _ (by rw [if_pos hc140])
    · refine Wlk.of (fun _ k => XS.ifNo X1.here hx rfl (hb hby at_16) rfl ((if0 _ _).trans (feq hc140).1) k) ?_
      show Wlk p.tables e below (T1.setTop (mkF m 19 #[iv p1, iv p2, iv p3, iv p4, iv j1_0, un, un, un, un, un, un, un, un, un, un, un, un, un, un, un, un, un] [])) K
      refine Wlk.of (fun _ k => XS.iconst X1.here hx rfl (hb hby at_19) k) ?_
      show Wlk p.tables e below (T1.setTop (mkF m 20 #[iv p1, iv p2, iv p3, iv p4, iv j1_0, un, un, un, un, un, un, un, un, un, un, un, un, un, un, un, un, un] [(.int (1 : Int32))])) K
      refine Wlk.of (fun _ k => XS.goto X1.here hx rfl (pc0 := 20) (pc' := 24) rfl (hb hby at_20) (by decide) (by decide) k) ?_
      show Wlk p.tables e below (T1.setTop (mkF m 24 #[iv p1, iv p2, iv p3, iv p4, iv j1_0, un, un, un, un, un, un, un, un, un, un, un, un, un, un, un, un, un] [(.int (1 : Int32))])) K
      exact J2 _ X1 e1 _ (by rw [if_neg hc140])
  by_cases hc141 : (p4 &&& (1 : Int32)) = (0 : Int32)
  · refine Wlk.of (fun _ k => XS.ifYes X0.here hx rfl (pc0 := 3) (pc' := 10) rfl (hb hby at_3) rfl ((if0 _ _).trans (teq hc141).1) (by decide) (by decide) k) ?_
    show Wlk p.tables e below (s₁.setTop (mkF m 10 #[iv p1, iv p2, iv p3, iv p4, un, un, un, un, un, un, un, un, un, un, un, un, un, un, un, un, un, un] [])) K
    refine Wlk.of (fun _ k => XS.iconst X0.here hx rfl (hb hby at_10) k) ?_
    show Wlk p.tables e below (s₁.setTop (mkF m 11 #[iv p1, iv p2, iv p3, iv p4, un, un, un, un, un, un, un, un, un, un, un, un, un, un, un, un, un, un] [(.int (0 : Int32))])) K
    exact J1 _ X0 e0 _ (by rw [if_pos hc141])
  · refine Wlk.of (fun _ k => XS.ifNo X0.here hx rfl (hb hby at_3) rfl ((if0 _ _).trans (feq hc141).1) k) ?_
    show Wlk p.tables e below (s₁.setTop (mkF m 6 #[iv p1, iv p2, iv p3, iv p4, un, un, un, un, un, un, un, un, un, un, un, un, un, un, un, un, un, un] [])) K
    refine Wlk.of (fun _ k => XS.iconst X0.here hx rfl (hb hby at_6) k) ?_
    show Wlk p.tables e below (s₁.setTop (mkF m 7 #[iv p1, iv p2, iv p3, iv p4, un, un, un, un, un, un, un, un, un, un, un, un, un, un, un, un, un, un] [(.int (1 : Int32))])) K
    refine Wlk.of (fun _ k => XS.goto X0.here hx rfl (pc0 := 7) (pc' := 11) rfl (hb hby at_7) (by decide) (by decide) k) ?_
    show Wlk p.tables e below (s₁.setTop (mkF m 11 #[iv p1, iv p2, iv p3, iv p4, un, un, un, un, un, un, un, un, un, un, un, un, un, un, un, un, un, un] [(.int (1 : Int32))])) K
    exact J1 _ X0 e0 _ (by rw [if_neg hc141])
set_option maxRecDepth 65536 in
set_option maxHeartbeats 40000000 in
theorem comes_1 {Post : Tables → Env → Array Value → State → Outcome → State → Prop} (hpost : ∀ tb e args s v u, (limb_1_1.after args s (.returned v) u = true ∧ limb_1_2.after args s (.returned v) u = true ∧ True) → FrameEnd s (.returned v) u (Jvm.fieldLocs frame_1_writes args s ++ Jvm.arrayLocs frame_1_arrays args s ++ Jvm.staticLocs frame_1_statics s) 32 128 → Post tb e args s (.returned v) u) :
    ArmFor flags0 classFile x code maxLocals ret World_1 tables_1 room_1 Calls_1 rest_1 Pre_1 Post := by
  intro l hfl _ _ p e ha hc hk s m args below hf hA hF happ hP
  obtain ⟨hcalls, hrest, hpre⟩ := hP
  obtain ⟨-, -, -, hnamed, -, -, -, hat⟩ := (Spec.applies_iff hf).mp happ
  obtain ⟨hg, hn⟩ := and_e (Cond.before_iff.mp (show (Jvm.Cond.and given_1 narrow_1).before args s = true from hpre))
  obtain ⟨g1, g2⟩ := and_e hg
  obtain ⟨g3, g4⟩ := and_e g2
  obtain ⟨g5, g6⟩ := and_e g4
  obtain ⟨g7, g8⟩ := and_e g6
  obtain ⟨w0, w1, w2, w3, rfl⟩ : ∃ w0 w1 w2 w3 : Value, args = #[w0, w1, w2, w3] := by
    have hs : args.size = 4 := by simpa [Cond.value, given_1] using g1
    obtain ⟨L⟩ := args
    match L, hs with
    | [w0, w1, w2, w3], _ => exact ⟨w0, w1, w2, w3, rfl⟩
  have hw := fun d (hd : d ∈ tables_1) => atoms_spec (ws := Jvm.Cond.code x code maxLocals ret :: tables_1) hat d (List.mem_cons_of_mem _ hd)
  have hfit : Fit s := fun {y c} hc i hi => by
    obtain ⟨ha, rfl⟩ := Array.getElem?_eq_some_iff.mp hc
    have q := List.all_eq_true.mp ((Array.all_eq_true_iff_forall_mem.mp hF) _ (Array.getElem_mem ha)) i (List.mem_range.mpr hi)
    simpa [Array.getElem?_eq_getElem hi] using q
  obtain ⟨i0, ei0⟩ := is_v g3
  obtain rfl : w0 = (.int i0) := Option.some.inj ei0
  obtain ⟨i1, ei1⟩ := is_v g5
  obtain rfl : w1 = (.int i1) := Option.some.inj ei1
  obtain ⟨i2, ei2⟩ := is_v g7
  obtain rfl : w2 = (.int i2) := Option.some.inj ei2
  obtain ⟨i3, ei3⟩ := is_v g8
  obtain rfl : w3 = (.int i3) := Option.some.inj ei3
  obtain ⟨n, o, h1, h2, h3, _, L, rfl, ⟨rfl, N⟩, hq⟩ := rm0 l s _ hw tables_1 i0 i1 i2 i3  s.heap s.heap.size (Nat.le_refl _)  p e ha hc hk s m _ below hf ((Spec.applies_iff_loose hf).mp happ).1 ⟨rfl, State.Warmed39.refl s, rfl⟩ trivial
  refine ⟨n, _, h1, h2, h3, hpost _ _ _ _ _ _ ⟨Cond.after_iff.mpr rfl, Cond.after_iff.mpr (eq_i res_at (Term.int_eval (1)) rfl), trivial⟩ ⟨hq.1, hq.2.1, (hq.2.2.sift fun y hy => Or.inr (N y hy)).mono (by decide) (by decide)⟩⟩
theorem main_1_1 : Claimed_1_1 := comes_1 fun _ _ _ _ _ _ h hF => ⟨h.1, hF⟩
theorem main_1_2 : Claimed_1_2 := comes_1 fun _ _ _ _ _ _ h hF => ⟨h.2.1, hF⟩
end Jvm.Pilot.@@N@@
namespace Jvm.Pilot.@@N@@
open Jvm Jvm.ClassFile Sem Op Lib Jvm.Free Jvm.Stand Jvm.Pilot.@@N@@.Jvm.D
/-! MADE BY PROGRAM (witnessworld.py) out of the Statement's table words and the real class files: 20 classes; the members and pool entries that the words name. The judged class is class 1, her method 2. -/
namespace start1
open Jvm.ClassFile
def u (s : String) : CpInfo := .utf8 (stringToUtf16 s)
/-- a pool by its gaps: so many unusable entries, then the entry; so many at the end -/
def gap : Nat → List CpInfo → List CpInfo
  | 0, r => r
  | n + 1, r => .unusable :: gap n r
def poolList (es : List (Nat × CpInfo)) (last : Nat) : List CpInfo := es.foldr (fun e r => gap e.1 (e.2 :: r)) (gap last [])
def pool (es : List (Nat × CpInfo)) (last : Nat) : Array CpInfo := ⟨poolList es last⟩
def fileOf (pool : Array CpInfo) (this : Nat) (attrs : Array Attribute := #[]) (ms : Array MethodInfo := #[]) (fl : Nat := 33) (sup : Nat := 0) (ifs : Array Nat := #[]) (fds : Array FieldInfo := #[]) : ClassFile where
  minorVersion := 0
  majorVersion := 65
  constantPool := pool
  accessFlags := fl
  thisClass := this
  superClass := sup
  interfaces := ifs
  fields := fds
  methods := ms
  attributes := attrs
def plain (name : String) (sup : Option ClassId) : Class where
  name := name
  kind := .ordinary
  loader := none
  accessFlags := 33
  super := sup
  interfaces := #[]
  cf := none
  fields := #[]
  methods := #[]
  instanceTypes := #[]
  staticTypes := #[]
  resolved := #[]
  callSites := []
  init := .initialized
  statics := none
  mirror := none

def pool0 : Array CpInfo := pool [(5, u "<init>"), (0, u "()V"), (1, .class_ 10), (1, u "java/lang/Object")] 113

def k0c0 : Code := { maxStack := 0, maxLocals := 1, code := object_method_1_code, exceptionTable := #[], attributes := #[] }
def k0m0 : Method := { name := "<init>", desc := "()V", sig := { parameters := [], returnType := none }, accessFlags := 1, code := some k0c0 }
/-- java/lang/Object -/
def k0 : Class := { plain "java/lang/Object" none with
  accessFlags := 33
  interfaces := #[]
  cf := some (fileOf pool0 8 #[] #[{ accessFlags := 1, nameIndex := 5, descriptorIndex := 6, attributes := #[] }] 33 0 #[] #[])
  fields := #[]
  methods := #[k0m0]
  instanceTypes := #[]
  staticTypes := #[]
  resolved := Array.replicate 124 none
  statics := none }

def pool1 : Array CpInfo := pool [(2, .class_ 4), (1, u "java/lang/Object"), (0, u "<init>"), (0, u "()V"), (2, .long 9223372036854775807), (1, .class_ 12), (0, u "com/example/selfwright/selfwright/optimiser/Scores"), (0, .methodref 11 14), (0, .nameAndType 5 15), (0, u "(II)V"), (0, .methodref 11 17), (0, .nameAndType 18 19), (0, u "setFailed"), (0, u "(I)V"), (0, .methodref 11 21), (0, .nameAndType 22 23), (0, u "set"), (0, u "(ID)V"), (0, .class_ 25), (0, u "com/example/selfwright/selfwright/optimiser/ObjectiveRanking"), (0, .methodref 24 27), (0, .nameAndType 5 28), (0, u "(Lcom/example/selfwright/selfwright/optimiser/Scores;)V"), (0, .methodref 30 31), (0, .class_ 32), (0, .nameAndType 33 34), (0, u "com/example/selfwright/selfwright/optimiser/ObjectiveRankingPrefersPinLaw"), (0, u "key"), (0, u "(IZ)J"), (0, .methodref 24 36), (0, .nameAndType 37 38), (0, u "prefers"), (0, u "(Lcom/example/selfwright/selfwright/optimiser/Scores;ILcom/example/selfwright/selfwright/optimiser/Scores;I)Z"), (0, .methodref 24 40), (0, .nameAndType 41 42), (0, u "best"), (0, u "()I"), (3, u "law"), (0, u "(IIII)Z")] 2

def k1m0 : Method := { name := "<init>", desc := "()V", sig := { parameters := [], returnType := none }, accessFlags := 2, code := none }
def k1c1 : Code := { maxStack := 2, maxLocals := 2, code := method_2_code, exceptionTable := #[], attributes := #[] }
def k1m1 : Method := { name := "key", desc := "(IZ)J", sig := { parameters := [.int, .boolean], returnType := some .long }, accessFlags := 10, code := some k1c1 }
def k1c2 : Code := { maxStack := 5, maxLocals := 22, code := code, exceptionTable := #[], attributes := #[] }
def k1m2 : Method := { name := "law", desc := "(IIII)Z", sig := { parameters := [.int, .int, .int, .int], returnType := some .boolean }, accessFlags := 9, code := some k1c2 }
/-- com/example/selfwright/selfwright/optimiser/ObjectiveRankingPrefersPinLaw -/
def k1 : Class := { plain "com/example/selfwright/selfwright/optimiser/ObjectiveRankingPrefersPinLaw" (some 0) with
  accessFlags := 49
  interfaces := #[]
  cf := some (fileOf pool1 30 #[] #[{ accessFlags := 2, nameIndex := 5, descriptorIndex := 6, attributes := #[] }, { accessFlags := 10, nameIndex := 33, descriptorIndex := 34, attributes := #[] }, { accessFlags := 9, nameIndex := 46, descriptorIndex := 47, attributes := #[] }] 49 2 #[] #[])
  fields := #[]
  methods := #[k1m0, k1m1, k1m2]
  instanceTypes := #[]
  staticTypes := #[]
  resolved := Array.replicate 50 none
  statics := none }

def pool2 : Array CpInfo := pool [(1, .methodref 2 3), (0, .class_ 4), (0, .nameAndType 5 6), (0, u "java/lang/Object"), (0, u "<init>"), (0, u "()V"), (0, .fieldref 8 9), (0, .class_ 10), (0, .nameAndType 11 12), (0, u "com/example/selfwright/selfwright/optimiser/Scores"), (0, u "objectives"), (0, u "[D"), (0, .class_ 14), (0, u "[[D"), (0, .fieldref 8 16), (0, .nameAndType 17 14), (0, u "violations"), (0, .fieldref 8 19), (0, .nameAndType 20 21), (0, u "constraintCount"), (0, u "I"), (0, .class_ 23), (0, u "java/lang/Double"), (0, .double 9218868437227405312), (13, .methodref 22 39), (0, .nameAndType 40 41), (0, u "isFinite"), (0, u "(D)Z"), (22, u "objective"), (10, u "(II)V"), (2, u "size"), (0, u "()I"), (0, u "(I)D"), (6, u "set"), (0, u "(ID)V"), (1, u "setFailed"), (0, u "(I)V")] 21

def k2c0 : Code := { maxStack := 3, maxLocals := 3, code := prog_21_method_1_code, exceptionTable := #[], attributes := #[] }
def k2m0 : Method := { name := "<init>", desc := "(II)V", sig := { parameters := [.int, .int], returnType := none }, accessFlags := 0, code := some k2c0 }
def k2c1 : Code := { maxStack := 1, maxLocals := 1, code := prog_21_method_2_code, exceptionTable := #[], attributes := #[] }
def k2m1 : Method := { name := "size", desc := "()I", sig := { parameters := [], returnType := some .int }, accessFlags := 0, code := some k2c1 }
def k2c2 : Code := { maxStack := 2, maxLocals := 2, code := prog_21_method_3_code, exceptionTable := #[], attributes := #[] }
def k2m2 : Method := { name := "objective", desc := "(I)D", sig := { parameters := [.int], returnType := some .double }, accessFlags := 0, code := some k2c2 }
def k2c3 : Code := { maxStack := 4, maxLocals := 4, code := prog_21_method_9_code, exceptionTable := #[], attributes := #[] }
def k2m3 : Method := { name := "set", desc := "(ID)V", sig := { parameters := [.int, .double], returnType := none }, accessFlags := 0, code := some k2c3 }
def k2c4 : Code := { maxStack := 4, maxLocals := 2, code := prog_21_method_11_code, exceptionTable := #[], attributes := #[] }
def k2m4 : Method := { name := "setFailed", desc := "(I)V", sig := { parameters := [.int], returnType := none }, accessFlags := 0, code := some k2c4 }
/-- com/example/selfwright/selfwright/optimiser/Scores -/
def k2 : Class := { plain "com/example/selfwright/selfwright/optimiser/Scores" (some 0) with
  accessFlags := 48
  interfaces := #[]
  cf := some (fileOf pool2 8 #[] #[{ accessFlags := 0, nameIndex := 5, descriptorIndex := 75, attributes := #[] }, { accessFlags := 0, nameIndex := 78, descriptorIndex := 79, attributes := #[] }, { accessFlags := 0, nameIndex := 64, descriptorIndex := 80, attributes := #[] }, { accessFlags := 0, nameIndex := 87, descriptorIndex := 88, attributes := #[] }, { accessFlags := 0, nameIndex := 90, descriptorIndex := 91, attributes := #[] }] 48 2 #[] #[{ accessFlags := 18, nameIndex := 11, descriptorIndex := 12, attributes := #[] }, { accessFlags := 18, nameIndex := 17, descriptorIndex := 14, attributes := #[] }, { accessFlags := 18, nameIndex := 20, descriptorIndex := 21, attributes := #[] }])
  fields := #[{ name := "objectives", type := (.array .double), accessFlags := 18, slot := 0, constantValue := 0 }, { name := "violations", type := (.array (.array .double)), accessFlags := 18, slot := 1, constantValue := 0 }, { name := "constraintCount", type := .int, accessFlags := 18, slot := 2, constantValue := 0 }]
  methods := #[k2m0, k2m1, k2m2, k2m3, k2m4]
  instanceTypes := #[(.array .double), (.array (.array .double)), .int]
  staticTypes := #[]
  resolved := Array.replicate 113 none
  statics := none }

def pool3 : Array CpInfo := pool [(1, .class_ 2), (0, u "java/io/Serializable"), (0, .class_ 4), (0, u "java/lang/Object")] 2

/-- java/io/Serializable -/
def k3 : Class := { plain "java/io/Serializable" (some 0) with
  accessFlags := 1537
  interfaces := #[]
  cf := some (fileOf pool3 1 #[] #[] 1537 3 #[] #[])
  fields := #[]
  methods := #[]
  instanceTypes := #[]
  staticTypes := #[]
  resolved := Array.replicate 7 none
  statics := none }

def pool4 : Array CpInfo := pool [(2, .class_ 4), (1, u "java/lang/Object"), (0, u "<init>"), (0, u "()V"), (1, .class_ 10), (1, u "java/lang/Number"), (2, .class_ 14), (0, u "java/io/Serializable"), (0, u "serialVersionUID"), (0, u "J")] 20

def k4m0 : Method := { name := "<init>", desc := "()V", sig := { parameters := [], returnType := none }, accessFlags := 1, code := none }
/-- java/lang/Number -/
def k4 : Class := { plain "java/lang/Number" (some 0) with
  accessFlags := 1057
  interfaces := #[3]
  cf := some (fileOf pool4 8 #[] #[{ accessFlags := 1, nameIndex := 5, descriptorIndex := 6, attributes := #[] }] 1057 2 #[13] #[{ accessFlags := 26, nameIndex := 15, descriptorIndex := 16, attributes := #[] }])
  fields := #[{ name := "serialVersionUID", type := .long, accessFlags := 26, slot := 0, constantValue := 0 }]
  methods := #[k4m0]
  instanceTypes := #[]
  staticTypes := #[.long]
  resolved := Array.replicate 37 none
  statics := none }

def pool5 : Array CpInfo := pool [(1, .class_ 2), (0, u "java/lang/Comparable"), (0, .class_ 4), (0, u "java/lang/Object")] 7

/-- java/lang/Comparable -/
def k5 : Class := { plain "java/lang/Comparable" (some 0) with
  accessFlags := 1537
  interfaces := #[]
  cf := some (fileOf pool5 1 #[] #[] 1537 3 #[] #[])
  fields := #[]
  methods := #[]
  instanceTypes := #[]
  staticTypes := #[]
  resolved := Array.replicate 12 none
  statics := none }

def pool6 : Array CpInfo := pool [(1, .class_ 2), (0, u "java/lang/constant/Constable"), (0, .class_ 4), (0, u "java/lang/Object")] 6

/-- java/lang/constant/Constable -/
def k6 : Class := { plain "java/lang/constant/Constable" (some 0) with
  accessFlags := 1537
  interfaces := #[]
  cf := some (fileOf pool6 1 #[] #[] 1537 3 #[] #[])
  fields := #[]
  methods := #[]
  instanceTypes := #[]
  staticTypes := #[]
  resolved := Array.replicate 11 none
  statics := none }

def pool7 : Array CpInfo := pool [(1, .class_ 2), (0, u "java/lang/constant/ConstantDesc"), (0, .class_ 4), (0, u "java/lang/Object")] 32

/-- java/lang/constant/ConstantDesc -/
def k7 : Class := { plain "java/lang/constant/ConstantDesc" (some 0) with
  accessFlags := 1537
  interfaces := #[]
  cf := some (fileOf pool7 1 #[] #[] 1537 3 #[] #[])
  fields := #[]
  methods := #[]
  instanceTypes := #[]
  staticTypes := #[]
  resolved := Array.replicate 37 none
  statics := none }

def pool8 : Array CpInfo := pool [(1, .class_ 2), (0, u "java/lang/Double"), (10, u "isFinite"), (0, u "(D)Z"), (8, .class_ 25), (1, u "java/lang/Math"), (12, .methodref 23 39), (0, .nameAndType 40 41), (0, u "abs"), (0, u "(D)D"), (69, .double 9218868437227405311), (2, .class_ 116), (1, u "java/lang/Number"), (3, u "value"), (0, u "D"), (51, u "TYPE"), (0, u "Ljava/lang/Class;"), (0, .class_ 176), (0, u "java/lang/Comparable"), (0, .class_ 178), (0, u "java/lang/constant/Constable"), (0, .class_ 180), (0, u "java/lang/constant/ConstantDesc"), (0, u "POSITIVE_INFINITY"), (3, u "NEGATIVE_INFINITY"), (2, u "NaN"), (2, u "MAX_VALUE"), (0, u "MIN_NORMAL"), (0, u "MIN_VALUE"), (2, u "SIZE"), (0, u "I"), (1, u "PRECISION"), (1, u "MAX_EXPONENT"), (1, u "MIN_EXPONENT"), (1, u "BYTES"), (3, u "serialVersionUID"), (0, u "J")] 79

def k8c0 : Code := { maxStack := 4, maxLocals := 2, code := jdk_117_method_8_code, exceptionTable := #[], attributes := #[] }
def k8m0 : Method := { name := "isFinite", desc := "(D)Z", sig := { parameters := [.double], returnType := some .boolean }, accessFlags := 9, code := some k8c0 }
/-- java/lang/Double -/
def k8 : Class := { plain "java/lang/Double" (some 4) with
  accessFlags := 49
  interfaces := #[5, 6, 7]
  cf := some (fileOf pool8 1 #[] #[{ accessFlags := 9, nameIndex := 13, descriptorIndex := 14, attributes := #[] }] 49 114 #[175, 177, 179] #[{ accessFlags := 25, nameIndex := 181, descriptorIndex := 121, attributes := #[] }, { accessFlags := 25, nameIndex := 185, descriptorIndex := 121, attributes := #[] }, { accessFlags := 25, nameIndex := 188, descriptorIndex := 121, attributes := #[] }, { accessFlags := 25, nameIndex := 191, descriptorIndex := 121, attributes := #[] }, { accessFlags := 25, nameIndex := 192, descriptorIndex := 121, attributes := #[] }, { accessFlags := 25, nameIndex := 193, descriptorIndex := 121, attributes := #[] }, { accessFlags := 25, nameIndex := 196, descriptorIndex := 197, attributes := #[] }, { accessFlags := 25, nameIndex := 199, descriptorIndex := 197, attributes := #[] }, { accessFlags := 25, nameIndex := 201, descriptorIndex := 197, attributes := #[] }, { accessFlags := 25, nameIndex := 203, descriptorIndex := 197, attributes := #[] }, { accessFlags := 25, nameIndex := 205, descriptorIndex := 197, attributes := #[] }, { accessFlags := 25, nameIndex := 173, descriptorIndex := 174, attributes := #[] }, { accessFlags := 18, nameIndex := 120, descriptorIndex := 121, attributes := #[] }, { accessFlags := 26, nameIndex := 209, descriptorIndex := 210, attributes := #[] }])
  fields := #[{ name := "POSITIVE_INFINITY", type := .double, accessFlags := 25, slot := 0, constantValue := 0 }, { name := "NEGATIVE_INFINITY", type := .double, accessFlags := 25, slot := 1, constantValue := 0 }, { name := "NaN", type := .double, accessFlags := 25, slot := 2, constantValue := 0 }, { name := "MAX_VALUE", type := .double, accessFlags := 25, slot := 3, constantValue := 0 }, { name := "MIN_NORMAL", type := .double, accessFlags := 25, slot := 4, constantValue := 0 }, { name := "MIN_VALUE", type := .double, accessFlags := 25, slot := 5, constantValue := 0 }, { name := "SIZE", type := .int, accessFlags := 25, slot := 6, constantValue := 0 }, { name := "PRECISION", type := .int, accessFlags := 25, slot := 7, constantValue := 0 }, { name := "MAX_EXPONENT", type := .int, accessFlags := 25, slot := 8, constantValue := 0 }, { name := "MIN_EXPONENT", type := .int, accessFlags := 25, slot := 9, constantValue := 0 }, { name := "BYTES", type := .int, accessFlags := 25, slot := 10, constantValue := 0 }, { name := "TYPE", type := (.object "java/lang/Class"), accessFlags := 25, slot := 11, constantValue := 0 }, { name := "value", type := .double, accessFlags := 18, slot := 0, constantValue := 0 }, { name := "serialVersionUID", type := .long, accessFlags := 26, slot := 12, constantValue := 0 }]
  methods := #[k8m0]
  instanceTypes := #[.double]
  staticTypes := #[.double, .double, .double, .double, .double, .double, .int, .int, .int, .int, .int, (.object "java/lang/Class"), .long]
  resolved := Array.replicate 290 none
  statics := none }

def pool9 : Array CpInfo := pool [(1, .class_ 2), (0, u "java/lang/Math"), (1, .class_ 6), (1, u "java/lang/Object"), (0, u "<init>"), (0, u "()V"), (5, u "(D)D"), (83, .class_ 100), (1, u "java/lang/Math$RandomNumberGeneratorHolder"), (23, u "abs"), (47, u "negativeZeroFloatBits"), (0, u "J"), (2, u "negativeZeroDoubleBits"), (68, u "$assertionsDisabled"), (0, u "Z"), (91, u "twoToTheDoubleScaleDown"), (0, u "D"), (4, u "twoToTheDoubleScaleUp"), (9, u "E"), (3, u "PI"), (2, u "TAU"), (2, u "DEGREES_TO_RADIANS"), (0, u "RADIANS_TO_DEGREES")] 94

def k9m0 : Method := { name := "<init>", desc := "()V", sig := { parameters := [], returnType := none }, accessFlags := 2, code := none }
def k9c1 : Code := { maxStack := 4, maxLocals := 2, code := jdk_29_method_64_code, exceptionTable := #[], attributes := #[] }
def k9m1 : Method := { name := "abs", desc := "(D)D", sig := { parameters := [.double], returnType := some .double }, accessFlags := 9, code := some k9c1 }
/-- java/lang/Math -/
def k9 : Class := { plain "java/lang/Math" (some 0) with
  accessFlags := 49
  interfaces := #[]
  cf := some (fileOf pool9 1 #[.nestMembers #[98]] #[{ accessFlags := 2, nameIndex := 7, descriptorIndex := 8, attributes := #[] }, { accessFlags := 9, nameIndex := 124, descriptorIndex := 14, attributes := #[] }] 49 4 #[] #[{ accessFlags := 25, nameIndex := 354, descriptorIndex := 339, attributes := #[] }, { accessFlags := 25, nameIndex := 358, descriptorIndex := 339, attributes := #[] }, { accessFlags := 25, nameIndex := 361, descriptorIndex := 339, attributes := #[] }, { accessFlags := 26, nameIndex := 364, descriptorIndex := 339, attributes := #[] }, { accessFlags := 26, nameIndex := 365, descriptorIndex := 339, attributes := #[] }, { accessFlags := 26, nameIndex := 172, descriptorIndex := 173, attributes := #[] }, { accessFlags := 26, nameIndex := 176, descriptorIndex := 173, attributes := #[] }, { accessFlags := 8, nameIndex := 344, descriptorIndex := 339, attributes := #[] }, { accessFlags := 8, nameIndex := 338, descriptorIndex := 339, attributes := #[] }, { accessFlags := 4120, nameIndex := 245, descriptorIndex := 246, attributes := #[] }])
  fields := #[{ name := "E", type := .double, accessFlags := 25, slot := 0, constantValue := 0 }, { name := "PI", type := .double, accessFlags := 25, slot := 1, constantValue := 0 }, { name := "TAU", type := .double, accessFlags := 25, slot := 2, constantValue := 0 }, { name := "DEGREES_TO_RADIANS", type := .double, accessFlags := 26, slot := 3, constantValue := 0 }, { name := "RADIANS_TO_DEGREES", type := .double, accessFlags := 26, slot := 4, constantValue := 0 }, { name := "negativeZeroFloatBits", type := .long, accessFlags := 26, slot := 5, constantValue := 0 }, { name := "negativeZeroDoubleBits", type := .long, accessFlags := 26, slot := 6, constantValue := 0 }, { name := "twoToTheDoubleScaleUp", type := .double, accessFlags := 8, slot := 7, constantValue := 0 }, { name := "twoToTheDoubleScaleDown", type := .double, accessFlags := 8, slot := 8, constantValue := 0 }, { name := "$assertionsDisabled", type := .boolean, accessFlags := 4120, slot := 9, constantValue := 0 }]
  methods := #[k9m0, k9m1]
  instanceTypes := #[]
  staticTypes := #[.double, .double, .double, .double, .double, .long, .long, .double, .double, .boolean]
  resolved := Array.replicate 460 none
  statics := none }

def pool10 : Array CpInfo := pool [(8, .class_ 10), (1, u "com/example/selfwright/selfwright/optimiser/Ranking"), (2, .class_ 14), (0, u "java/lang/Object")] 10

/-- com/example/selfwright/selfwright/optimiser/Ranking -/
def k10 : Class := { plain "com/example/selfwright/selfwright/optimiser/Ranking" (some 0) with
  accessFlags := 1536
  interfaces := #[]
  cf := some (fileOf pool10 8 #[] #[] 1536 13 #[] #[])
  fields := #[]
  methods := #[]
  instanceTypes := #[]
  staticTypes := #[]
  resolved := Array.replicate 25 none
  statics := none }

def pool11 : Array CpInfo := pool [(1, .methodref 2 3), (0, .class_ 4), (0, .nameAndType 5 6), (0, u "java/lang/Object"), (0, u "<init>"), (0, u "()V"), (0, .methodref 8 9), (0, .class_ 10), (0, .nameAndType 11 12), (0, u "com/example/selfwright/selfwright/optimiser/Scores"), (0, u "size"), (0, u "()I"), (0, .methodref 8 14), (0, .nameAndType 15 16), (0, u "objective"), (0, u "(I)D"), (0, .fieldref 18 19), (0, .class_ 20), (0, .nameAndType 21 22), (0, u "com/example/selfwright/selfwright/optimiser/ObjectiveRanking"), (0, u "best"), (0, u "I"), (0, .class_ 24), (0, u "com/example/selfwright/selfwright/optimiser/Ranking"), (0, u "(Lcom/example/selfwright/selfwright/optimiser/Scores;)V"), (5, u "prefers"), (0, u "(Lcom/example/selfwright/selfwright/optimiser/Scores;ILcom/example/selfwright/selfwright/optimiser/Scores;I)Z")] 2

def k11c0 : Code := { maxStack := 4, maxLocals := 4, code := prog_15_method_1_code, exceptionTable := #[], attributes := #[] }
def k11m0 : Method := { name := "<init>", desc := "(Lcom/example/selfwright/selfwright/optimiser/Scores;)V", sig := { parameters := [(.object "com/example/selfwright/selfwright/optimiser/Scores")], returnType := none }, accessFlags := 0, code := some k11c0 }
def k11c1 : Code := { maxStack := 1, maxLocals := 1, code := prog_15_method_3_code, exceptionTable := #[], attributes := #[] }
def k11m1 : Method := { name := "best", desc := "()I", sig := { parameters := [], returnType := some .int }, accessFlags := 1, code := some k11c1 }
def k11c2 : Code := { maxStack := 4, maxLocals := 5, code := prog_15_method_4_code, exceptionTable := #[], attributes := #[] }
def k11m2 : Method := { name := "prefers", desc := "(Lcom/example/selfwright/selfwright/optimiser/Scores;ILcom/example/selfwright/selfwright/optimiser/Scores;I)Z", sig := { parameters := [(.object "com/example/selfwright/selfwright/optimiser/Scores"), .int, (.object "com/example/selfwright/selfwright/optimiser/Scores"), .int], returnType := some .boolean }, accessFlags := 1, code := some k11c2 }
/-- com/example/selfwright/selfwright/optimiser/ObjectiveRanking -/
def k11 : Class := { plain "com/example/selfwright/selfwright/optimiser/ObjectiveRanking" (some 0) with
  accessFlags := 48
  interfaces := #[10]
  cf := some (fileOf pool11 18 #[] #[{ accessFlags := 0, nameIndex := 5, descriptorIndex := 25, attributes := #[] }, { accessFlags := 1, nameIndex := 21, descriptorIndex := 12, attributes := #[] }, { accessFlags := 1, nameIndex := 31, descriptorIndex := 32, attributes := #[] }] 48 2 #[23] #[{ accessFlags := 18, nameIndex := 21, descriptorIndex := 22, attributes := #[] }])
  fields := #[{ name := "best", type := .int, accessFlags := 18, slot := 0, constantValue := 0 }]
  methods := #[k11m0, k11m1, k11m2]
  instanceTypes := #[.int]
  staticTypes := #[]
  resolved := Array.replicate 35 none
  statics := none }

def pool12 : Array CpInfo := pool [(1, u "java/lang/Cloneable"), (0, .class_ 1), (0, u "java/lang/Object"), (0, .class_ 3)] 3

/-- java/lang/Cloneable -/
def k12 : Class := { plain "java/lang/Cloneable" (some 0) with
  accessFlags := 1537
  interfaces := #[]
  cf := some (fileOf pool12 2 #[] #[] 1537 4 #[] #[])
  fields := #[]
  methods := #[]
  instanceTypes := #[]
  staticTypes := #[]
  resolved := Array.replicate 8 none
  statics := none }

/-- the primitive byte -/
def k13 : Class := { plain "byte" none with kind := .primitive 'B', accessFlags := 0x411 }
/-- [B -/
def k14 : Class := { plain "[B" (some 0) with kind := .array 13 .byte, interfaces := #[12, 3], accessFlags := 1041 }

/-- the primitive double -/
def k15 : Class := { plain "double" none with kind := .primitive 'D', accessFlags := 0x411 }
/-- [D -/
def k16 : Class := { plain "[D" (some 0) with kind := .array 15 .double, interfaces := #[12, 3], accessFlags := 1041 }

/-- the primitive int -/
def k17 : Class := { plain "int" none with kind := .primitive 'I', accessFlags := 0x411 }
/-- [I -/
def k18 : Class := { plain "[I" (some 0) with kind := .array 17 .int, interfaces := #[12, 3], accessFlags := 1041 }

def k19 : Class := { plain "[[D" (some 0) with kind := .array 16 (.array .double), interfaces := #[12, 3], accessFlags := 1041 }

def heap : Heap := #[]
def classes : Array Class := #[k0, k1, k2, k3, k4, k5, k6, k7, k8, k9, k10, k11, k12, k13, k14, k15, k16, k17, k18, k19]
def interned : List (Array UInt16 × Addr) := []
def slotsUsed : Nat := 0
def theMethod : MethodId := ⟨1, 2⟩
def args0 : Array Value := #[.int 5, .int 7, .int 1, .int 2]
def aboutOver (below : List Frame) : State where
  vm := { classes := classes, interned := interned.toArray }
  heap := heap
  slotsUsed := slotsUsed
  threads := #[{ frames := .invoking theMethod args0 :: below }]
def below0 : List Frame := [.native { method := ⟨0, 0⟩, args := #[] }]
def about1 : State := aboutOver below0
def p0 : Program := .bare "" "" ""
def e0 : Env := launch0.env 0 0 0
theorem w_frames : about1.frames = Frame.invoking theMethod args0 :: below0 := rfl
set_option maxRecDepth 65536 in
theorem w_args : argsFit about1.vm theMethod args0 = true := by decide +kernel
set_option maxRecDepth 65536 in
theorem w_heap : heapFits about1 = true := by decide +kernel
set_option maxRecDepth 65536 in
theorem w_runnable : about1.curStatus? = some .runnable := by decide +kernel
set_option maxRecDepth 65536 in
theorem w_alone : about1.alone = true := by decide +kernel
set_option maxRecDepth 65536 in
theorem w_named : about1.methodNamed? x = some theMethod := by decide +kernel
set_option maxRecDepth 65536 in
theorem w_hears : about1.hears theMethod below0 = true := by decide +kernel
set_option maxRecDepth 65536 in
theorem w_ripe : about1.ripe theMethod args0 below0 = true := by decide +kernel
theorem w_running : about1.status = .running := rfl
set_option maxRecDepth 65536 in
theorem w_room : about1.hasRoom e0.platform room_1 = true :=
  launch0.hasRoom_least _ room_1 (by decide +kernel) (by decide +kernel) (by decide +kernel) (by decide +kernel) (by decide +kernel) (by decide +kernel)
theorem allAtoms_all (ts : List Jvm.Cond) (a : Array Jvm.Value) (st : Jvm.State) : (allAtoms ts).before a st = ts.all (fun c => c.before a st) := by
  induction ts with
  | nil => rfl
  | cons c t ih =>
    show (Jvm.Cond.and c (allAtoms t)).before a st = _
    rw [Jvm.Cond.before_and, ih, List.all_cons]
def words1 : List Jvm.Cond := Jvm.Cond.code x code maxLocals ret :: tables_1
/-- a 'code' word, met by the world's own term for the bytes: nothing is compared byte by byte -/
theorem code_word {y : MethodName} {bytes : ByteArray} {mx : Nat} {rt : Option FieldType} {a : Array Value} {s : State} {m : MethodId} {meth : Method} {c : Code} (h1 : s.methodNamed? y = some m) (h2 : s.vm.method? m = some meth) (h3 : meth.code = some c) (h4 : c.code = bytes)
    (h5 : (c.maxLocals == mx && c.exceptionTable.isEmpty && decide (c.maxStack ≤ mostOperands) && decide (meth.sig.returnType = rt) && !meth.locks && decide (parseMethodDescriptor y.desc = some meth.sig)) = true) : (Jvm.Cond.code y bytes mx rt).before a s = true := by
  simp only [Bool.and_eq_true, beq_iff_eq, Bool.not_eq_true', decide_eq_true_eq] at h5
  obtain ⟨⟨⟨⟨⟨g1, g2⟩, g3⟩, g4⟩, g5⟩, g6⟩ := h5
  simp [Cond.before, Cond.holds, Cond.value, h1, h2, h3, h4, g1, g2, g3, g4, g5, g6]
def isCode : Jvm.Cond → Bool
  | .code _ _ _ _ => true
  | _ => false
theorem all_split {L : List Jvm.Cond} {P : Jvm.Cond → Bool} (h1 : L.all (fun c => isCode c || P c) = true) (h2 : ∀ c ∈ L.filter isCode, P c = true) : L.all P = true := by
  refine List.all_eq_true.mpr fun c hc => ?_
  have h := List.all_eq_true.mp h1 c hc
  rcases Bool.eq_false_or_eq_true (isCode c) with hi | hi
  · exact h2 c (List.mem_filter.mpr ⟨hc, hi⟩)
  · simpa [hi] using h
set_option maxRecDepth 65536 in
theorem w_c0 : (Jvm.Cond.code x code maxLocals ret).before args0 about1 = true := code_word (m := ⟨1, 2⟩) (meth := k1m2) (c := k1c2) (by decide +kernel) rfl rfl rfl (by decide +kernel)
set_option maxRecDepth 65536 in
theorem w_c1 : (Jvm.Cond.code ({ cls := "com/example/selfwright/selfwright/optimiser/Scores", name := "<init>", desc := "(II)V" } : Jvm.MethodName) prog_21_method_1_code (3 : Nat) (Option.none : Option Jvm.ClassFile.FieldType)).before args0 about1 = true := code_word (m := ⟨2, 0⟩) (meth := k2m0) (c := k2c0) (by decide +kernel) rfl rfl rfl (by decide +kernel)
set_option maxRecDepth 65536 in
theorem w_c2 : (Jvm.Cond.code ({ cls := "java/lang/Object", name := "<init>", desc := "()V" } : Jvm.MethodName) object_method_1_code (1 : Nat) (Option.none : Option Jvm.ClassFile.FieldType)).before args0 about1 = true := code_word (m := ⟨0, 0⟩) (meth := k0m0) (c := k0c0) (by decide +kernel) rfl rfl rfl (by decide +kernel)
set_option maxRecDepth 65536 in
theorem w_c3 : (Jvm.Cond.code ({ cls := "com/example/selfwright/selfwright/optimiser/Scores", name := "setFailed", desc := "(I)V" } : Jvm.MethodName) prog_21_method_11_code (2 : Nat) (Option.none : Option Jvm.ClassFile.FieldType)).before args0 about1 = true := code_word (m := ⟨2, 4⟩) (meth := k2m4) (c := k2c4) (by decide +kernel) rfl rfl rfl (by decide +kernel)
set_option maxRecDepth 65536 in
theorem w_c4 : (Jvm.Cond.code ({ cls := "com/example/selfwright/selfwright/optimiser/Scores", name := "set", desc := "(ID)V" } : Jvm.MethodName) prog_21_method_9_code (4 : Nat) (Option.none : Option Jvm.ClassFile.FieldType)).before args0 about1 = true := code_word (m := ⟨2, 3⟩) (meth := k2m3) (c := k2c3) (by decide +kernel) rfl rfl rfl (by decide +kernel)
set_option maxRecDepth 65536 in
theorem w_c5 : (Jvm.Cond.code ({ cls := "java/lang/Double", name := "isFinite", desc := "(D)Z" } : Jvm.MethodName) jdk_117_method_8_code (2 : Nat) (Option.some Jvm.ClassFile.FieldType.boolean)).before args0 about1 = true := code_word (m := ⟨8, 0⟩) (meth := k8m0) (c := k8c0) (by decide +kernel) rfl rfl rfl (by decide +kernel)
set_option maxRecDepth 65536 in
theorem w_c6 : (Jvm.Cond.code ({ cls := "java/lang/Math", name := "abs", desc := "(D)D" } : Jvm.MethodName) jdk_29_method_64_code (2 : Nat) (Option.some Jvm.ClassFile.FieldType.double)).before args0 about1 = true := code_word (m := ⟨9, 1⟩) (meth := k9m1) (c := k9c1) (by decide +kernel) rfl rfl rfl (by decide +kernel)
set_option maxRecDepth 65536 in
theorem w_c7 : (Jvm.Cond.code ({ cls := "com/example/selfwright/selfwright/optimiser/ObjectiveRanking", name := "<init>", desc := "(Lcom/example/selfwright/selfwright/optimiser/Scores;)V" } : Jvm.MethodName) prog_15_method_1_code (4 : Nat) (Option.none : Option Jvm.ClassFile.FieldType)).before args0 about1 = true := code_word (m := ⟨11, 0⟩) (meth := k11m0) (c := k11c0) (by decide +kernel) rfl rfl rfl (by decide +kernel)
set_option maxRecDepth 65536 in
theorem w_c8 : (Jvm.Cond.code ({ cls := "com/example/selfwright/selfwright/optimiser/Scores", name := "size", desc := "()I" } : Jvm.MethodName) prog_21_method_2_code (1 : Nat) (Option.some Jvm.ClassFile.FieldType.int)).before args0 about1 = true := code_word (m := ⟨2, 1⟩) (meth := k2m1) (c := k2c1) (by decide +kernel) rfl rfl rfl (by decide +kernel)
set_option maxRecDepth 65536 in
theorem w_c9 : (Jvm.Cond.code ({ cls := "com/example/selfwright/selfwright/optimiser/Scores", name := "objective", desc := "(I)D" } : Jvm.MethodName) prog_21_method_3_code (2 : Nat) (Option.some Jvm.ClassFile.FieldType.double)).before args0 about1 = true := code_word (m := ⟨2, 2⟩) (meth := k2m2) (c := k2c2) (by decide +kernel) rfl rfl rfl (by decide +kernel)
set_option maxRecDepth 65536 in
theorem w_c10 : (Jvm.Cond.code ({ cls := "com/example/selfwright/selfwright/optimiser/ObjectiveRankingPrefersPinLaw", name := "key", desc := "(IZ)J" } : Jvm.MethodName) method_2_code (2 : Nat) (Option.some Jvm.ClassFile.FieldType.long)).before args0 about1 = true := code_word (m := ⟨1, 1⟩) (meth := k1m1) (c := k1c1) (by decide +kernel) rfl rfl rfl (by decide +kernel)
set_option maxRecDepth 65536 in
theorem w_c11 : (Jvm.Cond.code ({ cls := "com/example/selfwright/selfwright/optimiser/ObjectiveRanking", name := "prefers", desc := "(Lcom/example/selfwright/selfwright/optimiser/Scores;ILcom/example/selfwright/selfwright/optimiser/Scores;I)Z" } : Jvm.MethodName) prog_15_method_4_code (5 : Nat) (Option.some Jvm.ClassFile.FieldType.boolean)).before args0 about1 = true := code_word (m := ⟨11, 2⟩) (meth := k11m2) (c := k11c2) (by decide +kernel) rfl rfl rfl (by decide +kernel)
set_option maxRecDepth 65536 in
theorem w_c12 : (Jvm.Cond.code ({ cls := "com/example/selfwright/selfwright/optimiser/ObjectiveRanking", name := "best", desc := "()I" } : Jvm.MethodName) prog_15_method_3_code (1 : Nat) (Option.some Jvm.ClassFile.FieldType.int)).before args0 about1 = true := code_word (m := ⟨11, 1⟩) (meth := k11m1) (c := k11c1) (by decide +kernel) rfl rfl rfl (by decide +kernel)
def codes1 : List Jvm.Cond := [Jvm.Cond.code x code maxLocals ret, Jvm.Cond.code ({ cls := "com/example/selfwright/selfwright/optimiser/Scores", name := "<init>", desc := "(II)V" } : Jvm.MethodName) prog_21_method_1_code (3 : Nat) (Option.none : Option Jvm.ClassFile.FieldType), Jvm.Cond.code ({ cls := "java/lang/Object", name := "<init>", desc := "()V" } : Jvm.MethodName) object_method_1_code (1 : Nat) (Option.none : Option Jvm.ClassFile.FieldType), Jvm.Cond.code ({ cls := "com/example/selfwright/selfwright/optimiser/Scores", name := "setFailed", desc := "(I)V" } : Jvm.MethodName) prog_21_method_11_code (2 : Nat) (Option.none : Option Jvm.ClassFile.FieldType), Jvm.Cond.code ({ cls := "com/example/selfwright/selfwright/optimiser/Scores", name := "set", desc := "(ID)V" } : Jvm.MethodName) prog_21_method_9_code (4 : Nat) (Option.none : Option Jvm.ClassFile.FieldType), Jvm.Cond.code ({ cls := "java/lang/Double", name := "isFinite", desc := "(D)Z" } : Jvm.MethodName) jdk_117_method_8_code (2 : Nat) (Option.some Jvm.ClassFile.FieldType.boolean), Jvm.Cond.code ({ cls := "java/lang/Math", name := "abs", desc := "(D)D" } : Jvm.MethodName) jdk_29_method_64_code (2 : Nat) (Option.some Jvm.ClassFile.FieldType.double), Jvm.Cond.code ({ cls := "com/example/selfwright/selfwright/optimiser/ObjectiveRanking", name := "<init>", desc := "(Lcom/example/selfwright/selfwright/optimiser/Scores;)V" } : Jvm.MethodName) prog_15_method_1_code (4 : Nat) (Option.none : Option Jvm.ClassFile.FieldType), Jvm.Cond.code ({ cls := "com/example/selfwright/selfwright/optimiser/Scores", name := "size", desc := "()I" } : Jvm.MethodName) prog_21_method_2_code (1 : Nat) (Option.some Jvm.ClassFile.FieldType.int), Jvm.Cond.code ({ cls := "com/example/selfwright/selfwright/optimiser/Scores", name := "objective", desc := "(I)D" } : Jvm.MethodName) prog_21_method_3_code (2 : Nat) (Option.some Jvm.ClassFile.FieldType.double), Jvm.Cond.code ({ cls := "com/example/selfwright/selfwright/optimiser/ObjectiveRankingPrefersPinLaw", name := "key", desc := "(IZ)J" } : Jvm.MethodName) method_2_code (2 : Nat) (Option.some Jvm.ClassFile.FieldType.long), Jvm.Cond.code ({ cls := "com/example/selfwright/selfwright/optimiser/ObjectiveRanking", name := "prefers", desc := "(Lcom/example/selfwright/selfwright/optimiser/Scores;ILcom/example/selfwright/selfwright/optimiser/Scores;I)Z" } : Jvm.MethodName) prog_15_method_4_code (5 : Nat) (Option.some Jvm.ClassFile.FieldType.boolean), Jvm.Cond.code ({ cls := "com/example/selfwright/selfwright/optimiser/ObjectiveRanking", name := "best", desc := "()I" } : Jvm.MethodName) prog_15_method_3_code (1 : Nat) (Option.some Jvm.ClassFile.FieldType.int)]
set_option maxRecDepth 65536 in
theorem codes_eq : words1.filter isCode = codes1 := rfl
theorem w_codes : ∀ c ∈ words1.filter isCode, c.before args0 about1 = true := by
  rw [codes_eq]
  intro c hc
  simp only [codes1, List.mem_cons, List.not_mem_nil, or_false] at hc
  rcases hc with rfl | rfl | rfl | rfl | rfl | rfl | rfl | rfl | rfl | rfl | rfl | rfl | rfl
  · exact w_c0
  · exact w_c1
  · exact w_c2
  · exact w_c3
  · exact w_c4
  · exact w_c5
  · exact w_c6
  · exact w_c7
  · exact w_c8
  · exact w_c9
  · exact w_c10
  · exact w_c11
  · exact w_c12
set_option maxRecDepth 65536 in
theorem w_t1 : (words1.take 24).all (fun c => isCode c || c.before args0 about1) = true := by decide +kernel
set_option maxRecDepth 65536 in
theorem w_t2 : ((words1.drop 24).take 24).all (fun c => isCode c || c.before args0 about1) = true := by decide +kernel
set_option maxRecDepth 65536 in
theorem w_t3 : (((words1.drop 24).drop 24).take 24).all (fun c => isCode c || c.before args0 about1) = true := by decide +kernel
set_option maxRecDepth 65536 in
theorem w_t4 : (((words1.drop 24).drop 24).drop 24).all (fun c => isCode c || c.before args0 about1) = true := by decide +kernel
theorem w_tables : (allAtoms (Jvm.Cond.code x code maxLocals ret :: tables_1)).before args0 about1 = true := by
  rw [allAtoms_all]
  show words1.all (fun c => c.before args0 about1) = true
  refine all_split ?_ w_codes
  rw [← List.take_append_drop 24 words1, List.all_append, w_t1, ← List.take_append_drop 24 (words1.drop 24), List.all_append, w_t2, ← List.take_append_drop 24 ((words1.drop 24).drop 24), List.all_append, w_t3, w_t4]
  rfl
set_option maxRecDepth 65536 in
theorem w_case : (Jvm.Cond.and given_1 narrow_1).before args0 about1 = true := by decide +kernel
theorem w_applies : (headSpec (Jvm.Cond.code x code maxLocals ret :: tables_1) room_1).applies x e0.platform about1 = true :=
  (Spec.applies_iff w_frames).mpr ⟨w_running, w_runnable, w_alone, w_named, w_hears, w_ripe, w_room, w_tables⟩
theorem atStart : AtStart classFile x code maxLocals ret World_1 tables_1 room_1 Calls_1 rest_1 Pre_1 launch0 p0 e0 about1 theMethod args0 below0 :=
  ⟨lists_1, trivial, launch0.admits_env _ _ _, launch0.least_env, fairChoices_fair.cas, fairChoices_fair.clock, w_frames, w_args, w_heap, w_applies, trivial, trivial, w_case⟩
end start1
theorem witness_1 : WitnessClaimed_1 := ⟨start1.p0, start1.e0, start1.about1, start1.theMethod, start1.args0, start1.below0, start1.atStart⟩
end Jvm.Pilot.@@N@@
