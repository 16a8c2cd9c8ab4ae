import JvmDerived
import JvmDerived.Pilot.@@N@@Statement
import JvmDerived.Pilot.@@N@@Code
set_option linter.unusedVariables false
set_option linter.unusedSimpArgs false
namespace Jvm.OwnKit
open Sem ClassFile Op Lib Jvm.Stand Jvm.Free Jvm.LawKit Jvm.RoadKit
abbrev jv (x : Int64) : Slot := .val (.long x)
abbrev dv (x : UInt64) : Slot := .val (.double x)
abbrev nv : Slot := .val .null
abbrev un : Slot := .unset
abbrev sd : Slot := .second
theorem wd {ws : List Jvm.Cond} {a0 : Array Value} {Z : State} (hw : ∀ d ∈ ws, d.before a0 Z = true) (i : Nat) {d : Jvm.Cond} (h : ws[i]? = some d) : d.before a0 Z = true := hw _ (List.mem_of_getElem? h)
/-! ## the walk, backwards: from S the run comes to an end that K speaks of -/
def Wlk (tb : Tables) (e : Env) (below : List Frame) (S : State) (K : State → Outcome → Prop) : Prop := ∃ s₂ o, Steps tb e below S s₂ ∧ K s₂ o
section Wlks
variable {tb : Tables} {e : Env} {below : List Frame} {S S' : State} {K : State → Outcome → Prop}
theorem Wlk.of (f : ∀ t, Steps tb e below S' t → Steps tb e below S t) (h : Wlk tb e below S' K) : Wlk tb e below S K := by
  obtain ⟨t, o, h1, h2⟩ := h; exact ⟨t, o, f t h1, h2⟩
end Wlks
/-! ## a body's contract -/
def Ctr (l : Launch) (Z : State) (h0 : Heap) (y : MethodName) (bytes : ByteArray) (maxL : Nat) (ret : Option FieldType) (ws : List Jvm.Cond) (rm : Room) (as' : Array Value) (Q : Option Value → Heap → List Loc → Prop) : Prop :=
  MetFree l y (head1 (Jvm.Cond.code y bytes maxL ret :: ws) rm) (fun a U => a = as' ∧ Z.Warmed39 U.vm ∧ U.heap = h0) (fun _ _ _ _ _ => True) (fun _ U o U' => ∃ v L, o = .returned v ∧ Q v U'.heap L ∧ FrameEnd U o U' L rm.cells rm.slots)
/-- what the end of a body's walk must show -/
def Fin (p : Program) (l : Launch) (e : Env) (rm : Room) (s : State) (m : MethodId) (as' : Array Value) (below : List Frame) (meth : Method) (c : Code) (ret : Option FieldType) (Q : Option Value → Heap → List Loc → Prop) (K : State → Outcome → Prop) : Prop :=
  ∀ {T : State} {locs : List Loc} {cells slots : Nat} {F : JFrame} (v : Option Value), Stand p l e rm s m as' below meth c T locs cells slots → (ret = none → v = none) →
    (∀ fs, (∀ (f : JFrame) (acts : List Action), f.method = m → f.locked = none → f.entered = [] → (doReturn e (T.setTop f) acts v).1 = T.setFrames fs) → Steps p.tables e below (T.setTop F) (T.setFrames fs)) →
    Q v T.heap locs → cells ≤ rm.cells → slots ≤ rm.slots → Wlk p.tables e below (T.setTop F) K
theorem Ctr.make {l : Launch} {Z : State} {h0 : Heap} {y : MethodName} {bytes : ByteArray} {maxL : Nat} {ret : Option FieldType} {ws : List Jvm.Cond} {rm : Room} {as' : Array Value} {Q : Option Value → Heap → List Loc → Prop} (hpn : plainFor y = true)
    (H : ∀ (p : Program) (e : Env) (s : State) (m : MethodId) (below : List Frame) (meth : Method) (c : Code) (s₁ : State) (K : State → Outcome → Prop), meth.sig.returnType = ret → c.maxLocals = maxL → p.tables.exec = Jvm.exec → c.code = bytes → s.vm.findClass y.cls = some m.cls → meth.name = y.name → Z.Warmed39 s.vm →
      Stand p l e rm s m as' below meth c s₁ [] 0 0 → s₁.heap = h0 → Fin p l e rm s m as' below meth c ret Q K → Wlk p.tables e below (s₁.setTop (entryFrame m as' maxL)) K) : Ctr l Z h0 y bytes maxL ret ws rm as' Q := by
  refine MetFree.of_bodySF hpn hisR ?_
  intro p e s m args below meth c s₁ Bd hml hP hK
  obtain ⟨rfl, hZ, hh⟩ := hP
  refine H p e s m below meth c s₁ (fun s₂ o => s₂.status = .running ∧ Ended s₂ below o ∧ ∃ v L, o = .returned v ∧ Q v s₂.heap L ∧ FrameEnd s o s₂ L rm.cells rm.slots) Bd.returns hml Bd.exec Bd.bytes (findClass_of_methodNamed Bd.named) (name_of_methodNamed Bd.named Bd.method).1 hZ (Stand.of_body Bd) (by rw [← hh, Bd.state]; rfl) ?_
  intro T locs cells slots F v X hv hst hq hc hs
  obtain ⟨fs, hr, hrun, hended, hW, hsame⟩ := X.leave (v := v) (fun h => hv (Bd.returns ▸ h)) Bd.notSynchronized
  exact ⟨_, _, hst fs hr, hrun, hended, v, locs, rfl, hq, ⟨_, rfl⟩, hW, hsame.mono hc hs⟩
section Calls
variable {p : Program} {l : Launch} {e : Env} {R : Room} {s : State} {m : MethodId} {args : Array Value} {below : List Frame} {meth : Method} {c : Code} {T : State} {locs : List Loc} {cells slots : Nat} {Z : State} {a0 : Array Value} {h : Heap}
variable {y z : MethodName} {bytes : ByteArray} {maxL : Nat} {ret : Option FieldType} {rm : Room} {as' : Array Value} {Q : Option Value → Heap → List Loc → Prop}
theorem Ctr.static (M : Ctr l Z h y bytes maxL ret [] rm as' Q) (X : Stand p l e R s m args below meth c T locs cells slots) (hx : p.tables.exec = Jvm.exec) (hZ : Z.Warmed39 s.vm) (eT : T.heap = h) {own : String} {index : Nat} (hown : s.vm.findClass own = some m.cls)
    (wl : (Jvm.Cond.methodLink own index y).before a0 Z = true) (wt : (Jvm.Cond.static y).before a0 Z = true) (wi : (Jvm.Cond.initialized y.cls).before a0 Z = true) (wc : (Jvm.Cond.code y bytes maxL ret).before a0 Z = true) (hy : y.cls ≠ "java/lang/invoke/MethodHandle" ∧ y.cls ≠ "java/lang/invoke/VarHandle")
    {ps : List FieldType} {rt : Option FieldType} (hpd : parseMethodDescriptor y.desc = some ⟨ps, rt⟩) {g : JFrame} (hg : g.method = m) (hsize : g.locals.size = c.maxLocals) {argsL rest : List Value} (ha : argsL.toArray = as') (hlen : argsL.length = ps.length) (hstack : g.stack = argsL.reverse ++ rest)
    {W : Nat} (hW : 2 * g.monitorRoom + (rest.map fun v => v.category).sum ≤ W) (hf : rm.frames + 1 ≤ R.frames) (hl : W + (maxL + 11) + rm.locals ≤ R.locals) (hd : decode c.code g.pc = .ok (.invokestatic index, 3)) (hc : cells + rm.cells ≤ R.cells) (hs : slots + rm.slots ≤ R.slots) :
    ∃ (v : Option Value) (T' : State) (L : List Loc), Stand p l e R s m args below meth c T' (locs ++ L) (cells + rm.cells) (slots + rm.slots) ∧ Q v T'.heap L ∧ ∀ target, Steps p.tables e below (T'.setTop { g with pc := g.pc + 3, stack := v.toList ++ rest }) target → Steps p.tables e below (T.setTop g) target := by
  obtain ⟨v, _, ⟨T', L, k, n⟩, -, X', ⟨Lc, hQ, l1, y1, z1⟩, st⟩ := Jvm.LawKit.callS X hx hown (mvT hZ wl) (mvT hZ wt) (mvT hZ wi) (mvT hZ wc) hy (backOf (W := W) M hZ wc wi hf hl) hg hsize (argsL := argsL) (rest := rest) (lenOf hpd hlen) hstack hW hd (fun _ _ => ⟨ha, eT, hc, hs⟩)
  dsimp only [Pt.U, Pt.locs, Pt.cells, Pt.slots] at X' l1 y1 z1 st hQ
  subst l1 y1 z1
  exact ⟨v, T', Lc, X', hQ, st⟩
theorem Ctr.special (M : Ctr l Z h y bytes maxL none [] rm as' Q) (X : Stand p l e R s m args below meth c T locs cells slots) (hx : p.tables.exec = Jvm.exec) (hZ : Z.Warmed39 s.vm) (eT : T.heap = h) {own : String} {index : Nat} (hown : s.vm.findClass own = some m.cls) (hy1 : y.name = "<init>")
    (wl : (Jvm.Cond.methodLink own index y).before a0 Z = true) (wt : (Jvm.Cond.instanceMethod y).before a0 Z = true) (wi : (Jvm.Cond.initialized y.cls).before a0 Z = true) (wc : (Jvm.Cond.code y bytes maxL none).before a0 Z = true) (hy : y.cls ≠ "java/lang/invoke/MethodHandle" ∧ y.cls ≠ "java/lang/invoke/VarHandle")
    {ps : List FieldType} {rt : Option FieldType} (hpd : parseMethodDescriptor y.desc = some ⟨ps, rt⟩) {g : JFrame} (hg : g.method = m) (hsize : g.locals.size = c.maxLocals) {a : Addr} {argsL rest : List Value} (ha : (.ref a :: argsL).toArray = as') (hlen : argsL.length = ps.length) (hstack : g.stack = argsL.reverse ++ .ref a :: rest)
    {W : Nat} (hW : 2 * g.monitorRoom + (rest.map fun v => v.category).sum ≤ W) (hf : rm.frames + 1 ≤ R.frames) (hl : W + (maxL + 11) + rm.locals ≤ R.locals) (hd : decode c.code g.pc = .ok (.invokespecial index, 3)) (hc : cells + rm.cells ≤ R.cells) (hs : slots + rm.slots ≤ R.slots) :
    ∃ (v : Option Value) (T' : State) (L : List Loc), Stand p l e R s m args below meth c T' (locs ++ L) (cells + rm.cells) (slots + rm.slots) ∧ Q v T'.heap L ∧ ∀ target, Steps p.tables e below (T'.setTop { g with pc := g.pc + 3, stack := v.toList ++ rest }) target → Steps p.tables e below (T.setTop g) target := by
  obtain ⟨v, _, ⟨T', L, k, n⟩, -, X', ⟨Lc, hQ, l1, y1, z1⟩, st⟩ := X.specialBack hx hy1 hown (mvT hZ wl) (mvT hZ wt) (mvT hZ wc) hy (backOf (W := W) M hZ wc wi hf hl) hg hsize (Steps.refl _) (a := a) (argsL := argsL) (rest := rest) (lenOf hpd hlen) hstack hW hd (fun _ _ => ⟨ha, eT, hc, hs⟩)
  dsimp only [Pt.U, Pt.locs, Pt.cells, Pt.slots] at X' l1 y1 z1 st hQ
  subst l1 y1 z1
  exact ⟨v, T', Lc, X', hQ, fun target k => st.trans k⟩
theorem Ctr.virtual (M : Ctr l Z h z bytes maxL ret [] rm as' Q) (X : Stand p l e R s m args below meth c T locs cells slots) (hx : p.tables.exec = Jvm.exec) (hZ : Z.Warmed39 s.vm) (eT : T.heap = h) {own C : String} {index : Nat} (hown : s.vm.findClass own = some m.cls)
    (wl : (Jvm.Cond.methodLink own index y).before a0 Z = true) (wd : (Jvm.Cond.declares y).before a0 Z = true) (hnf : NotFace s y) (wsel : (Jvm.Cond.selects C y z).before a0 Z = true) (wt : (Jvm.Cond.instanceMethod z).before a0 Z = true) (wi : (Jvm.Cond.initialized z.cls).before a0 Z = true) (wc : (Jvm.Cond.code z bytes maxL ret).before a0 Z = true) (hy : y.cls ≠ "java/lang/invoke/MethodHandle" ∧ y.cls ≠ "java/lang/invoke/VarHandle")
    {a : Addr} (E : Exa Z h a C) {ps : List FieldType} {rt : Option FieldType} (hpd : parseMethodDescriptor y.desc = some ⟨ps, rt⟩) {g : JFrame} (hg : g.method = m) (hsize : g.locals.size = c.maxLocals) {argsL rest : List Value} (ha : (.ref a :: argsL).toArray = as') (hlen : argsL.length = ps.length) (hstack : g.stack = argsL.reverse ++ .ref a :: rest)
    {W : Nat} (hW : 2 * g.monitorRoom + (rest.map fun v => v.category).sum ≤ W) (hf : rm.frames + 1 ≤ R.frames) (hl : W + (maxL + 11) + rm.locals ≤ R.locals) (hd : decode c.code g.pc = .ok (.invokevirtual index, 3)) (hc : cells + rm.cells ≤ R.cells) (hs : slots + rm.slots ≤ R.slots) :
    ∃ (v : Option Value) (T' : State) (L : List Loc), Stand p l e R s m args below meth c T' (locs ++ L) (cells + rm.cells) (slots + rm.slots) ∧ Q v T'.heap L ∧ ∀ target, Steps p.tables e below (T'.setTop { g with pc := g.pc + 3, stack := v.toList ++ rest }) target → Steps p.tables e below (T.setTop g) target := by
  obtain ⟨cq, kq, qa, qb, qc⟩ := isOf hZ eT E
  obtain ⟨v, _, ⟨T', L, k, n⟩, -, X', ⟨Lc, hQ, l1, y1, z1⟩, st⟩ := X.virtualBack hx hown (mvT hZ wl) (mvT hZ wd) hnf (mvT hZ wsel) (mvT hZ wt) hy (backOf (W := W) M hZ wc wi hf hl) qa qc hg hsize (Steps.refl _) (argsL := argsL) (rest := rest) (lenOf hpd hlen) hstack hW hd (fun _ _ => ⟨ha, eT, hc, hs⟩)
  dsimp only [Pt.U, Pt.locs, Pt.cells, Pt.slots] at X' l1 y1 z1 st hQ
  subst l1 y1 z1
  exact ⟨v, T', Lc, X', hQ, fun target k => st.trans k⟩
theorem Ctr.priv (M : Ctr l Z h y bytes maxL ret [] rm as' Q) (X : Stand p l e R s m args below meth c T locs cells slots) (hx : p.tables.exec = Jvm.exec) (hZ : Z.Warmed39 s.vm) (eT : T.heap = h) {own : String} {index n : Nat} (hown : s.vm.findClass own = some m.cls)
    (wl : (Jvm.Cond.methodLink own index y).before a0 Z = true) (wt : (Jvm.Cond.instanceMethod y).before a0 Z = true) (wp : (Jvm.Cond.privateMethod y).before a0 Z = true) (win : (Jvm.Cond.instantiable y.cls n).before a0 Z = true) (wi : (Jvm.Cond.initialized y.cls).before a0 Z = true) (wc : (Jvm.Cond.code y bytes maxL ret).before a0 Z = true) (hy : y.cls ≠ "java/lang/invoke/MethodHandle" ∧ y.cls ≠ "java/lang/invoke/VarHandle")
    {C : String} {a : Addr} (E : Exa Z h a C) {ps : List FieldType} {rt : Option FieldType} (hpd : parseMethodDescriptor y.desc = some ⟨ps, rt⟩) {g : JFrame} (hg : g.method = m) (hsize : g.locals.size = c.maxLocals) {argsL rest : List Value} (ha : (.ref a :: argsL).toArray = as') (hlen : argsL.length = ps.length) (hstack : g.stack = argsL.reverse ++ .ref a :: rest)
    {W : Nat} (hW : 2 * g.monitorRoom + (rest.map fun v => v.category).sum ≤ W) (hf : rm.frames + 1 ≤ R.frames) (hl : W + (maxL + 11) + rm.locals ≤ R.locals) (hd : decode c.code g.pc = .ok (.invokevirtual index, 3)) (hc : cells + rm.cells ≤ R.cells) (hs : slots + rm.slots ≤ R.slots) :
    ∃ (v : Option Value) (T' : State) (L : List Loc), Stand p l e R s m args below meth c T' (locs ++ L) (cells + rm.cells) (slots + rm.slots) ∧ Q v T'.heap L ∧ ∀ target, Steps p.tables e below (T'.setTop { g with pc := g.pc + 3, stack := v.toList ++ rest }) target → Steps p.tables e below (T.setTop g) target := by
  obtain ⟨cq, q, q'⟩ := E.cell
  obtain ⟨ck, k, i1, i2, i3, i4, -⟩ := Cond.instantiable_spec (mvT (args := args) hZ win)
  have hni : k.isInterface = false := by cases hk : k.isInterface <;> simp [hk] at i4 ⊢
  have hpr := Cond.privateMethod_at (mvP (args := args) hZ wp)
  obtain ⟨v, _, ⟨T', L, k, n⟩, -, X', ⟨Lc, hQ, l1, y1, z1⟩, st⟩ := X.privateBack hx hown (mvT hZ wl) (mvT hZ wt) (selects_self_of_private i1 i2 hni hpr (mvT hZ wt) hy) hpr (mvT hZ wc) hy (backOf (W := W) M hZ wc wi hf hl) hg hsize (Steps.refl _) (a := a) (by rw [eT]; exact q) q' (argsL := argsL) (rest := rest) (lenOf hpd hlen) hstack hW hd (fun _ _ => ⟨ha, eT, hc, hs⟩)
  dsimp only [Pt.U, Pt.locs, Pt.cells, Pt.slots] at X' l1 y1 z1 st hQ
  subst l1 y1 z1
  exact ⟨v, T', Lc, X', hQ, fun target k => st.trans k⟩
/-- a static call that a payer of the library answers, and that leaves all as it was -/
theorem paidS (X : Stand p l e R s m args below meth c T locs cells slots) (hx : p.tables.exec = Jvm.exec) (hZ : Z.Warmed39 s.vm) (eT : T.heap = h) {own : String} {index : Nat} (hown : s.vm.findClass own = some m.cls)
    (wl : (Jvm.Cond.methodLink own index y).before a0 Z = true) (wt : (Jvm.Cond.static y).before a0 Z = true) (wi : (Jvm.Cond.initialized y.cls).before a0 Z = true) (wc : (Jvm.Cond.code y bytes maxL ret).before a0 Z = true) (hy : y.cls ≠ "java/lang/invoke/MethodHandle" ∧ y.cls ≠ "java/lang/invoke/VarHandle")
    {W : Nat} {Pre : Pt → Array Value → Prop} {Post : Pt → Array Value → Option Value → Pt → Prop} (hK : Back l R p e below s args y 3 W Pre Post)
    {ps : List FieldType} {rt : Option FieldType} (hpd : parseMethodDescriptor y.desc = some ⟨ps, rt⟩) {g : JFrame} (hg : g.method = m) (hsize : g.locals.size = c.maxLocals) {argsL rest : List Value} (hlen : argsL.length = ps.length) (hstack : g.stack = argsL.reverse ++ rest)
    (hW : 2 * g.monitorRoom + (rest.map fun v => v.category).sum ≤ W) (hd : decode c.code g.pc = .ok (.invokestatic index, 3)) (hpre : ∀ U : State, U.heap = h → Pre ⟨U, locs, cells, slots⟩ argsL.toArray) {val : Value} (hpost : ∀ A v B, Post A argsL.toArray v B → v = some val ∧ pureAt A B) :
    ∃ T', Stand p l e R s m args below meth c T' locs cells slots ∧ T'.heap = h ∧ ∀ target, Steps p.tables e below (T'.setTop { g with pc := g.pc + 3, stack := val :: rest }) target → Steps p.tables e below (T.setTop g) target := by
  obtain ⟨v, vm1, ⟨T', L, k, n⟩, -, X', hP, st⟩ := Jvm.LawKit.callS X hx hown (mvT hZ wl) (mvT hZ wt) (mvT hZ wi) (mvT hZ wc) hy hK hg hsize (argsL := argsL) (rest := rest) (lenOf hpd hlen) hstack hW hd (fun vm1 _ => hpre _ eT)
  obtain ⟨rfl, q1, q2, q3, q4⟩ := hpost _ _ _ hP
  dsimp only [Pt.U, Pt.locs, Pt.cells, Pt.slots] at X' q1 q2 q3 q4 st
  subst q2 q3 q4
  exact ⟨T', X', by rw [q1]; exact eT, st⟩
end Calls
/-! ## an array by the list of what it holds -/
def Arl (Z : State) (h : Heap) (a : Addr) (ty : FieldType) (vs : List Value) : Prop := ∃ c : Cell, Arr Z h a c ty ∧ c.slots.toList = vs ∧ vs.length < 2 ^ 31
section Arls
variable {p : Program} {l : Launch} {e : Env} {R : Room} {s : State} {m : MethodId} {args : Array Value} {below : List Frame} {meth : Method} {c : Code} {T : State} {locs : List Loc} {cells slots : Nat} {Z : State} {a0 : Array Value} {h h' h0 : Heap}
variable {a b : Addr} {ty : FieldType} {vs : List Value} {v : Value} {sl : Nat} {ws : List Addr}
theorem Arl.lt (F : Arl Z h a ty vs) : a < h.size := by obtain ⟨c, A, -⟩ := F; exact A.lt
theorem Arl.ext (F : Arl Z h a ty vs) (E : Ext h h') : Arl Z h' a ty vs := by obtain ⟨c, A, r⟩ := F; exact ⟨c, A.ext E, r⟩
theorem Arl.other (F : Arl Z h b ty vs) (W : Wr h h' a sl v) (q : b ≠ a) : Arl Z h' b ty vs := by obtain ⟨c, A, r⟩ := F; exact ⟨c, A.other W q, r⟩
theorem Arl.keep (F : Arl Z h a ty vs) (K : Keep h h' ws) (q : a ∉ ws) : Arl Z h' a ty vs := by obtain ⟨c, A, r⟩ := F; exact ⟨c, ⟨K.2.1 a c A.1 q, A.2⟩, r⟩
theorem Arl.wr (F : Arl Z h a ty vs) (W : Wr h h' a sl v) : Arl Z h' a ty (vs.set sl v) := by
  obtain ⟨c, A, e, q⟩ := F
  exact ⟨c.setSlot sl v, A.same W, by rw [← e]; simp [Cell.setSlot], by simpa using q⟩
theorem Arl.inb {c : Cell} {j : Int32} {i : Nat} (e : c.slots.toList = vs) (hj : j.toNatClampNeg = i) (h0 : ¬ j < 0) (hi : i < vs.length) : ¬ (j < 0 ∨ c.slots.size ≤ j.toNatClampNeg) := by
  subst hj e
  rintro (q | q)
  · exact h0 q
  · simp at hi; omega
theorem Arl.at {c : Cell} {j : Int32} {i : Nat} (e : c.slots.toList = vs) (hj : j.toNatClampNeg = i) (hv : vs[i]? = some v) : c.slots[j.toNatClampNeg]? = some v := by
  subst hj e; simpa using hv
theorem some_lt {i : Nat} (hv : vs[i]? = some v) : i < vs.length := (List.getElem?_eq_some_iff.mp hv).1
theorem newL (X : Stand p l e R s m args below meth c T locs cells slots) (hx : p.tables.exec = Jvm.exec) (hZ : Z.Warmed39 s.vm) {aty : ArrayType} (w : (Jvm.Cond.arrayClass (newarray.typeOf aty)).before a0 Z = true) (eT : T.heap = h) {g : JFrame} (hg : g.method = m) (hd : decode c.code g.pc = .ok (.newarray aty, 2)) {n : Int32} {rest : List Value} (hs : g.stack = .int n :: rest)
    (hn : ¬ n < 0) {cap : Nat} (hcap : n.toNatClampNeg = cap) (hb : cap * 8 ≤ 536870912) (hc : cells + 1 ≤ R.cells) (hl : slots + cap ≤ R.slots) :
    ∃ T' h', Stand p l e R s m args below meth c T' locs (cells + 1) (slots + cap) ∧ T'.heap = h' ∧ Ext h h' ∧ Arl Z h' h.size (newarray.typeOf aty) (List.replicate cap (defaultValue (newarray.typeOf aty))) ∧
      ∀ target, Steps p.tables e below (T'.setTop { g with pc := g.pc + 2, stack := .ref h.size :: rest }) target → Steps p.tables e below (T.setTop g) target := by
  obtain ⟨T', h', cA, X', e', E, A, st⟩ := newP X hx hZ w eT hg hd hs hn (cap := cap) (Nat.le_of_eq hcap) hb hc hl
  refine ⟨T', h', X', e', E, ⟨_, A, by simp [newA, hcap], ?_⟩, st⟩
  have := (back32 hn).2
  rw [List.length_replicate]; omega
theorem lenL (X : Stand p l e R s m args below meth c T locs cells slots) (hx : p.tables.exec = Jvm.exec) (hZ : Z.Warmed39 s.vm) (eT : T.heap = h) (F : Arl Z h a ty vs) {n : Int32} (hn : vs.length.toInt32 = n) {g : JFrame} (hg : g.method = m) {rest : List Value} (hs : g.stack = .ref a :: rest) (hd : decode c.code g.pc = .ok (.arraylength, 1)) (target : State)
    (k : Steps p.tables e below (T.setTop { g with pc := g.pc + 1, stack := .int n :: rest }) target) : Steps p.tables e below (T.setTop g) target := by
  obtain ⟨cl, A, e1, q⟩ := F
  have q2 : cl.slots.size.toInt32 = n := by rw [← hn, ← e1]; simp
  exact X.arraylength hx (by rw [eT]; exact A.1) (State.isArrayOf_alike hZ.alike A.2.1) hg hs hd target (by rw [q2]; exact k)
theorem ldD (X : Stand p l e R s m args below meth c T locs cells slots) (hx : p.tables.exec = Jvm.exec) (hZ : Z.Warmed39 s.vm) (eT : T.heap = h) (F : Arl Z h a .double vs) {j : Int32} {i : Nat} (hj : j.toNatClampNeg = i) (h0 : ¬ j < 0) (hv : vs[i]? = some v) {g : JFrame} (hg : g.method = m) {rest : List Value} (hs : g.stack = .int j :: .ref a :: rest) (hd : decode c.code g.pc = .ok (.daload, 1)) (target : State)
    (k : Steps p.tables e below (T.setTop { g with pc := g.pc + 1, stack := v :: rest }) target) : Steps p.tables e below (T.setTop g) target := by
  obtain ⟨cl, A, e1, q⟩ := F
  exact X.daload hx (by rw [eT]; exact A.1) (State.isArrayOf_alike hZ.alike A.2.1) A.2.2 (Arl.inb e1 hj h0 (some_lt hv)) (Arl.at e1 hj hv) hg hs hd target k
theorem ldI (X : Stand p l e R s m args below meth c T locs cells slots) (hx : p.tables.exec = Jvm.exec) (hZ : Z.Warmed39 s.vm) (eT : T.heap = h) (F : Arl Z h a .int vs) {j : Int32} {i : Nat} (hj : j.toNatClampNeg = i) (h0 : ¬ j < 0) (hv : vs[i]? = some v) {g : JFrame} (hg : g.method = m) {rest : List Value} (hs : g.stack = .int j :: .ref a :: rest) (hd : decode c.code g.pc = .ok (.iaload, 1)) (target : State)
    (k : Steps p.tables e below (T.setTop { g with pc := g.pc + 1, stack := v :: rest }) target) : Steps p.tables e below (T.setTop g) target := by
  obtain ⟨cl, A, e1, q⟩ := F
  exact X.iaload hx (by rw [eT]; exact A.1) (State.isArrayOf_alike hZ.alike A.2.1) A.2.2 (Arl.inb e1 hj h0 (some_lt hv)) (Arl.at e1 hj hv) hg hs hd target k
theorem ldJ (X : Stand p l e R s m args below meth c T locs cells slots) (hx : p.tables.exec = Jvm.exec) (hZ : Z.Warmed39 s.vm) (eT : T.heap = h) (F : Arl Z h a .long vs) {j : Int32} {i : Nat} (hj : j.toNatClampNeg = i) (h0 : ¬ j < 0) (hv : vs[i]? = some v) {g : JFrame} (hg : g.method = m) {rest : List Value} (hs : g.stack = .int j :: .ref a :: rest) (hd : decode c.code g.pc = .ok (.laload, 1)) (target : State)
    (k : Steps p.tables e below (T.setTop { g with pc := g.pc + 1, stack := v :: rest }) target) : Steps p.tables e below (T.setTop g) target := by
  obtain ⟨cl, A, e1, q⟩ := F
  exact X.laload hx (by rw [eT]; exact A.1) (State.isArrayOf_alike hZ.alike A.2.1) A.2.2 (Arl.inb e1 hj h0 (some_lt hv)) (Arl.at e1 hj hv) hg hs hd target k
theorem ldZ (X : Stand p l e R s m args below meth c T locs cells slots) (hx : p.tables.exec = Jvm.exec) (hZ : Z.Warmed39 s.vm) (eT : T.heap = h) (F : Arl Z h a .boolean vs) {j : Int32} {i : Nat} (hj : j.toNatClampNeg = i) (h0 : ¬ j < 0) (hv : vs[i]? = some v) {g : JFrame} (hg : g.method = m) {rest : List Value} (hs : g.stack = .int j :: .ref a :: rest) (hd : decode c.code g.pc = .ok (.baload, 1)) (target : State)
    (k : Steps p.tables e below (T.setTop { g with pc := g.pc + 1, stack := v :: rest }) target) : Steps p.tables e below (T.setTop g) target := by
  obtain ⟨cl, A, e1, q⟩ := F
  exact X.baloadBooleans hx (by rw [eT]; exact A.1) (State.isArrayOf_alike hZ.alike A.2.1) A.2.2 (Arl.inb e1 hj h0 (some_lt hv)) (Arl.at e1 hj hv) hg hs hd target k
theorem ldR (X : Stand p l e R s m args below meth c T locs cells slots) (hx : p.tables.exec = Jvm.exec) (hZ : Z.Warmed39 s.vm) (eT : T.heap = h) (F : Arl Z h a ty vs) (hty : ty.isReference = true) {j : Int32} {i : Nat} (hj : j.toNatClampNeg = i) (h0 : ¬ j < 0) (hv : vs[i]? = some v) {g : JFrame} (hg : g.method = m) {rest : List Value} (hs : g.stack = .int j :: .ref a :: rest) (hd : decode c.code g.pc = .ok (.aaload, 1)) (target : State)
    (k : Steps p.tables e below (T.setTop { g with pc := g.pc + 1, stack := v :: rest }) target) : Steps p.tables e below (T.setTop g) target := by
  obtain ⟨cl, A, e1, q⟩ := F
  exact X.aaload hx (by rw [eT]; exact A.1) (State.isArrayOf_alike hZ.alike A.2.1) hty A.2.2 (Arl.inb e1 hj h0 (some_lt hv)) (Arl.at e1 hj hv) hg hs hd target k
theorem stDl (X : Stand p l e R s m args below meth c T locs cells slots) (hx : p.tables.exec = Jvm.exec) (hZ : Z.Warmed39 s.vm) (eT : T.heap = h) (F : Arl Z h a .double vs) {j : Int32} {i : Nat} {x : UInt64} (hj : j.toNatClampNeg = i) (h0 : ¬ j < 0) (hi : i < vs.length) {g : JFrame} (hg : g.method = m) {rest : List Value} (hs : g.stack = .double x :: .int j :: .ref a :: rest) (hd : decode c.code g.pc = .ok (.dastore, 1)) :
    ∃ T' h', Stand p l e R s m args below meth c T' (locs ++ [⟨a, i⟩]) cells slots ∧ T'.heap = h' ∧ Wr h h' a i (.double x) ∧ Arl Z h' a .double (vs.set i (.double x)) ∧ ∀ target, Steps p.tables e below (T'.setTop { g with pc := g.pc + 1, stack := rest }) target → Steps p.tables e below (T.setTop g) target := by
  have F0 := F
  obtain ⟨cl, A, e1, q⟩ := F
  obtain ⟨T', h', X', e', W, st⟩ := stD X hx hZ eT A (Arl.inb e1 hj h0 hi) hg hs hd
  subst hj
  exact ⟨T', h', X', e', W, F0.wr W, st⟩
theorem stIl (X : Stand p l e R s m args below meth c T locs cells slots) (hx : p.tables.exec = Jvm.exec) (hZ : Z.Warmed39 s.vm) (eT : T.heap = h) (F : Arl Z h a .int vs) {j : Int32} {i : Nat} {x : Int32} (hj : j.toNatClampNeg = i) (h0 : ¬ j < 0) (hi : i < vs.length) {g : JFrame} (hg : g.method = m) {rest : List Value} (hs : g.stack = .int x :: .int j :: .ref a :: rest) (hd : decode c.code g.pc = .ok (.iastore, 1)) :
    ∃ T' h', Stand p l e R s m args below meth c T' (locs ++ [⟨a, i⟩]) cells slots ∧ T'.heap = h' ∧ Wr h h' a i (.int x) ∧ Arl Z h' a .int (vs.set i (.int x)) ∧ ∀ target, Steps p.tables e below (T'.setTop { g with pc := g.pc + 1, stack := rest }) target → Steps p.tables e below (T.setTop g) target := by
  have F0 := F
  obtain ⟨cl, A, e1, q⟩ := F
  obtain ⟨T', h', X', e', W, st⟩ := stI X hx hZ eT A (Arl.inb e1 hj h0 hi) hg hs hd
  subst hj
  exact ⟨T', h', X', e', W, F0.wr W, st⟩
theorem stJl (X : Stand p l e R s m args below meth c T locs cells slots) (hx : p.tables.exec = Jvm.exec) (hZ : Z.Warmed39 s.vm) (eT : T.heap = h) (F : Arl Z h a .long vs) {j : Int32} {i : Nat} {x : Int64} (hj : j.toNatClampNeg = i) (h0 : ¬ j < 0) (hi : i < vs.length) {g : JFrame} (hg : g.method = m) {rest : List Value} (hs : g.stack = .long x :: .int j :: .ref a :: rest) (hd : decode c.code g.pc = .ok (.lastore, 1)) :
    ∃ T' h', Stand p l e R s m args below meth c T' (locs ++ [⟨a, i⟩]) cells slots ∧ T'.heap = h' ∧ Wr h h' a i (.long x) ∧ Arl Z h' a .long (vs.set i (.long x)) ∧ ∀ target, Steps p.tables e below (T'.setTop { g with pc := g.pc + 1, stack := rest }) target → Steps p.tables e below (T.setTop g) target := by
  have F0 := F
  obtain ⟨cl, A, e1, q⟩ := F
  obtain ⟨T', h', X', e', W, st⟩ := stJ X hx hZ eT A (Arl.inb e1 hj h0 hi) hg hs hd
  subst hj
  exact ⟨T', h', X', e', W, F0.wr W, st⟩
theorem stZl (X : Stand p l e R s m args below meth c T locs cells slots) (hx : p.tables.exec = Jvm.exec) (hZ : Z.Warmed39 s.vm) (eT : T.heap = h) (F : Arl Z h a .boolean vs) {j : Int32} {i : Nat} {x : Int32} (hn : nar .boolean x = x) (hj : j.toNatClampNeg = i) (h0 : ¬ j < 0) (hi : i < vs.length) {g : JFrame} (hg : g.method = m) {rest : List Value} (hs : g.stack = .int x :: .int j :: .ref a :: rest) (hd : decode c.code g.pc = .ok (.bastore, 1)) :
    ∃ T' h', Stand p l e R s m args below meth c T' (locs ++ [⟨a, i⟩]) cells slots ∧ T'.heap = h' ∧ Wr h h' a i (.int x) ∧ Arl Z h' a .boolean (vs.set i (.int x)) ∧ ∀ target, Steps p.tables e below (T'.setTop { g with pc := g.pc + 1, stack := rest }) target → Steps p.tables e below (T.setTop g) target := by
  have F0 := F
  obtain ⟨cl, A, e1, q⟩ := F
  obtain ⟨T', h', X', e', W, st⟩ := stZ X hx hZ eT A (Arl.inb e1 hj h0 hi) hg hs hd
  rw [hn] at W
  subst hj
  exact ⟨T', h', X', e', W, F0.wr W, st⟩
theorem Arv.arl {k : ClassId} {n : Int32} {d : Value} (F : Arv Z h a k ty n vs d) (hl : vs.length = n.toNatClampNeg) : Arl Z h a ty vs := by
  obtain ⟨c, A, -, S, q, H, -⟩ := F
  refine ⟨c, A, ?_, by rw [hl]; exact (back32 q).2⟩
  refine List.ext_getElem? fun i => ?_
  rw [Array.getElem?_toList]
  by_cases hi : i < c.slots.size
  · rw [H i hi, List.getD_eq_getElem?_getD, List.getElem?_eq_getElem (by omega)]; simp
  · rw [Array.getElem?_eq_none (by omega), List.getElem?_eq_none (by omega)]
theorem gridL (X : Stand p l e R s m args below meth c T locs cells slots) (hx : p.tables.exec = Jvm.exec) (hZ : Z.Warmed39 s.vm) {own C ad : String} {index : Nat} (hown : s.vm.findClass own = some m.cls) (hC : (FieldType.array ty).toString = C) (had : "[" ++ C = ad)
    (w1 : (Jvm.Cond.classLink own index ad).before a0 Z = true) (w2 : (Jvm.Cond.arrayOver (.array ty)).before a0 Z = true) (w3 : (Jvm.Cond.arrayClass ty).before a0 Z = true) (eT : T.heap = h) {g : JFrame} (hg : g.method = m) (hd : decode c.code g.pc = .ok (.multianewarray index 2, 4)) {n k : Int32} {rest : List Value} (hs : g.stack = .int k :: .int n :: rest)
    (hn : ¬ n < 0) (hk : ¬ k < 0) {N cap : Nat} (hN : n.toNatClampNeg = N) (hcap : k.toNatClampNeg = cap) (hb : cap * 8 ≤ 536870912) (hb1 : N ≤ 1000) (hdf : fits ty (defaultValue ty) = true) (hdd : (defaultValue ty).isDefault = true) (hc : cells + (1 + N) ≤ R.cells) (hl : slots + (N + N * cap) ≤ R.slots) :
    ∃ (T' : State) (h' : Heap), Stand p l e R s m args below meth c T' locs (cells + (1 + N)) (slots + (N + N * cap)) ∧ T'.heap = h' ∧ Ext h h' ∧ Arl Z h' h.size (.array ty) ((List.range N).map fun j => .ref (h.size + 1 + j)) ∧
      (∀ j, j < N → Arl Z h' (h.size + 1 + j) ty (List.replicate cap (defaultValue ty))) ∧
      ∀ target, Steps p.tables e below (T'.setTop { g with pc := g.pc + 4, stack := .ref h.size :: rest }) target → Steps p.tables e below (T.setTop g) target := by
  obtain ⟨T', h', cA, comp, X', e', E, A, -, -, I, st⟩ := gridM X hx hZ hown hC had w1 w2 w3 eT hg hd hs hn hk hN rfl (Nat.le_of_eq hcap) hb hb1 hdf hdd hc hl
  refine ⟨T', h', X', e', E, ?_, fun j hj => ?_, st⟩
  · have := Arv.arl A (by simp [hN])
    rw [List.map_map] at this
    exact this
  · obtain ⟨AI, -⟩ := I j (h.size + 1 + j) (by simp [hj])
    refine ⟨_, AI, by simp [newA, hcap], ?_⟩
    have := (back32 hk).2
    rw [List.length_replicate]; omega
end Arls
end Jvm.OwnKit
namespace Jvm.OwnKit
open Jvm.FP Jvm.FP.Core
/-! ## dyadic doubles: a is the number i / 2^k -/
def shf (k : Int) : Datum → Datum
  | .nan => .nan
  | .inf s => .inf s
  | .fin s c q => .fin s c (q + k)
def Dy (i : Int) (k : Int) (a : UInt64) : Prop := Whole i (shf k (val64 a))
theorem shf_zero (d : Datum) : shf 0 d = d := by cases d <;> simp [shf]
theorem shf_shf (j k : Int) (d : Datum) : shf j (shf k d) = shf (k + j) d := by cases d <;> simp [shf]; omega
theorem shf_neg (k : Int) (x : Datum) : shf k (negate x) = negate (shf k x) := by cases x <;> rfl
theorem inU_shf (c : Nat) (q e k : Int) : inUnits c (q + k) (e + k) = inUnits c q e := by
  unfold inUnits; rw [show q + k - (e + k) = q - e by omega]
theorem shf_sum (k : Int) (x y : Datum) : shf k (exactSum x y) = exactSum (shf k x) (shf k y) := by
  cases x <;> cases y
  case fin.fin s c q t d r =>
    have hm : min (q + k) (r + k) = min q r + k := by omega
    simp only [shf, exactSum, hm, sumUnits, inU_shf]
  case inf.inf s t => by_cases h : s = t <;> simp [shf, exactSum, h]
  all_goals rfl
theorem shf_prod (k j : Int) (x y : Datum) : shf (k + j) (exactProduct x y) = exactProduct (shf k x) (shf j y) := by
  cases x <;> cases y
  case fin.fin s c q t d r => simp only [shf, exactProduct]; congr 1; omega
  case inf.fin s t d r => by_cases h : d = 0 <;> simp [shf, exactProduct, h]
  case fin.inf s c q t => by_cases h : c = 0 <;> simp [shf, exactProduct, h]
  all_goals rfl
theorem shf_order (k : Int) (x y : Datum) : order (shf k x) (shf k y) = order x y := by
  cases x <;> cases y
  case fin.fin s c q t d r =>
    have hm : min (q + k) (r + k) = min q r + k := by omega
    simp only [shf, order, hm, inU_shf]
  all_goals rfl
/-- a number of at most 53 digits at a middling exponent is rounded to itself -/
theorem whole_exact {s : Bool} {n : Nat} {k : Int} (hn : n < 2 ^ 53) (h1 : -900 ≤ k) (h2 : k ≤ 1000) : Whole (signed s n) (shf k (round b64 (.fin s n (-k)))) := by
  have q1 : b64.qmin = -1074 := by decide
  have q2 : b64.qmax = 971 := by decide
  obtain ⟨c', q', e1, e2⟩ := round_exact good_b64 s (c := n) (q := -k) (by exact hn) (by omega) (by omega)
  have hf := round_fits good_b64 (.fin s n (-k))
  rw [e1] at hf
  have g1 := hf.2.1
  rw [e1]
  show signed s (c' * 2 ^ (q' + k).toNat) = signed s n * ((2 ^ (-(q' + k)).toNat : Nat) : Int)
  rw [← signed_mul]
  congr 1
  unfold inUnits at e2
  rw [q1] at e2 g1
  refine Nat.eq_of_mul_eq_mul_right (Nat.two_pow_pos ((-k - -1074).toNat)) ?_
  refine Nat.eq_of_mul_eq_mul_right (Nat.two_pow_pos ((q' - -1074).toNat)) ?_
  have hx : (q' + k).toNat + (-k - -1074).toNat = (-(q' + k)).toNat + (q' - -1074).toNat := by omega
  calc c' * 2 ^ (q' + k).toNat * 2 ^ (-k - -1074).toNat * 2 ^ (q' - -1074).toNat
      = (c' * 2 ^ (q' - -1074).toNat) * 2 ^ ((q' + k).toNat + (-k - -1074).toNat) := by rw [Nat.pow_add]; ac_rfl
    _ = (n * 2 ^ (-k - -1074).toNat) * 2 ^ ((-(q' + k)).toNat + (q' - -1074).toNat) := by rw [e2, hx]
    _ = n * 2 ^ (-(q' + k)).toNat * 2 ^ (-k - -1074).toNat * 2 ^ (q' - -1074).toNat := by rw [Nat.pow_add]; ac_rfl
theorem signed_abs {s : Bool} {i : Int} (h : i ≠ 0 → s = decide (i < 0)) : signed s i.natAbs = i := by
  by_cases hi : i = 0
  · subst hi; exact signed_zero s
  · rw [h hi]; unfold signed; by_cases q : i < 0 <;> simp [q] <;> omega
theorem dy_round {i k : Int} {d : Datum} (hi : i.natAbs < 2 ^ 53) (h1 : -900 ≤ k) (h2 : k ≤ 1000) (h : Whole i (shf k d)) : Whole i (shf k (round b64 d)) := by
  cases d with
  | nan => exact h.elim
  | inf => exact h.elim
  | fin s c q =>
    have hw : Whole i (.fin s c (q + k)) := h
    have ha := whole_natAbs hw
    have e : round b64 (.fin s c q) = round b64 (.fin s i.natAbs (-k)) := by
      refine roundRatio_congr (by decide) (by decide) ?_
      rw [show (q - -k).toNat = (q + k).toNat by omega, show (-k - q).toNat = (-(q + k)).toNat by omega]
      simpa using ha
    rw [e]
    have := whole_exact (s := s) (k := k) hi h1 h2
    rw [signed_abs (fun hn => whole_sign hw hn)] at this
    exact this
section Dys
variable {i j k k' : Int} {a b : UInt64}
theorem Dy.fin (h : Dy i k a) : ∃ s c q, val64 a = .fin s c q := by
  unfold Dy at h
  cases hv : val64 a with
  | nan => rw [hv] at h; exact h.elim
  | inf s => rw [hv] at h; exact h.elim
  | fin s c q => exact ⟨s, c, q, rfl⟩
theorem Dy.nn (h : Dy i k a) : Jvm.Free.Fl.NoNaN64 a := by
  obtain ⟨s, c, q, e⟩ := h.fin
  refine Jvm.Free.Fl.val64_no.mpr ?_
  rw [e]; nofun
theorem Dy.l2d {a : Int64} (h : a.toInt.natAbs < 2 ^ 53) : Dy a.toInt 0 (FP.l2d a) := by
  unfold Dy; rw [shf_zero]; exact l2d_int (Nat.le_of_lt h)
theorem Dy.i2d (a : Int32) : Dy a.toInt 0 (FP.i2d a) := by
  unfold Dy; rw [shf_zero]; exact i2d_int a
theorem Dy.add (ha : Dy i k a) (hb : Dy j k b) (h : (i + j).natAbs < 2 ^ 53) (h1 : -900 ≤ k) (h2 : k ≤ 1000) : Dy (i + j) k (FP.dadd a b) := by
  show Whole (i + j) (shf k (val64 (Core.dadd a b)))
  rw [val64_dadd]
  refine dy_round h h1 h2 ?_
  rw [shf_sum]; exact whole_sum ha hb
theorem Dy.sub (ha : Dy i k a) (hb : Dy j k b) (h : (i - j).natAbs < 2 ^ 53) (h1 : -900 ≤ k) (h2 : k ≤ 1000) : Dy (i - j) k (FP.dsub a b) := by
  show Whole (i - j) (shf k (val64 (Core.dsub a b)))
  rw [val64_dsub]
  refine dy_round h h1 h2 ?_
  rw [shf_sum, shf_neg]; exact whole_sum ha (whole_negate hb)
theorem Dy.mul (ha : Dy i k a) (hb : Dy j k' b) (h : (i * j).natAbs < 2 ^ 53) (h1 : -900 ≤ k + k') (h2 : k + k' ≤ 1000) : Dy (i * j) (k + k') (FP.dmul a b) := by
  show Whole (i * j) (shf (k + k') (val64 (Core.dmul a b)))
  rw [val64_dmul]
  refine dy_round h h1 h2 ?_
  rw [shf_prod]; exact whole_product ha hb
theorem Dy.cmp (ha : Dy i k a) (hb : Dy j k b) : FP.dcmp a b = some (compare i j) := by
  show order (val64 a) (val64 b) = _
  rw [← shf_order k]; exact order_whole ha hb
theorem Dy.up (ha : Dy i k a) (n : Nat) : Dy (i * ((2 ^ n : Nat) : Int)) (k + n) a := by
  obtain ⟨s, c, q, e⟩ := ha.fin
  unfold Dy at ha ⊢
  rw [e] at ha ⊢
  have h : signed s (c * 2 ^ (q + k).toNat) = i * ((2 ^ (-(q + k)).toNat : Nat) : Int) := ha
  show signed s (c * 2 ^ (q + (k + n)).toNat) = i * ((2 ^ n : Nat) : Int) * ((2 ^ (-(q + (k + n))).toNat : Nat) : Int)
  have p : ((2 ^ (-(q + k)).toNat : Nat) : Int) ≠ 0 := by have := Nat.two_pow_pos (-(q + k)).toNat; omega
  refine Int.eq_of_mul_eq_mul_right p ?_
  have hx : (q + (k + n)).toNat + (-(q + k)).toNat = (q + k).toNat + (n + (-(q + (k + n))).toNat) := by omega
  calc signed s (c * 2 ^ (q + (k + n)).toNat) * ((2 ^ (-(q + k)).toNat : Nat) : Int)
      = signed s (c * 2 ^ ((q + (k + n)).toNat + (-(q + k)).toNat)) := by rw [← signed_mul, Nat.pow_add, Nat.mul_assoc]
    _ = signed s (c * 2 ^ (q + k).toNat) * ((2 ^ (n + (-(q + (k + n))).toNat) : Nat) : Int) := by rw [hx, Nat.pow_add, ← Nat.mul_assoc, signed_mul]
    _ = i * ((2 ^ n : Nat) : Int) * ((2 ^ (-(q + (k + n))).toNat : Nat) : Int) * ((2 ^ (-(q + k)).toNat : Nat) : Int) := by rw [h, Nat.pow_add, Int.natCast_mul]; ac_rfl
/-- the quotient of two dyadic numbers, rounded -/
theorem Dy.quot (ha : Dy i k a) (hb : Dy j k' b) (hj : j ≠ 0) : ∃ s, (i ≠ 0 → s = (decide (i < 0) != decide (j < 0))) ∧ val64 (FP.ddiv a b) = roundRatio b64 s i.natAbs j.natAbs (k' - k) := by
  obtain ⟨s, c, q, e⟩ := ha.fin
  obtain ⟨t, d, r, e'⟩ := hb.fin
  unfold Dy at ha hb
  rw [e] at ha; rw [e'] at hb
  have wa : Whole i (.fin s c (q + k)) := ha
  have wb : Whole j (.fin t d (r + k')) := hb
  have hd : d ≠ 0 := fun h0 => hj ((whole_zero wb).mp h0)
  refine ⟨s != t, fun hi => by rw [whole_sign wa hi, whole_sign wb hj], ?_⟩
  show val64 (Core.ddiv a b) = _
  rw [val64_ddiv, e, e']
  simp only [quotient, if_neg hd]
  refine roundRatio_congr (by omega) (by omega) ?_
  have na := whole_natAbs wa
  have nb := whole_natAbs wb
  have p : 0 < 2 ^ (r + k').toNat * 2 ^ (-(q + k)).toNat := Nat.mul_pos (Nat.two_pow_pos _) (Nat.two_pow_pos _)
  refine Nat.eq_of_mul_eq_mul_right (Nat.mul_pos (Nat.two_pow_pos (q + k).toNat) (Nat.two_pow_pos (-(r + k')).toNat)) ?_
  have hx : (q - r - (k' - k)).toNat + (-(q + k)).toNat + (r + k').toNat = (k' - k - (q - r)).toNat + ((q + k).toNat + (-(r + k')).toNat) := by omega
  calc c * j.natAbs * 2 ^ (q - r - (k' - k)).toNat * (2 ^ (q + k).toNat * 2 ^ (-(r + k')).toNat)
      = (c * 2 ^ (q + k).toNat) * (j.natAbs * 2 ^ (-(r + k')).toNat) * 2 ^ (q - r - (k' - k)).toNat := by ac_rfl
    _ = (i.natAbs * 2 ^ (-(q + k)).toNat) * (d * 2 ^ (r + k').toNat) * 2 ^ (q - r - (k' - k)).toNat := by rw [na, nb]
    _ = i.natAbs * d * 2 ^ ((q - r - (k' - k)).toNat + (-(q + k)).toNat + (r + k').toNat) := by rw [Nat.pow_add, Nat.pow_add]; ac_rfl
    _ = i.natAbs * d * 2 ^ (k' - k - (q - r)).toNat * (2 ^ (q + k).toNat * 2 ^ (-(r + k')).toNat) := by rw [hx, Nat.pow_add, Nat.pow_add]; ac_rfl
theorem Dy.div (ha : Dy (i * j) k a) (hb : Dy j k' b) (hj : j ≠ 0) (h : i.natAbs < 2 ^ 53) (h1 : -900 ≤ k - k') (h2 : k - k' ≤ 1000) : Dy i (k - k') (FP.ddiv a b) := by
  obtain ⟨s, hs, e⟩ := ha.quot hb hj
  unfold Dy
  rw [e]
  have e2 : roundRatio b64 s (i * j).natAbs j.natAbs (k' - k) = round b64 (.fin s i.natAbs (-(k - k'))) := by
    refine roundRatio_congr (by omega) (by decide) ?_
    rw [show k' - k - -(k - k') = 0 by omega, show -(k - k') - (k' - k) = 0 by omega, Int.natAbs_mul]
    simp
  rw [e2]
  have := whole_exact (s := s) (n := i.natAbs) (k := k - k') h h1 h2
  rw [signed_abs (fun hn => ?_)] at this
  · exact this
  · rw [hs (Int.mul_ne_zero hn hj)]
    rcases Int.lt_or_gt_of_ne hn with p | p <;> rcases Int.lt_or_gt_of_ne hj with q | q
    · have := Int.mul_pos_of_neg_of_neg p q
      simp [p, q, show ¬ i * j < 0 by omega]
    · have := Int.mul_neg_of_neg_of_pos p q
      simp [p, this, show ¬ j < 0 by omega]
    · have := Int.mul_neg_of_pos_of_neg p q
      simp [q, this, show ¬ i < 0 by omega]
    · have := Int.mul_pos p q
      simp [show ¬ i * j < 0 by omega, show ¬ j < 0 by omega, show ¬ i < 0 by omega]
end Dys
end Jvm.OwnKit
namespace Jvm.OwnKit
open Jvm.FP Jvm.FP.Core
section More
variable {i j k k' : Int} {a b : UInt64}
theorem Dy.cast (ha : Dy i k a) (h1 : i = j) (h2 : k = k') : Dy j k' a := by subst h1 h2; exact ha
theorem Dy.divp (ha : Dy i k a) (n : Nat) (hb : Dy ((2 ^ n : Nat) : Int) 0 b) (h : i.natAbs < 2 ^ 53) (h1 : -900 ≤ k + n) (h2 : k + n ≤ 1000) : Dy i (k + n) (FP.ddiv a b) := by
  have p := Nat.two_pow_pos n
  have := Dy.div (k := k + n) (k' := 0) (ha.up n) hb (by omega) h (by omega) (by omega)
  exact this.cast rfl (by omega)
theorem Dy.lit {a : UInt64} {s : Bool} {c : Nat} {q : Int} (e : val64 a = .fin s c q) (h : signed s (c * 2 ^ (q + k).toNat) = i * ((2 ^ (-(q + k)).toNat : Nat) : Int)) : Dy i k a := by
  unfold Dy; rw [e]; exact h
/-- a quotient of middling numbers and its 2^n-th part -/
theorem round_part {s : Bool} {A B n : Nat} (hA : 0 < A) (hB : 0 < B) (lA : A < 2 ^ 100) (lB : B < 2 ^ 100) (hn : n ≤ 100) : ∃ c q, roundRatio b64 s A B 0 = .fin s c q ∧ roundRatio b64 s A B (-(n : Int)) = .fin s c (q - n) := by
  have q1 : b64.qmin = -1074 := by decide
  have q2 : b64.qmax = 971 := by decide
  have hp : (b64.p : Int) - 1 = 52 := by decide
  have a1 : A.log2 < 100 := (Nat.log2_lt (by omega)).mpr lA
  have b1 : B.log2 < 100 := (Nat.log2_lt (by omega)).mpr lB
  have hl : -101 ≤ leading A B ∧ leading A B ≤ 100 := by
    unfold leading; dsimp only; split <;> omega
  have e1 : quantum b64 A B 0 = leading A B - 52 := by unfold quantum; rw [q1, hp]; omega
  have e2 : quantum b64 A B (-(n : Int)) = leading A B - 52 - n := by unfold quantum; rw [q1, hp]; omega
  have z : ¬ A = 0 := by omega
  unfold roundRatio
  rw [if_neg z, if_neg z, e1, e2]
  generalize leading A B = L at hl
  have u1 : unitsNum A (-(n : Int)) (L - 52 - n) = unitsNum A 0 (L - 52) := by unfold unitsNum; congr 2; omega
  have u2 : unitsDen B (-(n : Int)) (L - 52 - n) = unitsDen B 0 (L - 52) := by unfold unitsDen; congr 2; omega
  unfold roundAt
  rw [u1, u2]
  generalize nearest _ _ = c
  unfold settle bound
  by_cases hc : c < 2 ^ b64.p
  · rw [if_pos hc, if_pos hc, if_pos (by omega), if_pos (by omega)]
    exact ⟨_, _, rfl, rfl⟩
  · rw [if_neg hc, if_neg hc, if_pos (by omega), if_pos (by omega)]
    exact ⟨_, _, rfl, by congr 1; omega⟩
/-- (x / y) / 2^n where x / y is rounded once: the same as the rounding of x / (y * 2^n) -/
theorem div_part {x y w : UInt64} {A B : Int} {n : Nat} {got : UInt64} (hx : Dy A 0 x) (hy : Dy B 0 y) (hw : Dy ((2 ^ n : Nat) : Int) 0 w) (hA : 0 < A) (hB : 0 < B) (lA : A < 2 ^ 100) (lB : B < 2 ^ 100) (hn : n ≤ 100)
    {s0 : Bool} (hs : s0 = false) (hg : val64 got = roundRatio b64 s0 A.natAbs B.natAbs (-(n : Int))) : got = FP.ddiv (FP.ddiv x y) w ∧ val64 (FP.ddiv x y) ≠ .nan ∧ val64 got ≠ .nan := by
  subst hs
  obtain ⟨s, h1, h2⟩ := hx.quot hy (by omega)
  have hs : s = false := by rw [h1 (by omega)]; simp [show ¬ A < 0 by omega, show ¬ B < 0 by omega]
  subst hs
  obtain ⟨c, q, e1, e2⟩ := round_part (s := false) (A := A.natAbs) (B := B.natAbs) (n := n) (by omega) (by omega) (by omega) (by omega) hn
  have hf : Core.fits b64 (.fin false c (q - n)) := by rw [← e2]; exact roundRatio_fits good_b64 _ _ (by omega) _
  rw [show (0 : Int) - 0 = 0 by omega, e1] at h2
  rw [e2] at hg
  obtain ⟨t, d, r, ew⟩ := hw.fin
  have ww : Whole ((2 ^ n : Nat) : Int) (.fin t d (r + 0)) := by unfold Dy at hw; rw [ew] at hw; exact hw
  have p := Nat.two_pow_pos n
  have pz : ((2 ^ n : Nat) : Int) ≠ 0 := Int.natCast_ne_zero.mpr (Nat.ne_of_gt p)
  have ht : t = false := by rw [whole_sign ww pz]; exact decide_eq_false (Int.not_lt.mpr (Int.natCast_nonneg (2 ^ n)))
  subst ht
  have hd : d ≠ 0 := fun h0 => pz ((whole_zero ww).mp h0)
  have nw := whole_natAbs ww
  have hq : val64 (FP.ddiv (FP.ddiv x y) w) = .fin false c (q - n) := by
    show val64 (Core.ddiv _ _) = _
    rw [val64_ddiv, h2, ew]
    simp only [quotient, if_neg hd]
    refine roundRatio_exact good_b64 (by omega) hf ?_
    rw [show q - r - (q - n) = n - r by omega, show q - n - (q - r) = r - n by omega]
    rw [Int.natAbs_natCast, Int.add_zero] at nw
    refine Nat.eq_of_mul_eq_mul_right (Nat.two_pow_pos r.toNat) ?_
    have hx : (n - r : Int).toNat + r.toNat = (r - n : Int).toNat + (n + (-r).toNat) := by omega
    calc c * 2 ^ (n - r : Int).toNat * 2 ^ r.toNat = c * 2 ^ ((n - r : Int).toNat + r.toNat) := by rw [Nat.pow_add, Nat.mul_assoc]
      _ = c * 2 ^ (r - n : Int).toNat * (2 ^ n * 2 ^ (-r).toNat) := by rw [hx, Nat.pow_add, Nat.pow_add, Nat.mul_assoc]
      _ = c * d * 2 ^ (r - n : Int).toNat * 2 ^ r.toNat := by rw [← nw]; ac_rfl
  refine ⟨val64_inj (by rw [hg]; nofun) (by rw [hg, hq]), by rw [h2]; nofun, by rw [hg]; nofun⟩
end More
end Jvm.OwnKit
namespace Jvm.OwnKit
open Jvm.FP Jvm.FP.Core
section Pow
variable {i j k k' : Int} {a b : UInt64}
theorem whole_up {d : Datum} {n : Nat} : Whole i (shf k d) ↔ Whole (i * ((2 ^ n : Nat) : Int)) (shf (k + n) d) := by
  cases d with
  | nan => exact Iff.rfl
  | inf => exact Iff.rfl
  | fin s c q =>
    show signed s (c * 2 ^ (q + k).toNat) = i * ((2 ^ (-(q + k)).toNat : Nat) : Int) ↔ signed s (c * 2 ^ (q + (k + n)).toNat) = i * ((2 ^ n : Nat) : Int) * ((2 ^ (-(q + (k + n))).toNat : Nat) : Int)
    have p : ((2 ^ (-(q + k)).toNat : Nat) : Int) ≠ 0 := by have := Nat.two_pow_pos (-(q + k)).toNat; omega
    have p2 : ((2 ^ (n + (-(q + (k + n))).toNat) : Nat) : Int) ≠ 0 := by have := Nat.two_pow_pos (n + (-(q + (k + n))).toNat); omega
    have hx : (q + (k + n)).toNat + (-(q + k)).toNat = (q + k).toNat + (n + (-(q + (k + n))).toNat) := by omega
    have e1 : signed s (c * 2 ^ (q + (k + n)).toNat) * ((2 ^ (-(q + k)).toNat : Nat) : Int) = signed s (c * 2 ^ (q + k).toNat) * ((2 ^ (n + (-(q + (k + n))).toNat) : Nat) : Int) := by
      rw [← signed_mul, ← signed_mul, Nat.mul_assoc, ← Nat.pow_add, Nat.mul_assoc, ← Nat.pow_add, hx]
    have e2 : i * ((2 ^ n : Nat) : Int) * ((2 ^ (-(q + (k + n))).toNat : Nat) : Int) * ((2 ^ (-(q + k)).toNat : Nat) : Int) = i * ((2 ^ (-(q + k)).toNat : Nat) : Int) * ((2 ^ (n + (-(q + (k + n))).toNat) : Nat) : Int) := by
      rw [Nat.pow_add, Int.natCast_mul]; ac_rfl
    constructor
    · intro h
      refine Int.eq_of_mul_eq_mul_right p ?_
      rw [e1, e2, h]
    · intro h
      refine Int.eq_of_mul_eq_mul_right p2 ?_
      rw [← e1, ← e2, h]
theorem Dy.down {n : Nat} (ha : Dy (i * ((2 ^ n : Nat) : Int)) (k + n) a) : Dy i k a := whole_up.mpr ha
/-- times a power of two -/
theorem Dy.mulp (ha : Dy i k a) (n : Nat) (hb : Dy ((2 ^ n : Nat) : Int) 0 b) (h : i.natAbs < 2 ^ 53) (h1 : -900 ≤ k - n) (h2 : k - n ≤ 1000) : Dy i (k - n) (FP.dmul a b) := by
  show Whole i (shf (k - n) (val64 (Core.dmul a b)))
  rw [val64_dmul]
  refine dy_round h h1 h2 ?_
  rw [whole_up (n := n), show k - n + n = k + 0 by omega, shf_prod]
  exact whole_product ha hb
end Pow
end Jvm.OwnKit
namespace Jvm.OwnKit
theorem and64 (x m : Int64) (hm : 0 ≤ m.toInt) : 0 ≤ (x &&& m).toInt ∧ (x &&& m).toInt ≤ m.toInt := by
  have h : (x &&& m).toBitVec.toNat ≤ m.toBitVec.toNat := by rw [Int64.toBitVec_and, BitVec.toNat_and]; exact Nat.and_le_right
  have e : ∀ y : Int64, y.toInt = y.toBitVec.toInt := fun _ => rfl
  rw [e] at hm ⊢
  rw [e m]
  rw [BitVec.toInt_eq_toNat_cond] at hm ⊢
  rw [BitVec.toInt_eq_toNat_cond]
  have l1 := m.toBitVec.isLt
  have l2 := (x &&& m).toBitVec.isLt
  split at hm <;> split <;> omega
theorem and32 (x m : Int32) (hm : 0 ≤ m.toInt) : 0 ≤ (x &&& m).toInt ∧ (x &&& m).toInt ≤ m.toInt := by
  have h : (x &&& m).toBitVec.toNat ≤ m.toBitVec.toNat := by rw [Int32.toBitVec_and, BitVec.toNat_and]; exact Nat.and_le_right
  have e : ∀ y : Int32, y.toInt = y.toBitVec.toInt := fun _ => rfl
  rw [e] at hm ⊢
  rw [e m]
  rw [BitVec.toInt_eq_toNat_cond] at hm ⊢
  rw [BitVec.toInt_eq_toNat_cond]
  have l1 := m.toBitVec.isLt
  have l2 := (x &&& m).toBitVec.isLt
  split at hm <;> split <;> omega
end Jvm.OwnKit
namespace Jvm.Pilot.@@N@@
open Jvm Jvm.ClassFile Sem Op Lib Jvm.Free Jvm.Stand Jvm.LawKit Jvm.RoadKit Jvm.OwnKit Bundle Jvm.Pilot.@@N@@.Jvm.D

theorem own_01 (x : Int32) : x &&& (1 : Int32) = 0 ∨ x &&& (1 : Int32) = 1 := by
  have h := and32 x (1 : Int32) (by decide)
  rw [show (1 : Int32).toInt = 1 from rfl] at h
  rcases (show (x &&& (1 : Int32)).toInt = 0 ∨ (x &&& (1 : Int32)).toInt = 1 by omega) with q | q
  · exact Or.inl (Int32.toInt_inj.mp (by rw [q]; rfl))
  · exact Or.inr (Int32.toInt_inj.mp (by rw [q]; rfl))
theorem own_1 {x : Int32} (h : ¬ x &&& (1 : Int32) = 0) : x &&& (1 : Int32) = 1 := (own_01 x).resolve_left h
theorem own_nar {e : Int32} (h : e = 0 ∨ e = 1) : nar .boolean e = e := by rcases h with rfl | rfl <;> rfl
theorem own_paths {u0 u1 u2 a0 a1 a2 n : Int32} {p1 p2 p3 : Int64} (h1 : p1 = if u0 = (0 : Int32) then (0 : Int64) else ((0 : Int64) + (1 : Int64))) (h2 : p2 = if u1 = (0 : Int32) then p1 else (p1 + (1 : Int64))) (h3 : p3 = if u2 = (0 : Int32) then p2 else (p2 + (1 : Int64)))
    (g0 : a0 = if u0 = (0 : Int32) then (0 : Int32) else (1 : Int32)) (g1 : a1 = if u1 = (0 : Int32) then (0 : Int32) else (1 : Int32)) (g2 : a2 = if u2 = (0 : Int32) then (0 : Int32) else (1 : Int32)) (hn : a0 + a1 + a2 = n) : p3 = n.toInt64 := by
  subst hn g0 g1 g2 h3 h2 h1
  by_cases q0 : u0 = (0 : Int32) <;> by_cases q1 : u1 = (0 : Int32) <;> by_cases q2 : u2 = (0 : Int32) <;> simp only [q0, q1, q2, if_true, if_false] <;> decide
theorem own_cnt {u0 u1 u2 e0 e1 e2 x0 x1 x2 c : Int32} {s1 s2 s3 : Int64} (b0 : e0 = 0 ∨ e0 = 1) (b1 : e1 = 0 ∨ e1 = 1) (b2 : e2 = 0 ∨ e2 = 1)
    (h1 : s1 = if u0 = (0 : Int32) then (0 : Int64) else (if e0 = (0 : Int32) then (0 : Int64) else ((0 : Int64) + (1 : Int64)))) (h2 : s2 = if u1 = (0 : Int32) then s1 else (if e1 = (0 : Int32) then s1 else (s1 + (1 : Int64)))) (h3 : s3 = if u2 = (0 : Int32) then s2 else (if e2 = (0 : Int32) then s2 else (s2 + (1 : Int64))))
    (g0 : x0 = if u0 = (0 : Int32) then (0 : Int32) else e0) (g1 : x1 = if u1 = (0 : Int32) then (0 : Int32) else e1) (g2 : x2 = if u2 = (0 : Int32) then (0 : Int32) else e2) (hc : x0 + x1 + x2 = c) : s3 = c.toInt64 := by
  subst hc g0 g1 g2 h3 h2 h1
  rcases b0 with rfl | rfl <;> rcases b1 with rfl | rfl <;> rcases b2 with rfl | rfl <;> by_cases q0 : u0 = (0 : Int32) <;> by_cases q1 : u1 = (0 : Int32) <;> by_cases q2 : u2 = (0 : Int32) <;> simp only [q0, q1, q2, if_true, if_false] <;> decide
theorem own_i2l0 {n : Int32} : n.toInt64 = (0 : Int64) ↔ n = (0 : Int32) := by
  constructor
  · intro h
    have := congrArg Int64.toInt h
    rw [Int32.toInt_toInt64] at this
    exact Int32.toInt_inj.mp this
  · rintro rfl; rfl
theorem own_frac {P s : Int64} {n c : Int32} (hP : P = n.toInt64) (hs : s = c.toInt64) :
    cmpValue (FP.dcmp (if P = (0 : Int64) then FP.dconst0 else (FP.ddiv (FP.l2d s) (FP.l2d P))) (if n = (0 : Int32) then FP.dconst0 else (FP.ddiv (FP.i2d c) (FP.i2d n)))) .l = 0 := by
  subst hP hs
  by_cases q : n = (0 : Int32)
  · rw [if_pos q, if_pos (own_i2l0.mpr q)]; decide +kernel
  · rw [if_neg q, if_neg (fun z => q (own_i2l0.mp z)), i2d_w, i2d_w]
    exact dcmpV_self (Fl.ddiv_out (Fl.l2d_fin _).noNaN (Fl.l2d_fin _) (Fl.l2d_nz (fun z => q (own_i2l0.mp z)))) _
theorem d1_0 : decode method_2_code 0 = .ok (.iload_n 0, 1) := by decide +kernel
theorem d1_1 : decode method_2_code 1 = .ok (.iload_n 1, 1) := by decide +kernel
theorem d1_2 : decode method_2_code 2 = .ok (.iushr, 1) := by decide +kernel
theorem d1_3 : decode method_2_code 3 = .ok (.iconst 1, 1) := by decide +kernel
theorem d1_4 : decode method_2_code 4 = .ok (.iand, 1) := by decide +kernel
theorem d1_5 : decode method_2_code 5 = .ok (.ifCond .eq 7, 3) := by decide +kernel
theorem d1_8 : decode method_2_code 8 = .ok (.iconst 1, 1) := by decide +kernel
theorem d1_9 : decode method_2_code 9 = .ok (.goto 4, 3) := by decide +kernel
theorem d1_12 : decode method_2_code 12 = .ok (.iconst 0, 1) := by decide +kernel
theorem d1_13 : decode method_2_code 13 = .ok (.ireturn, 1) := by decide +kernel
theorem pn_10 : plainName "com/example/idealyze/idealyze/simulation/TallyAddPinLaw" = true := by first | (simp [plainName, overriddenIn]; done) | decide +kernel
theorem ef_rmB (m : MethodId) (xx : Int32) (sh : Int32) : entryFrame m #[(.int xx), (.int sh)] 2 = mkF m 0 #[iv xx, iv sh] [] := by first | (simp [entryFrame, mkF, argsToLocals, Value.category]; done) | rfl
def Q_rmB (Z : State) (xx : Int32) (sh : Int32) (h0 : Heap) (n0 : Nat) (v : Option Value) (h : Heap) (L : List Loc) : Prop := v = (some (.int (((xx.toUInt32 >>> (sh &&& 31).toUInt32).toInt32) &&& (1 : Int32)))) ∧ Fr n0 L ∧ h = h0
set_option maxRecDepth 65536 in
set_option maxHeartbeats 40000000 in
theorem rmB (l : Launch) (Z : State) (a0 : Array Value) (hw : ∀ d ∈ tables_1, d.before a0 Z = true) (xx : Int32) (sh : Int32) (h0 : Heap) (n0 : Nat) (Z0 : n0 ≤ h0.size) :
    Ctr l Z h0 (⟨"com/example/idealyze/idealyze/simulation/TallyAddPinLaw", "bit", "(II)Z"⟩ : MethodName) method_2_code 2 (some .boolean) [] ({ frames := 0, cells := 0, slots := 0, locals := 0 } : Room) #[(.int xx), (.int sh)] (Q_rmB Z xx sh h0 n0) := by
  refine Ctr.make (plainFor_of_name pn_10) fun p e s m below meth c s₁ K hret hml hx hby hown hnm hZ X0 e0 hK => ?_
  have hown : s.vm.findClass "com/example/idealyze/idealyze/simulation/TallyAddPinLaw" = some m.cls := hown
  have N0 := Fr.nil n0
  have K0 : Keep h0 h0 [] := Keep.refl _ _
  refine Wlk.of (fun _ k => castTop (ef_rmB m xx sh) k) ?_
  show Wlk p.tables e below (s₁.setTop (mkF m 0 #[iv xx, iv sh] [])) K
  refine Wlk.of (fun _ k => XS.iloadN X0.here hx rfl (hb hby d1_0) rfl k) ?_
  show Wlk p.tables e below (s₁.setTop (mkF m 1 #[iv xx, iv sh] [(.int xx)])) K
  refine Wlk.of (fun _ k => XS.iloadN X0.here hx rfl (hb hby d1_1) rfl k) ?_
  show Wlk p.tables e below (s₁.setTop (mkF m 2 #[iv xx, iv sh] [(.int sh), (.int xx)])) K
  refine Wlk.of (fun _ k => XS.iushr X0.here hx rfl (hb hby d1_2) rfl k) ?_
  show Wlk p.tables e below (s₁.setTop (mkF m 3 #[iv xx, iv sh] [(.int ((xx.toUInt32 >>> (sh &&& 31).toUInt32).toInt32))])) K
  refine Wlk.of (fun _ k => XS.iconst X0.here hx rfl (hb hby d1_3) k) ?_
  show Wlk p.tables e below (s₁.setTop (mkF m 4 #[iv xx, iv sh] [(.int (1 : Int32)), (.int ((xx.toUInt32 >>> (sh &&& 31).toUInt32).toInt32))])) K
  refine Wlk.of (fun _ k => XS.iand X0.here hx rfl (hb hby d1_4) rfl k) ?_
  show Wlk p.tables e below (s₁.setTop (mkF m 5 #[iv xx, iv sh] [(.int (((xx.toUInt32 >>> (sh &&& 31).toUInt32).toInt32) &&& (1 : Int32)))])) K
  by_cases hc1 : (((xx.toUInt32 >>> (sh &&& 31).toUInt32).toInt32) &&& (1 : Int32)) = (0 : Int32)
  · refine Wlk.of (fun _ k => XS.ifYes X0.here hx rfl (pc0 := 5) (pc' := 12) rfl (hb hby d1_5) rfl ((if0 _ _).trans (teq hc1).1) (by decide) (by decide) k) ?_
    show Wlk p.tables e below (s₁.setTop (mkF m 12 #[iv xx, iv sh] [])) K
    refine Wlk.of (fun _ k => XS.iconst X0.here hx rfl (hb hby d1_12) k) ?_
    show Wlk p.tables e below (s₁.setTop (mkF m 13 #[iv xx, iv sh] [(.int (0 : Int32))])) K
    refine hK (some (.int (0 : Int32))) X0 (fun q => by cases q) (fun fs hr => retN X0 hx (t := .boolean) hret (by simp) (hb hby d1_13) hr) ?_ (by decide) (by decide)
    rw [show s₁.heap = h0 from e0]
    exact ⟨(by rw [hc1]), N0, rfl⟩
  · refine Wlk.of (fun _ k => XS.ifNo X0.here hx rfl (hb hby d1_5) rfl ((if0 _ _).trans (feq hc1).1) k) ?_
    show Wlk p.tables e below (s₁.setTop (mkF m 8 #[iv xx, iv sh] [])) K
    refine Wlk.of (fun _ k => XS.iconst X0.here hx rfl (hb hby d1_8) k) ?_
    show Wlk p.tables e below (s₁.setTop (mkF m 9 #[iv xx, iv sh] [(.int (1 : Int32))])) K
    refine Wlk.of (fun _ k => XS.goto X0.here hx rfl (pc0 := 9) (pc' := 13) rfl (hb hby d1_9) (by decide) (by decide) k) ?_
    show Wlk p.tables e below (s₁.setTop (mkF m 13 #[iv xx, iv sh] [(.int (1 : Int32))])) K
    refine hK (some (.int (1 : Int32))) X0 (fun q => by cases q) (fun fs hr => retN X0 hx (t := .boolean) hret (by simp) (hb hby d1_13) hr) ?_ (by decide) (by decide)
    rw [show s₁.heap = h0 from e0]
    exact ⟨(by rw [own_1 hc1]), N0, rfl⟩
theorem d5_0 : decode method_3_code 0 = .ok (.iload_n 0, 1) := by decide +kernel
theorem d5_1 : decode method_3_code 1 = .ok (.iload_n 1, 1) := by decide +kernel
theorem d5_2 : decode method_3_code 2 = .ok (.iushr, 1) := by decide +kernel
theorem d5_3 : decode method_3_code 3 = .ok (.iconst 1, 1) := by decide +kernel
theorem d5_4 : decode method_3_code 4 = .ok (.iand, 1) := by decide +kernel
theorem d5_5 : decode method_3_code 5 = .ok (.ireturn, 1) := by decide +kernel
theorem ef_rmO (m : MethodId) (xx : Int32) (sh : Int32) : entryFrame m #[(.int xx), (.int sh)] 2 = mkF m 0 #[iv xx, iv sh] [] := by first | (simp [entryFrame, mkF, argsToLocals, Value.category]; done) | rfl
def Q_rmO (Z : State) (xx : Int32) (sh : Int32) (h0 : Heap) (n0 : Nat) (v : Option Value) (h : Heap) (L : List Loc) : Prop := v = (some (.int (((xx.toUInt32 >>> (sh &&& 31).toUInt32).toInt32) &&& (1 : Int32)))) ∧ Fr n0 L ∧ h = h0
set_option maxRecDepth 65536 in
set_option maxHeartbeats 40000000 in
theorem rmO (l : Launch) (Z : State) (a0 : Array Value) (hw : ∀ d ∈ tables_1, d.before a0 Z = true) (xx : Int32) (sh : Int32) (h0 : Heap) (n0 : Nat) (Z0 : n0 ≤ h0.size) :
    Ctr l Z h0 (⟨"com/example/idealyze/idealyze/simulation/TallyAddPinLaw", "one", "(II)I"⟩ : MethodName) method_3_code 2 (some .int) [] ({ frames := 0, cells := 0, slots := 0, locals := 0 } : Room) #[(.int xx), (.int sh)] (Q_rmO Z xx sh h0 n0) := by
  refine Ctr.make (plainFor_of_name pn_10) fun p e s m below meth c s₁ K hret hml hx hby hown hnm hZ X0 e0 hK => ?_
  have hown : s.vm.findClass "com/example/idealyze/idealyze/simulation/TallyAddPinLaw" = some m.cls := hown
  have N0 := Fr.nil n0
  have K0 : Keep h0 h0 [] := Keep.refl _ _
  refine Wlk.of (fun _ k => castTop (ef_rmO m xx sh) k) ?_
  show Wlk p.tables e below (s₁.setTop (mkF m 0 #[iv xx, iv sh] [])) K
  refine Wlk.of (fun _ k => XS.iloadN X0.here hx rfl (hb hby d5_0) rfl k) ?_
  show Wlk p.tables e below (s₁.setTop (mkF m 1 #[iv xx, iv sh] [(.int xx)])) K
  refine Wlk.of (fun _ k => XS.iloadN X0.here hx rfl (hb hby d5_1) rfl k) ?_
  show Wlk p.tables e below (s₁.setTop (mkF m 2 #[iv xx, iv sh] [(.int sh), (.int xx)])) K
  refine Wlk.of (fun _ k => XS.iushr X0.here hx rfl (hb hby d5_2) rfl k) ?_
  show Wlk p.tables e below (s₁.setTop (mkF m 3 #[iv xx, iv sh] [(.int ((xx.toUInt32 >>> (sh &&& 31).toUInt32).toInt32))])) K
  refine Wlk.of (fun _ k => XS.iconst X0.here hx rfl (hb hby d5_3) k) ?_
  show Wlk p.tables e below (s₁.setTop (mkF m 4 #[iv xx, iv sh] [(.int (1 : Int32)), (.int ((xx.toUInt32 >>> (sh &&& 31).toUInt32).toInt32))])) K
  refine Wlk.of (fun _ k => XS.iand X0.here hx rfl (hb hby d5_4) rfl k) ?_
  show Wlk p.tables e below (s₁.setTop (mkF m 5 #[iv xx, iv sh] [(.int (((xx.toUInt32 >>> (sh &&& 31).toUInt32).toInt32) &&& (1 : Int32)))])) K
  refine hK (some (.int (((xx.toUInt32 >>> (sh &&& 31).toUInt32).toInt32) &&& (1 : Int32)))) X0 (fun q => by cases q) (fun fs hr => retOut X0 hx hret rfl (Or.inl ⟨rfl, Or.inl rfl, _, rfl⟩) (hb hby d5_5) hr) ?_ (by decide) (by decide)
  rw [show s₁.heap = h0 from e0]
  exact ⟨rfl, N0, rfl⟩
theorem d2_0 : decode prog_163_method_1_code 0 = .ok (.aload_n 0, 1) := by decide +kernel
theorem d2_1 : decode prog_163_method_1_code 1 = .ok (.invokespecial 1, 3) := by decide +kernel
theorem d2_4 : decode prog_163_method_1_code 4 = .ok (.aload_n 0, 1) := by decide +kernel
theorem d2_5 : decode prog_163_method_1_code 5 = .ok (.iload_n 1, 1) := by decide +kernel
theorem d2_6 : decode prog_163_method_1_code 6 = .ok (.newarray .long, 2) := by decide +kernel
theorem d2_8 : decode prog_163_method_1_code 8 = .ok (.putfield 7, 3) := by decide +kernel
theorem d2_11 : decode prog_163_method_1_code 11 = .ok (.aload_n 0, 1) := by decide +kernel
theorem d2_12 : decode prog_163_method_1_code 12 = .ok (.iload_n 1, 1) := by decide +kernel
theorem d2_13 : decode prog_163_method_1_code 13 = .ok (.iload_n 1, 1) := by decide +kernel
theorem d2_14 : decode prog_163_method_1_code 14 = .ok (.multianewarray 13 2, 4) := by decide +kernel
theorem d2_18 : decode prog_163_method_1_code 18 = .ok (.putfield 15, 3) := by decide +kernel
theorem d2_21 : decode prog_163_method_1_code 21 = .ok (.return_, 1) := by decide +kernel
theorem pn_29 : plainName "com/example/idealyze/idealyze/simulation/Tally" = true := by first | (simp [plainName, overriddenIn]; done) | decide +kernel
theorem ef_rmI (m : MethodId) (a : Addr) : entryFrame m #[(.ref a), (.int (3 : Int32))] 2 = mkF m 0 #[rv a, iv (3 : Int32)] [] := by first | (simp [entryFrame, mkF, argsToLocals, Value.category]; done) | rfl
def Q_rmI (Z : State) (a : Addr) (h0 : Heap) (n0 : Nat) (v : Option Value) (h : Heap) (L : List Loc) : Prop := ∃ sat : Addr, ∃ tog : Addr, ∃ t0 : Addr, ∃ t1 : Addr, ∃ t2 : Addr, v = none ∧ Fr n0 L ∧ Keep h0 h [a] ∧ h0.size ≤ sat ∧ h0.size ≤ tog ∧ h0.size ≤ t0 ∧ h0.size ≤ t1 ∧ h0.size ≤ t2 ∧ Fld Z h a "com/example/idealyze/idealyze/simulation/Tally" "satisfied" "[J" (.ref sat) ∧ Fld Z h a "com/example/idealyze/idealyze/simulation/Tally" "together" "[[J" (.ref tog) ∧ Fld Z h a "com/example/idealyze/idealyze/simulation/Tally" "paths" "J" (.long (0 : Int64)) ∧ Arl Z h sat .long [(.long (0 : Int64)), (.long (0 : Int64)), (.long (0 : Int64))] ∧ Arl Z h tog (.array .long) [(.ref t0), (.ref t1), (.ref t2)] ∧ Arl Z h t0 .long [(.long (0 : Int64)), (.long (0 : Int64)), (.long (0 : Int64))] ∧ Arl Z h t1 .long [(.long (0 : Int64)), (.long (0 : Int64)), (.long (0 : Int64))] ∧ Arl Z h t2 .long [(.long (0 : Int64)), (.long (0 : Int64)), (.long (0 : Int64))] ∧ sat ≠ tog ∧ sat ≠ t0 ∧ sat ≠ t1 ∧ sat ≠ t2 ∧ tog ≠ t0 ∧ tog ≠ t1 ∧ tog ≠ t2 ∧ t0 ≠ t1 ∧ t0 ≠ t2 ∧ t1 ≠ t2
set_option maxRecDepth 65536 in
set_option maxHeartbeats 40000000 in
theorem rmI (l : Launch) (Z : State) (a0 : Array Value) (hw : ∀ d ∈ tables_1, d.before a0 Z = true) (a : Addr) (h0 : Heap) (n0 : Nat) (Z0 : n0 ≤ h0.size) (E_a : Exa Z h0 a "com/example/idealyze/idealyze/simulation/Tally") (F_a_satisfied : Fld Z h0 a "com/example/idealyze/idealyze/simulation/Tally" "satisfied" "[J" .null) (F_a_together : Fld Z h0 a "com/example/idealyze/idealyze/simulation/Tally" "together" "[[J" .null) (F_a_paths : Fld Z h0 a "com/example/idealyze/idealyze/simulation/Tally" "paths" "J" (.long (0 : Int64))) (g_a : n0 ≤ a) :
    Ctr l Z h0 (⟨"com/example/idealyze/idealyze/simulation/Tally", "<init>", "(I)V"⟩ : MethodName) prog_163_method_1_code 2 none [] ({ frames := 1, cells := 5, slots := 15, locals := 12 } : Room) #[(.ref a), (.int (3 : Int32))] (Q_rmI Z a h0 n0) := by
  refine Ctr.make (plainFor_of_name pn_29) fun p e s m below meth c s₁ K hret hml hx hby hown hnm hZ X0 e0 hK => ?_
  have hown : s.vm.findClass "com/example/idealyze/idealyze/simulation/Tally" = some m.cls := hown
  have N0 := Fr.nil n0
  have K0 : Keep h0 h0 [a] := Keep.refl _ _
  refine Wlk.of (fun _ k => castTop (ef_rmI m a) k) ?_
  show Wlk p.tables e below (s₁.setTop (mkF m 0 #[rv a, iv (3 : Int32)] [])) K
  refine Wlk.of (fun _ k => XS.aloadN X0.here hx rfl (hb hby d2_0) rfl rfl k) ?_
  show Wlk p.tables e below (s₁.setTop (mkF m 1 #[rv a, iv (3 : Int32)] [(.ref a)])) K
  obtain ⟨T1, X1, e1, st1⟩ := initO X0 hx hZ hown (wd hw 11 rfl) (wd hw 12 rfl) (wd hw 13 rfl) e0 (g := (mkF m 1 #[rv a, iv (3 : Int32)] [(.ref a)])) rfl (by rw [hml]; rfl) rfl (hb hby d2_1) (by decide) (W := 0) (by show 2 * 0 + _ ≤ _; exact Nat.le_of_eq rfl) (by decide)
  refine Wlk.of (fun _ k => st1 _ k) ?_
  show Wlk p.tables e below (T1.setTop (mkF m 4 #[rv a, iv (3 : Int32)] [])) K
  refine Wlk.of (fun _ k => XS.aloadN X1.here hx rfl (hb hby d2_4) rfl rfl k) ?_
  show Wlk p.tables e below (T1.setTop (mkF m 5 #[rv a, iv (3 : Int32)] [(.ref a)])) K
  refine Wlk.of (fun _ k => XS.iloadN X1.here hx rfl (hb hby d2_5) rfl k) ?_
  show Wlk p.tables e below (T1.setTop (mkF m 6 #[rv a, iv (3 : Int32)] [(.int (3 : Int32)), (.ref a)])) K
  obtain ⟨T2, h2, X2, e2, E2, A2, st2⟩ := newL X1 hx hZ (wd hw 14 rfl) e1 (g := (mkF m 6 #[rv a, iv (3 : Int32)] [(.int (3 : Int32)), (.ref a)])) rfl (hb hby d2_6) rfl (by decide) (cap := 3) (by decide) (by decide) (by decide) (by decide)
  obtain ⟨b2, g2⟩ : ∃ z, z = h0.size := ⟨_, rfl⟩
  rw [← g2] at A2 st2
  have ne3 : a ≠ b2 := Nat.ne_of_lt (Nat.lt_of_lt_of_le E_a.lt (Nat.le_of_eq g2.symm))
  have sz_b2 : h0.size ≤ b2 := Nat.le_trans K0.1 (Nat.le_of_eq g2.symm)
  have g_b2 : n0 ≤ b2 := Nat.le_trans Z0 sz_b2
  have K5 : Keep h0 h2 [a] := K0.ext E2
  have A_b2 : Arl Z h2 b2 .long [(.long (0 : Int64)), (.long (0 : Int64)), (.long (0 : Int64))] := A2
  refine Wlk.of (fun _ k => st2 _ k) ?_
  show Wlk p.tables e below (T2.setTop (mkF m 8 #[rv a, iv (3 : Int32)] [(.ref b2), (.ref a)])) K
  have f6 : Fld Z h2 a "com/example/idealyze/idealyze/simulation/Tally" "satisfied" "[J" .null := (F_a_satisfied.ext E2)
  have f7 : Exa Z h2 a "com/example/idealyze/idealyze/simulation/Tally" := (E_a.ext E2)
  obtain ⟨T8, h8, X8, e8, W8, st8⟩ := putF X2 hx hZ hown (host := "") (Or.inl (wd hw 15 rfl)) Via.refl e2 f6 f7 (Or.inr ⟨(wd hw 16 rfl), rfl, hnm⟩) (wd hw 6 rfl) (ty := (.array .long)) (by decide) rfl rfl (g := (mkF m 8 #[rv a, iv (3 : Int32)] [(.ref b2), (.ref a)])) rfl rfl (hb hby d2_8)
  have Fw8 := f6.same W8
  refine Wlk.of (fun _ k => st8 _ k) ?_
  have K9 : Keep h0 h8 [a] := K5.wr W8 (Or.inl (List.mem_of_getElem? (i := 0) rfl))
  have N10 := Fr.snoc X8 N0 g_a
  show Wlk p.tables e below (T8.setTop (mkF m 11 #[rv a, iv (3 : Int32)] [])) K
  refine Wlk.of (fun _ k => XS.aloadN X8.here hx rfl (hb hby d2_11) rfl rfl k) ?_
  show Wlk p.tables e below (T8.setTop (mkF m 12 #[rv a, iv (3 : Int32)] [(.ref a)])) K
  refine Wlk.of (fun _ k => XS.iloadN X8.here hx rfl (hb hby d2_12) rfl k) ?_
  show Wlk p.tables e below (T8.setTop (mkF m 13 #[rv a, iv (3 : Int32)] [(.int (3 : Int32)), (.ref a)])) K
  refine Wlk.of (fun _ k => XS.iloadN X8.here hx rfl (hb hby d2_13) rfl k) ?_
  show Wlk p.tables e below (T8.setTop (mkF m 14 #[rv a, iv (3 : Int32)] [(.int (3 : Int32)), (.int (3 : Int32)), (.ref a)])) K
  obtain ⟨T11, h11, X11, e11, E11, A11, I11, st11⟩ := gridL X8 hx hZ hown (C := "[J") (ad := "[[J") (by decide) (by decide) (wd hw 17 rfl) (wd hw 18 rfl) (wd hw 14 rfl) e8 (g := (mkF m 14 #[rv a, iv (3 : Int32)] [(.int (3 : Int32)), (.int (3 : Int32)), (.ref a)])) rfl (hb hby d2_14) rfl (by decide) (by decide) (N := 3) (cap := 3) (by decide) (by decide) (by decide) (by decide) rfl rfl (by decide) (by decide)
  obtain ⟨b11, g11⟩ : ∃ z, z = h8.size := ⟨_, rfl⟩
  rw [← g11] at A11 I11 st11
  have f12 : Exa Z h8 a "com/example/idealyze/idealyze/simulation/Tally" := (f7.wr W8)
  have f13 : Arl Z h8 b2 .long [(.long (0 : Int64)), (.long (0 : Int64)), (.long (0 : Int64))] := (A_b2.other W8 (Ne.symm ne3))
  have ne14 : a ≠ b11 := Nat.ne_of_lt (Nat.lt_of_lt_of_le f12.lt (Nat.le_of_eq g11.symm))
  have ne15 : b2 ≠ b11 := Nat.ne_of_lt (Nat.lt_of_lt_of_le f13.lt (Nat.le_of_eq g11.symm))
  have sz_b11 : h0.size ≤ b11 := Nat.le_trans K9.1 (Nat.le_of_eq g11.symm)
  have g_b11 : n0 ≤ b11 := Nat.le_trans Z0 sz_b11
  obtain ⟨b11_0, gb11_0⟩ : ∃ z, z = b11 + 1 + 0 := ⟨_, rfl⟩
  have ne17 : a ≠ b11_0 := Nat.ne_of_lt (Nat.lt_of_lt_of_le (Nat.lt_of_lt_of_le f12.lt (Nat.le_of_eq g11.symm)) (by omega))
  have ne18 : b2 ≠ b11_0 := Nat.ne_of_lt (Nat.lt_of_lt_of_le (Nat.lt_of_lt_of_le f13.lt (Nat.le_of_eq g11.symm)) (by omega))
  have ne19 : b11 ≠ b11_0 := by omega
  have sz_b11_0 : h0.size ≤ b11_0 := by have := sz_b11; omega
  have g_b11_0 : n0 ≤ b11_0 := Nat.le_trans Z0 sz_b11_0
  obtain ⟨b11_1, gb11_1⟩ : ∃ z, z = b11 + 1 + 1 := ⟨_, rfl⟩
  have ne20 : a ≠ b11_1 := Nat.ne_of_lt (Nat.lt_of_lt_of_le (Nat.lt_of_lt_of_le f12.lt (Nat.le_of_eq g11.symm)) (by omega))
  have ne21 : b2 ≠ b11_1 := Nat.ne_of_lt (Nat.lt_of_lt_of_le (Nat.lt_of_lt_of_le f13.lt (Nat.le_of_eq g11.symm)) (by omega))
  have ne22 : b11 ≠ b11_1 := by omega
  have ne23 : b11_0 ≠ b11_1 := by omega
  have sz_b11_1 : h0.size ≤ b11_1 := by have := sz_b11; omega
  have g_b11_1 : n0 ≤ b11_1 := Nat.le_trans Z0 sz_b11_1
  obtain ⟨b11_2, gb11_2⟩ : ∃ z, z = b11 + 1 + 2 := ⟨_, rfl⟩
  have ne24 : a ≠ b11_2 := Nat.ne_of_lt (Nat.lt_of_lt_of_le (Nat.lt_of_lt_of_le f12.lt (Nat.le_of_eq g11.symm)) (by omega))
  have ne25 : b2 ≠ b11_2 := Nat.ne_of_lt (Nat.lt_of_lt_of_le (Nat.lt_of_lt_of_le f13.lt (Nat.le_of_eq g11.symm)) (by omega))
  have ne26 : b11 ≠ b11_2 := by omega
  have ne27 : b11_0 ≠ b11_2 := by omega
  have ne28 : b11_1 ≠ b11_2 := by omega
  have sz_b11_2 : h0.size ≤ b11_2 := by have := sz_b11; omega
  have g_b11_2 : n0 ≤ b11_2 := Nat.le_trans Z0 sz_b11_2
  have K29 : Keep h0 h11 [a] := K9.ext E11
  have A_b11 : Arl Z h11 b11 (.array .long) [(.ref b11_0), (.ref b11_1), (.ref b11_2)] := by rw [gb11_0, gb11_1, gb11_2]; exact A11
  have A_b11_0 : Arl Z h11 b11_0 .long [(.long (0 : Int64)), (.long (0 : Int64)), (.long (0 : Int64))] := by rw [gb11_0]; exact I11 0 (by decide)
  have A_b11_1 : Arl Z h11 b11_1 .long [(.long (0 : Int64)), (.long (0 : Int64)), (.long (0 : Int64))] := by rw [gb11_1]; exact I11 1 (by decide)
  have A_b11_2 : Arl Z h11 b11_2 .long [(.long (0 : Int64)), (.long (0 : Int64)), (.long (0 : Int64))] := by rw [gb11_2]; exact I11 2 (by decide)
  refine Wlk.of (fun _ k => st11 _ k) ?_
  show Wlk p.tables e below (T11.setTop (mkF m 18 #[rv a, iv (3 : Int32)] [(.ref b11), (.ref a)])) K
  have f30 : Fld Z h11 a "com/example/idealyze/idealyze/simulation/Tally" "together" "[[J" .null := (((F_a_together.ext E2).other W8 (Or.inr (slot_ne (Or.inr (wd hw 20 rfl)) (Or.inr (wd hw 16 rfl)) (by decide) (t := (.array (.array .long))) (t' := (.array .long)) (by decide) (by decide)))).ext E11)
  have f31 : Exa Z h11 a "com/example/idealyze/idealyze/simulation/Tally" := (f12.ext E11)
  obtain ⟨T32, h32, X32, e32, W32, st32⟩ := putF X11 hx hZ hown (host := "") (Or.inl (wd hw 19 rfl)) Via.refl e11 f30 f31 (Or.inr ⟨(wd hw 20 rfl), rfl, hnm⟩) (wd hw 6 rfl) (ty := (.array (.array .long))) (by decide) rfl rfl (g := (mkF m 18 #[rv a, iv (3 : Int32)] [(.ref b11), (.ref a)])) rfl rfl (hb hby d2_18)
  have Fw32 := f30.same W32
  refine Wlk.of (fun _ k => st32 _ k) ?_
  have K33 : Keep h0 h32 [a] := K29.wr W32 (Or.inl (List.mem_of_getElem? (i := 0) rfl))
  have N34 := Fr.snoc X32 N10 g_a
  show Wlk p.tables e below (T32.setTop (mkF m 21 #[rv a, iv (3 : Int32)] [])) K
  have f35 : Fld Z h32 a "com/example/idealyze/idealyze/simulation/Tally" "satisfied" "[J" (.ref b2) := ((Fw8.ext E11).other W32 (Or.inr (slot_ne (Or.inr (wd hw 16 rfl)) (Or.inr (wd hw 20 rfl)) (by decide) (t := (.array .long)) (t' := (.array (.array .long))) (by decide) (by decide))))
  have f36 : Fld Z h32 a "com/example/idealyze/idealyze/simulation/Tally" "paths" "J" (.long (0 : Int64)) := ((((F_a_paths.ext E2).other W8 (Or.inr (slot_ne (Or.inl (wd hw 27 rfl)) (Or.inr (wd hw 16 rfl)) (by decide) (t := .long) (t' := (.array .long)) (by decide) (by decide)))).ext E11).other W32 (Or.inr (slot_ne (Or.inl (wd hw 27 rfl)) (Or.inr (wd hw 20 rfl)) (by decide) (t := .long) (t' := (.array (.array .long))) (by decide) (by decide))))
  have f37 : Arl Z h32 b2 .long [(.long (0 : Int64)), (.long (0 : Int64)), (.long (0 : Int64))] := ((f13.ext E11).other W32 (Ne.symm ne3))
  have f38 : Arl Z h32 b11 (.array .long) [(.ref b11_0), (.ref b11_1), (.ref b11_2)] := (A_b11.other W32 (Ne.symm ne14))
  have f39 : Arl Z h32 b11_0 .long [(.long (0 : Int64)), (.long (0 : Int64)), (.long (0 : Int64))] := (A_b11_0.other W32 (Ne.symm ne17))
  have f40 : Arl Z h32 b11_1 .long [(.long (0 : Int64)), (.long (0 : Int64)), (.long (0 : Int64))] := (A_b11_1.other W32 (Ne.symm ne20))
  have f41 : Arl Z h32 b11_2 .long [(.long (0 : Int64)), (.long (0 : Int64)), (.long (0 : Int64))] := (A_b11_2.other W32 (Ne.symm ne24))
  refine hK none X32 (fun q => rfl) (fun fs hr => X32.returnOut hx hret (hb hby d2_21) hr) ?_ (by decide) (by decide)
  rw [show T32.heap = h32 from e32]
  exact ⟨b2, b11, b11_0, b11_1, b11_2, rfl, N34, K33, sz_b2, sz_b11, sz_b11_0, sz_b11_1, sz_b11_2, f35, Fw32, f36, f37, f38, f39, f40, f41, ne15, ne18, ne21, ne25, ne19, ne22, ne26, ne23, ne27, ne28⟩
theorem d4_0 : decode prog_163_method_2_code 0 = .ok (.aload_n 0, 1) := by decide +kernel
theorem d4_1 : decode prog_163_method_2_code 1 = .ok (.dup, 1) := by decide +kernel
theorem d4_2 : decode prog_163_method_2_code 2 = .ok (.getfield 18, 3) := by decide +kernel
theorem d4_5 : decode prog_163_method_2_code 5 = .ok (.lconst 1, 1) := by decide +kernel
theorem d4_6 : decode prog_163_method_2_code 6 = .ok (.ladd, 1) := by decide +kernel
theorem d4_7 : decode prog_163_method_2_code 7 = .ok (.putfield 18, 3) := by decide +kernel
theorem d4_10 : decode prog_163_method_2_code 10 = .ok (.iconst 0, 1) := by decide +kernel
theorem d4_11 : decode prog_163_method_2_code 11 = .ok (.istore_n 2, 1) := by decide +kernel
theorem d4_12 : decode prog_163_method_2_code 12 = .ok (.iload_n 2, 1) := by decide +kernel
theorem d4_13 : decode prog_163_method_2_code 13 = .ok (.aload_n 1, 1) := by decide +kernel
theorem d4_14 : decode prog_163_method_2_code 14 = .ok (.arraylength, 1) := by decide +kernel
theorem d4_15 : decode prog_163_method_2_code 15 = .ok (.if_icmp .ge 63, 3) := by decide +kernel
theorem d4_18 : decode prog_163_method_2_code 18 = .ok (.aload_n 1, 1) := by decide +kernel
theorem d4_19 : decode prog_163_method_2_code 19 = .ok (.iload_n 2, 1) := by decide +kernel
theorem d4_20 : decode prog_163_method_2_code 20 = .ok (.baload, 1) := by decide +kernel
theorem d4_21 : decode prog_163_method_2_code 21 = .ok (.ifCond .eq 51, 3) := by decide +kernel
theorem d4_24 : decode prog_163_method_2_code 24 = .ok (.aload_n 0, 1) := by decide +kernel
theorem d4_25 : decode prog_163_method_2_code 25 = .ok (.getfield 7, 3) := by decide +kernel
theorem d4_28 : decode prog_163_method_2_code 28 = .ok (.iload_n 2, 1) := by decide +kernel
theorem d4_29 : decode prog_163_method_2_code 29 = .ok (.dup2, 1) := by decide +kernel
theorem d4_30 : decode prog_163_method_2_code 30 = .ok (.laload, 1) := by decide +kernel
theorem d4_31 : decode prog_163_method_2_code 31 = .ok (.lconst 1, 1) := by decide +kernel
theorem d4_32 : decode prog_163_method_2_code 32 = .ok (.ladd, 1) := by decide +kernel
theorem d4_33 : decode prog_163_method_2_code 33 = .ok (.lastore, 1) := by decide +kernel
theorem d4_34 : decode prog_163_method_2_code 34 = .ok (.iload_n 2, 1) := by decide +kernel
theorem d4_35 : decode prog_163_method_2_code 35 = .ok (.iconst 1, 1) := by decide +kernel
theorem d4_36 : decode prog_163_method_2_code 36 = .ok (.iadd, 1) := by decide +kernel
theorem d4_37 : decode prog_163_method_2_code 37 = .ok (.istore_n 3, 1) := by decide +kernel
theorem d4_38 : decode prog_163_method_2_code 38 = .ok (.iload_n 3, 1) := by decide +kernel
theorem d4_39 : decode prog_163_method_2_code 39 = .ok (.aload_n 1, 1) := by decide +kernel
theorem d4_40 : decode prog_163_method_2_code 40 = .ok (.arraylength, 1) := by decide +kernel
theorem d4_41 : decode prog_163_method_2_code 41 = .ok (.if_icmp .ge 31, 3) := by decide +kernel
theorem d4_44 : decode prog_163_method_2_code 44 = .ok (.aload_n 0, 1) := by decide +kernel
theorem d4_45 : decode prog_163_method_2_code 45 = .ok (.getfield 15, 3) := by decide +kernel
theorem d4_48 : decode prog_163_method_2_code 48 = .ok (.iload_n 2, 1) := by decide +kernel
theorem d4_49 : decode prog_163_method_2_code 49 = .ok (.aaload, 1) := by decide +kernel
theorem d4_50 : decode prog_163_method_2_code 50 = .ok (.iload_n 3, 1) := by decide +kernel
theorem d4_51 : decode prog_163_method_2_code 51 = .ok (.dup2, 1) := by decide +kernel
theorem d4_52 : decode prog_163_method_2_code 52 = .ok (.laload, 1) := by decide +kernel
theorem d4_53 : decode prog_163_method_2_code 53 = .ok (.aload_n 1, 1) := by decide +kernel
theorem d4_54 : decode prog_163_method_2_code 54 = .ok (.iload_n 3, 1) := by decide +kernel
theorem d4_55 : decode prog_163_method_2_code 55 = .ok (.baload, 1) := by decide +kernel
theorem d4_56 : decode prog_163_method_2_code 56 = .ok (.ifCond .eq 7, 3) := by decide +kernel
theorem d4_59 : decode prog_163_method_2_code 59 = .ok (.lconst 1, 1) := by decide +kernel
theorem d4_60 : decode prog_163_method_2_code 60 = .ok (.goto 4, 3) := by decide +kernel
theorem d4_63 : decode prog_163_method_2_code 63 = .ok (.lconst 0, 1) := by decide +kernel
theorem d4_64 : decode prog_163_method_2_code 64 = .ok (.ladd, 1) := by decide +kernel
theorem d4_65 : decode prog_163_method_2_code 65 = .ok (.lastore, 1) := by decide +kernel
theorem d4_66 : decode prog_163_method_2_code 66 = .ok (.iinc 3 1, 3) := by decide +kernel
theorem d4_69 : decode prog_163_method_2_code 69 = .ok (.goto (-31), 3) := by decide +kernel
theorem d4_72 : decode prog_163_method_2_code 72 = .ok (.iinc 2 1, 3) := by decide +kernel
theorem d4_75 : decode prog_163_method_2_code 75 = .ok (.goto (-63), 3) := by decide +kernel
theorem d4_78 : decode prog_163_method_2_code 78 = .ok (.return_, 1) := by decide +kernel
theorem ef_rmA (m : MethodId) (a : Addr) (r : Addr) : entryFrame m #[(.ref a), (.ref r)] 4 = mkF m 0 #[rv a, rv r, un, un] [] := by first | (simp [entryFrame, mkF, argsToLocals, Value.category]; done) | rfl
def Q_rmA (Z : State) (a : Addr) (r : Addr) (sat : Addr) (tog : Addr) (t0 : Addr) (t1 : Addr) (t2 : Addr) (pt : Int64) (c0 : Int32) (c1 : Int32) (c2 : Int32) (s0 : Int64) (s1 : Int64) (s2 : Int64) (x00 : Int64) (x01 : Int64) (x02 : Int64) (x10 : Int64) (x11 : Int64) (x12 : Int64) (x20 : Int64) (x21 : Int64) (x22 : Int64) (h0 : Heap) (n0 : Nat) (v : Option Value) (h : Heap) (L : List Loc) : Prop := ∃ y00 : Int64, ∃ y01 : Int64, ∃ y02 : Int64, ∃ y10 : Int64, ∃ y11 : Int64, ∃ y12 : Int64, ∃ y20 : Int64, ∃ y21 : Int64, ∃ y22 : Int64, v = none ∧ Fr n0 L ∧ Keep h0 h [a, sat, t0, t1, t2] ∧ Fld Z h a "com/example/idealyze/idealyze/simulation/Tally" "satisfied" "[J" (.ref sat) ∧ Fld Z h a "com/example/idealyze/idealyze/simulation/Tally" "together" "[[J" (.ref tog) ∧ Fld Z h a "com/example/idealyze/idealyze/simulation/Tally" "paths" "J" (.long (pt + (1 : Int64))) ∧ Arl Z h sat .long [(.long (if c0 = (0 : Int32) then s0 else (s0 + (1 : Int64)))), (.long (if c1 = (0 : Int32) then s1 else (s1 + (1 : Int64)))), (.long (if c2 = (0 : Int32) then s2 else (s2 + (1 : Int64))))] ∧ Arl Z h t0 .long [(.long y00), (.long y01), (.long y02)] ∧ Arl Z h t1 .long [(.long y10), (.long y11), (.long y12)] ∧ Arl Z h t2 .long [(.long y20), (.long y21), (.long y22)]
set_option maxRecDepth 65536 in
set_option maxHeartbeats 40000000 in
theorem rmA (l : Launch) (Z : State) (a0 : Array Value) (hw : ∀ d ∈ tables_1, d.before a0 Z = true) (a : Addr) (r : Addr) (sat : Addr) (tog : Addr) (t0 : Addr) (t1 : Addr) (t2 : Addr) (pt : Int64) (c0 : Int32) (c1 : Int32) (c2 : Int32) (s0 : Int64) (s1 : Int64) (s2 : Int64) (x00 : Int64) (x01 : Int64) (x02 : Int64) (x10 : Int64) (x11 : Int64) (x12 : Int64) (x20 : Int64) (x21 : Int64) (x22 : Int64) (h0 : Heap) (n0 : Nat) (Z0 : n0 ≤ h0.size) (E_a : Exa Z h0 a "com/example/idealyze/idealyze/simulation/Tally") (F_a_satisfied : Fld Z h0 a "com/example/idealyze/idealyze/simulation/Tally" "satisfied" "[J" (.ref sat)) (F_a_together : Fld Z h0 a "com/example/idealyze/idealyze/simulation/Tally" "together" "[[J" (.ref tog)) (F_a_paths : Fld Z h0 a "com/example/idealyze/idealyze/simulation/Tally" "paths" "J" (.long pt)) (A_r : Arl Z h0 r .boolean [(.int c0), (.int c1), (.int c2)]) (A_sat : Arl Z h0 sat .long [(.long s0), (.long s1), (.long s2)]) (A_tog : Arl Z h0 tog (.array .long) [(.ref t0), (.ref t1), (.ref t2)]) (A_t0 : Arl Z h0 t0 .long [(.long x00), (.long x01), (.long x02)]) (A_t1 : Arl Z h0 t1 .long [(.long x10), (.long x11), (.long x12)]) (A_t2 : Arl Z h0 t2 .long [(.long x20), (.long x21), (.long x22)]) (ne_r_a : r ≠ a) (ne_r_sat : r ≠ sat) (ne_r_tog : r ≠ tog) (ne_r_t0 : r ≠ t0) (ne_r_t1 : r ≠ t1) (ne_r_t2 : r ≠ t2) (ne_a_sat : a ≠ sat) (ne_a_tog : a ≠ tog) (ne_a_t0 : a ≠ t0) (ne_a_t1 : a ≠ t1) (ne_a_t2 : a ≠ t2) (ne_sat_tog : sat ≠ tog) (ne_sat_t0 : sat ≠ t0) (ne_sat_t1 : sat ≠ t1) (ne_sat_t2 : sat ≠ t2) (ne_tog_t0 : tog ≠ t0) (ne_tog_t1 : tog ≠ t1) (ne_tog_t2 : tog ≠ t2) (ne_t0_t1 : t0 ≠ t1) (ne_t0_t2 : t0 ≠ t2) (ne_t1_t2 : t1 ≠ t2) (g_a : n0 ≤ a) (g_sat : n0 ≤ sat) (g_t0 : n0 ≤ t0) (g_t1 : n0 ≤ t1) (g_t2 : n0 ≤ t2) :
    Ctr l Z h0 (⟨"com/example/idealyze/idealyze/simulation/Tally", "add", "([Z)V"⟩ : MethodName) prog_163_method_2_code 4 none [] ({ frames := 0, cells := 0, slots := 0, locals := 0 } : Room) #[(.ref a), (.ref r)] (Q_rmA Z a r sat tog t0 t1 t2 pt c0 c1 c2 s0 s1 s2 x00 x01 x02 x10 x11 x12 x20 x21 x22 h0 n0) := by
  refine Ctr.make (plainFor_of_name pn_29) fun p e s m below meth c s₁ K hret hml hx hby hown hnm hZ X0 e0 hK => ?_
  have hown : s.vm.findClass "com/example/idealyze/idealyze/simulation/Tally" = some m.cls := hown
  have N0 := Fr.nil n0
  have K0 : Keep h0 h0 [a, sat, t0, t1, t2] := Keep.refl _ _
  refine Wlk.of (fun _ k => castTop (ef_rmA m a r) k) ?_
  show Wlk p.tables e below (s₁.setTop (mkF m 0 #[rv a, rv r, un, un] [])) K
  refine Wlk.of (fun _ k => XS.aloadN X0.here hx rfl (hb hby d4_0) rfl rfl k) ?_
  show Wlk p.tables e below (s₁.setTop (mkF m 1 #[rv a, rv r, un, un] [(.ref a)])) K
  refine Wlk.of (fun _ k => XS.dup X0.here hx rfl (hb hby d4_1) rfl rfl k) ?_
  show Wlk p.tables e below (s₁.setTop (mkF m 2 #[rv a, rv r, un, un] [(.ref a), (.ref a)])) K
  obtain ⟨T1, X1, e1, st1⟩ := getF X0 hx hZ hown (host := "") (Or.inl (wd hw 26 rfl)) Via.refl e0 F_a_paths (g := (mkF m 2 #[rv a, rv r, un, un] [(.ref a), (.ref a)])) rfl rfl (hb hby d4_2)
  refine Wlk.of (fun _ k => st1 _ k) ?_
  show Wlk p.tables e below (T1.setTop (mkF m 5 #[rv a, rv r, un, un] [(.long pt), (.ref a)])) K
  refine Wlk.of (fun _ k => XS.lconst X1.here hx rfl (hb hby d4_5) k) ?_
  show Wlk p.tables e below (T1.setTop (mkF m 6 #[rv a, rv r, un, un] [(.long (1 : Int64)), (.long pt), (.ref a)])) K
  refine Wlk.of (fun _ k => XS.ladd X1.here hx rfl (hb hby d4_6) rfl k) ?_
  show Wlk p.tables e below (T1.setTop (mkF m 7 #[rv a, rv r, un, un] [(.long (pt + (1 : Int64))), (.ref a)])) K
  obtain ⟨T2, h2, X2, e2, W2, st2⟩ := putF X1 hx hZ hown (host := "") (Or.inl (wd hw 26 rfl)) Via.refl e1 F_a_paths E_a (Or.inl (wd hw 27 rfl)) (wd hw 6 rfl) (ty := .long) (by decide) rfl rfl (g := (mkF m 7 #[rv a, rv r, un, un] [(.long (pt + (1 : Int64))), (.ref a)])) rfl rfl (hb hby d4_7)
  have Fw2 := F_a_paths.same W2
  refine Wlk.of (fun _ k => st2 _ k) ?_
  have K3 : Keep h0 h2 [a, sat, t0, t1, t2] := K0.wr W2 (Or.inl (List.mem_of_getElem? (i := 0) rfl))
  have N4 := Fr.snoc X2 N0 g_a
  show Wlk p.tables e below (T2.setTop (mkF m 10 #[rv a, rv r, un, un] [])) K
  refine Wlk.of (fun _ k => XS.iconst X2.here hx rfl (hb hby d4_10) k) ?_
  show Wlk p.tables e below (T2.setTop (mkF m 11 #[rv a, rv r, un, un] [(.int (0 : Int32))])) K
  refine Wlk.of (fun _ k => XS.istoreN X2.here hx rfl (hb hby d4_11) rfl (l' := #[rv a, rv r, iv (0 : Int32), un]) rfl k) ?_
  show Wlk p.tables e below (T2.setTop (mkF m 12 #[rv a, rv r, iv (0 : Int32), un] [])) K
  refine Wlk.of (fun _ k => XS.iloadN X2.here hx rfl (hb hby d4_12) rfl k) ?_
  show Wlk p.tables e below (T2.setTop (mkF m 13 #[rv a, rv r, iv (0 : Int32), un] [(.int (0 : Int32))])) K
  refine Wlk.of (fun _ k => XS.aloadN X2.here hx rfl (hb hby d4_13) rfl rfl k) ?_
  show Wlk p.tables e below (T2.setTop (mkF m 14 #[rv a, rv r, iv (0 : Int32), un] [(.ref r), (.int (0 : Int32))])) K
  have f5 : Arl Z h2 r .boolean [(.int c0), (.int c1), (.int c2)] := (A_r.other W2 ne_r_a)
  refine Wlk.of (fun _ k => lenL X2 hx hZ e2 f5 (n := (3 : Int32)) rfl (g := (mkF m 14 #[rv a, rv r, iv (0 : Int32), un] [(.ref r), (.int (0 : Int32))])) rfl rfl (hb hby d4_14) _ k) ?_
  show Wlk p.tables e below (T2.setTop (mkF m 15 #[rv a, rv r, iv (0 : Int32), un] [(.int (3 : Int32)), (.int (0 : Int32))])) K
  refine Wlk.of (fun _ k => XS.icmpNo X2.here hx rfl (hb hby d4_15) rfl (tlt (by decide : (0 : Int32) < (3 : Int32))).2.1 k) ?_
  show Wlk p.tables e below (T2.setTop (mkF m 18 #[rv a, rv r, iv (0 : Int32), un] [])) K
  refine Wlk.of (fun _ k => XS.aloadN X2.here hx rfl (hb hby d4_18) rfl rfl k) ?_
  show Wlk p.tables e below (T2.setTop (mkF m 19 #[rv a, rv r, iv (0 : Int32), un] [(.ref r)])) K
  refine Wlk.of (fun _ k => XS.iloadN X2.here hx rfl (hb hby d4_19) rfl k) ?_
  show Wlk p.tables e below (T2.setTop (mkF m 20 #[rv a, rv r, iv (0 : Int32), un] [(.int (0 : Int32)), (.ref r)])) K
  refine Wlk.of (fun _ k => ldZ X2 hx hZ e2 f5 (j := (0 : Int32)) (i := 0) (by decide) (by decide) rfl (g := (mkF m 20 #[rv a, rv r, iv (0 : Int32), un] [(.int (0 : Int32)), (.ref r)])) rfl rfl (hb hby d4_20) _ k) ?_
  show Wlk p.tables e below (T2.setTop (mkF m 21 #[rv a, rv r, iv (0 : Int32), un] [(.int c0)])) K
  have J6 : ∀ (T6 : State) (h6 : Heap) (ls6 : List Loc) (w6_3 : Slot) (j6_0 : Int64) (j6_1 : Int64) (j6_2 : Int64), One w6_3 → j6_0 = (if c0 = (0 : Int32) then s0 else (s0 + (1 : Int64))) → j6_1 = (if c0 = (0 : Int32) then x01 else (if c1 = (0 : Int32) then (x01 + (0 : Int64)) else (x01 + (1 : Int64)))) → j6_2 = (if c0 = (0 : Int32) then x02 else (if c1 = (0 : Int32) then (if c2 = (0 : Int32) then (x02 + (0 : Int64)) else (x02 + (1 : Int64))) else (if c2 = (0 : Int32) then (x02 + (0 : Int64)) else (x02 + (1 : Int64))))) → Stand p l e ({ frames := 0, cells := 0, slots := 0, locals := 0 } : Room) s m #[(.ref a), (.ref r)] below meth c T6 ls6 0 0 → T6.heap = h6 → Fr n0 ls6 → Keep h0 h6 [a, sat, t0, t1, t2] → Exa Z h6 a "com/example/idealyze/idealyze/simulation/Tally" → Fld Z h6 a "com/example/idealyze/idealyze/simulation/Tally" "satisfied" "[J" (.ref sat) → Fld Z h6 a "com/example/idealyze/idealyze/simulation/Tally" "together" "[[J" (.ref tog) → Fld Z h6 a "com/example/idealyze/idealyze/simulation/Tally" "paths" "J" (.long (pt + (1 : Int64))) → Arl Z h6 r .boolean [(.int c0), (.int c1), (.int c2)] → Arl Z h6 sat .long [(.long j6_0), (.long s1), (.long s2)] → Arl Z h6 tog (.array .long) [(.ref t0), (.ref t1), (.ref t2)] → Arl Z h6 t0 .long [(.long x00), (.long j6_1), (.long j6_2)] → Arl Z h6 t1 .long [(.long x10), (.long x11), (.long x12)] → Arl Z h6 t2 .long [(.long x20), (.long x21), (.long x22)] → Wlk p.tables e below (T6.setTop (mkF m 72 #[rv a, rv r, iv (0 : Int32), w6_3] [])) K := by
    intro T6 h6 ls6 w6_3 j6_0 j6_1 j6_2 hw6_3 hj6_0 hj6_1 hj6_2 X6 e6 N6 K6 z6_0 z6_1 z6_2 z6_3 z6_4 z6_5 z6_6 z6_7 z6_8 z6_9
    refine Wlk.of (fun _ k => XS.iinc X6.here hx rfl (hb hby d4_72) rfl (l' := #[rv a, rv r, iv (1 : Int32), w6_3]) rfl k) ?_
    show Wlk p.tables e below (T6.setTop (mkF m 75 #[rv a, rv r, iv (1 : Int32), w6_3] [])) K
    refine Wlk.of (fun _ k => XS.goto X6.here hx rfl (pc0 := 75) (pc' := 12) rfl (hb hby d4_75) (by decide) (by decide) k) ?_
    show Wlk p.tables e below (T6.setTop (mkF m 12 #[rv a, rv r, iv (1 : Int32), w6_3] [])) K
    refine Wlk.of (fun _ k => XS.iloadN X6.here hx rfl (hb hby d4_12) rfl k) ?_
    show Wlk p.tables e below (T6.setTop (mkF m 13 #[rv a, rv r, iv (1 : Int32), w6_3] [(.int (1 : Int32))])) K
    refine Wlk.of (fun _ k => XS.aloadN X6.here hx rfl (hb hby d4_13) rfl rfl k) ?_
    show Wlk p.tables e below (T6.setTop (mkF m 14 #[rv a, rv r, iv (1 : Int32), w6_3] [(.ref r), (.int (1 : Int32))])) K
    refine Wlk.of (fun _ k => lenL X6 hx hZ e6 z6_4 (n := (3 : Int32)) rfl (g := (mkF m 14 #[rv a, rv r, iv (1 : Int32), w6_3] [(.ref r), (.int (1 : Int32))])) rfl rfl (hb hby d4_14) _ k) ?_
    show Wlk p.tables e below (T6.setTop (mkF m 15 #[rv a, rv r, iv (1 : Int32), w6_3] [(.int (3 : Int32)), (.int (1 : Int32))])) K
    refine Wlk.of (fun _ k => XS.icmpNo X6.here hx rfl (hb hby d4_15) rfl (tlt (by decide : (1 : Int32) < (3 : Int32))).2.1 k) ?_
    show Wlk p.tables e below (T6.setTop (mkF m 18 #[rv a, rv r, iv (1 : Int32), w6_3] [])) K
    refine Wlk.of (fun _ k => XS.aloadN X6.here hx rfl (hb hby d4_18) rfl rfl k) ?_
    show Wlk p.tables e below (T6.setTop (mkF m 19 #[rv a, rv r, iv (1 : Int32), w6_3] [(.ref r)])) K
    refine Wlk.of (fun _ k => XS.iloadN X6.here hx rfl (hb hby d4_19) rfl k) ?_
    show Wlk p.tables e below (T6.setTop (mkF m 20 #[rv a, rv r, iv (1 : Int32), w6_3] [(.int (1 : Int32)), (.ref r)])) K
    refine Wlk.of (fun _ k => ldZ X6 hx hZ e6 z6_4 (j := (1 : Int32)) (i := 1) (by decide) (by decide) rfl (g := (mkF m 20 #[rv a, rv r, iv (1 : Int32), w6_3] [(.int (1 : Int32)), (.ref r)])) rfl rfl (hb hby d4_20) _ k) ?_
    show Wlk p.tables e below (T6.setTop (mkF m 21 #[rv a, rv r, iv (1 : Int32), w6_3] [(.int c1)])) K
    have J7 : ∀ (T7 : State) (h7 : Heap) (ls7 : List Loc) (w7_3 : Slot) (j7_0 : Int64) (j7_1 : Int64), One w7_3 → j7_0 = (if c1 = (0 : Int32) then s1 else (s1 + (1 : Int64))) → j7_1 = (if c1 = (0 : Int32) then x12 else (if c2 = (0 : Int32) then (x12 + (0 : Int64)) else (x12 + (1 : Int64)))) → Stand p l e ({ frames := 0, cells := 0, slots := 0, locals := 0 } : Room) s m #[(.ref a), (.ref r)] below meth c T7 ls7 0 0 → T7.heap = h7 → Fr n0 ls7 → Keep h0 h7 [a, sat, t0, t1, t2] → Exa Z h7 a "com/example/idealyze/idealyze/simulation/Tally" → Fld Z h7 a "com/example/idealyze/idealyze/simulation/Tally" "satisfied" "[J" (.ref sat) → Fld Z h7 a "com/example/idealyze/idealyze/simulation/Tally" "together" "[[J" (.ref tog) → Fld Z h7 a "com/example/idealyze/idealyze/simulation/Tally" "paths" "J" (.long (pt + (1 : Int64))) → Arl Z h7 r .boolean [(.int c0), (.int c1), (.int c2)] → Arl Z h7 sat .long [(.long j6_0), (.long j7_0), (.long s2)] → Arl Z h7 tog (.array .long) [(.ref t0), (.ref t1), (.ref t2)] → Arl Z h7 t0 .long [(.long x00), (.long j6_1), (.long j6_2)] → Arl Z h7 t1 .long [(.long x10), (.long x11), (.long j7_1)] → Arl Z h7 t2 .long [(.long x20), (.long x21), (.long x22)] → Wlk p.tables e below (T7.setTop (mkF m 72 #[rv a, rv r, iv (1 : Int32), w7_3] [])) K := by
      intro T7 h7 ls7 w7_3 j7_0 j7_1 hw7_3 hj7_0 hj7_1 X7 e7 N7 K7 z7_0 z7_1 z7_2 z7_3 z7_4 z7_5 z7_6 z7_7 z7_8 z7_9
      refine Wlk.of (fun _ k => XS.iinc X7.here hx rfl (hb hby d4_72) rfl (l' := #[rv a, rv r, iv (2 : Int32), w7_3]) rfl k) ?_
      show Wlk p.tables e below (T7.setTop (mkF m 75 #[rv a, rv r, iv (2 : Int32), w7_3] [])) K
      refine Wlk.of (fun _ k => XS.goto X7.here hx rfl (pc0 := 75) (pc' := 12) rfl (hb hby d4_75) (by decide) (by decide) k) ?_
      show Wlk p.tables e below (T7.setTop (mkF m 12 #[rv a, rv r, iv (2 : Int32), w7_3] [])) K
      refine Wlk.of (fun _ k => XS.iloadN X7.here hx rfl (hb hby d4_12) rfl k) ?_
      show Wlk p.tables e below (T7.setTop (mkF m 13 #[rv a, rv r, iv (2 : Int32), w7_3] [(.int (2 : Int32))])) K
      refine Wlk.of (fun _ k => XS.aloadN X7.here hx rfl (hb hby d4_13) rfl rfl k) ?_
      show Wlk p.tables e below (T7.setTop (mkF m 14 #[rv a, rv r, iv (2 : Int32), w7_3] [(.ref r), (.int (2 : Int32))])) K
      refine Wlk.of (fun _ k => lenL X7 hx hZ e7 z7_4 (n := (3 : Int32)) rfl (g := (mkF m 14 #[rv a, rv r, iv (2 : Int32), w7_3] [(.ref r), (.int (2 : Int32))])) rfl rfl (hb hby d4_14) _ k) ?_
      show Wlk p.tables e below (T7.setTop (mkF m 15 #[rv a, rv r, iv (2 : Int32), w7_3] [(.int (3 : Int32)), (.int (2 : Int32))])) K
      refine Wlk.of (fun _ k => XS.icmpNo X7.here hx rfl (hb hby d4_15) rfl (tlt (by decide : (2 : Int32) < (3 : Int32))).2.1 k) ?_
      show Wlk p.tables e below (T7.setTop (mkF m 18 #[rv a, rv r, iv (2 : Int32), w7_3] [])) K
      refine Wlk.of (fun _ k => XS.aloadN X7.here hx rfl (hb hby d4_18) rfl rfl k) ?_
      show Wlk p.tables e below (T7.setTop (mkF m 19 #[rv a, rv r, iv (2 : Int32), w7_3] [(.ref r)])) K
      refine Wlk.of (fun _ k => XS.iloadN X7.here hx rfl (hb hby d4_19) rfl k) ?_
      show Wlk p.tables e below (T7.setTop (mkF m 20 #[rv a, rv r, iv (2 : Int32), w7_3] [(.int (2 : Int32)), (.ref r)])) K
      refine Wlk.of (fun _ k => ldZ X7 hx hZ e7 z7_4 (j := (2 : Int32)) (i := 2) (by decide) (by decide) rfl (g := (mkF m 20 #[rv a, rv r, iv (2 : Int32), w7_3] [(.int (2 : Int32)), (.ref r)])) rfl rfl (hb hby d4_20) _ k) ?_
      show Wlk p.tables e below (T7.setTop (mkF m 21 #[rv a, rv r, iv (2 : Int32), w7_3] [(.int c2)])) K
      have J8 : ∀ (T8 : State) (h8 : Heap) (ls8 : List Loc) (w8_3 : Slot) (j8_0 : Int64), One w8_3 → j8_0 = (if c2 = (0 : Int32) then s2 else (s2 + (1 : Int64))) → Stand p l e ({ frames := 0, cells := 0, slots := 0, locals := 0 } : Room) s m #[(.ref a), (.ref r)] below meth c T8 ls8 0 0 → T8.heap = h8 → Fr n0 ls8 → Keep h0 h8 [a, sat, t0, t1, t2] → Exa Z h8 a "com/example/idealyze/idealyze/simulation/Tally" → Fld Z h8 a "com/example/idealyze/idealyze/simulation/Tally" "satisfied" "[J" (.ref sat) → Fld Z h8 a "com/example/idealyze/idealyze/simulation/Tally" "together" "[[J" (.ref tog) → Fld Z h8 a "com/example/idealyze/idealyze/simulation/Tally" "paths" "J" (.long (pt + (1 : Int64))) → Arl Z h8 r .boolean [(.int c0), (.int c1), (.int c2)] → Arl Z h8 sat .long [(.long j6_0), (.long j7_0), (.long j8_0)] → Arl Z h8 tog (.array .long) [(.ref t0), (.ref t1), (.ref t2)] → Arl Z h8 t0 .long [(.long x00), (.long j6_1), (.long j6_2)] → Arl Z h8 t1 .long [(.long x10), (.long x11), (.long j7_1)] → Arl Z h8 t2 .long [(.long x20), (.long x21), (.long x22)] → Wlk p.tables e below (T8.setTop (mkF m 72 #[rv a, rv r, iv (2 : Int32), w8_3] [])) K := by
        intro T8 h8 ls8 w8_3 j8_0 hw8_3 hj8_0 X8 e8 N8 K8 z8_0 z8_1 z8_2 z8_3 z8_4 z8_5 z8_6 z8_7 z8_8 z8_9
        refine Wlk.of (fun _ k => XS.iinc X8.here hx rfl (hb hby d4_72) rfl (l' := #[rv a, rv r, iv (3 : Int32), w8_3]) rfl k) ?_
        show Wlk p.tables e below (T8.setTop (mkF m 75 #[rv a, rv r, iv (3 : Int32), w8_3] [])) K
        refine Wlk.of (fun _ k => XS.goto X8.here hx rfl (pc0 := 75) (pc' := 12) rfl (hb hby d4_75) (by decide) (by decide) k) ?_
        show Wlk p.tables e below (T8.setTop (mkF m 12 #[rv a, rv r, iv (3 : Int32), w8_3] [])) K
        refine Wlk.of (fun _ k => XS.iloadN X8.here hx rfl (hb hby d4_12) rfl k) ?_
        show Wlk p.tables e below (T8.setTop (mkF m 13 #[rv a, rv r, iv (3 : Int32), w8_3] [(.int (3 : Int32))])) K
        refine Wlk.of (fun _ k => XS.aloadN X8.here hx rfl (hb hby d4_13) rfl rfl k) ?_
        show Wlk p.tables e below (T8.setTop (mkF m 14 #[rv a, rv r, iv (3 : Int32), w8_3] [(.ref r), (.int (3 : Int32))])) K
        refine Wlk.of (fun _ k => lenL X8 hx hZ e8 z8_4 (n := (3 : Int32)) rfl (g := (mkF m 14 #[rv a, rv r, iv (3 : Int32), w8_3] [(.ref r), (.int (3 : Int32))])) rfl rfl (hb hby d4_14) _ k) ?_
        show Wlk p.tables e below (T8.setTop (mkF m 15 #[rv a, rv r, iv (3 : Int32), w8_3] [(.int (3 : Int32)), (.int (3 : Int32))])) K
        refine Wlk.of (fun _ k => XS.icmpYes X8.here hx rfl (pc0 := 15) (pc' := 78) rfl (hb hby d4_15) rfl (flt (by decide : ¬ ((3 : Int32) < (3 : Int32)))).2.1 (by decide) (by decide) k) ?_
        show Wlk p.tables e below (T8.setTop (mkF m 78 #[rv a, rv r, iv (3 : Int32), w8_3] [])) K
        refine hK none X8 (fun q => rfl) (fun fs hr => X8.returnOut hx hret (hb hby d4_78) hr) ?_ (by decide) (by decide)
        rw [show T8.heap = h8 from e8]
        exact ⟨x00, j6_1, j6_2, x10, x11, j7_1, x20, x21, x22, rfl, N8, K8, z8_1, z8_2, z8_3, (by rw [← hj6_0, ← hj7_0, ← hj8_0]; exact z8_5), z8_7, z8_8, z8_9⟩
      by_cases hc9 : c2 = (0 : Int32)
      · refine Wlk.of (fun _ k => XS.ifYes X7.here hx rfl (pc0 := 21) (pc' := 72) rfl (hb hby d4_21) rfl ((if0 _ _).trans (teq hc9).1) (by decide) (by decide) k) ?_
        show Wlk p.tables e below (T7.setTop (mkF m 72 #[rv a, rv r, iv (2 : Int32), w7_3] [])) K
        exact J8 _ _ _ (w7_3) s2 hw7_3 (by rw [if_pos hc9]) (X7.more (by decide) (by decide)) e7 N7 K7 z7_0 z7_1 z7_2 z7_3 z7_4 z7_5 z7_6 z7_7 z7_8 z7_9
      · refine Wlk.of (fun _ k => XS.ifNo X7.here hx rfl (hb hby d4_21) rfl ((if0 _ _).trans (feq hc9).1) k) ?_
        show Wlk p.tables e below (T7.setTop (mkF m 24 #[rv a, rv r, iv (2 : Int32), w7_3] [])) K
        refine Wlk.of (fun _ k => XS.aloadN X7.here hx rfl (hb hby d4_24) rfl rfl k) ?_
        show Wlk p.tables e below (T7.setTop (mkF m 25 #[rv a, rv r, iv (2 : Int32), w7_3] [(.ref a)])) K
        obtain ⟨T10, X10, e10, st10⟩ := getF X7 hx hZ hown (host := "") (Or.inl (wd hw 15 rfl)) Via.refl e7 z7_1 (g := (mkF m 25 #[rv a, rv r, iv (2 : Int32), w7_3] [(.ref a)])) rfl rfl (hb hby d4_25)
        refine Wlk.of (fun _ k => st10 _ k) ?_
        show Wlk p.tables e below (T10.setTop (mkF m 28 #[rv a, rv r, iv (2 : Int32), w7_3] [(.ref sat)])) K
        refine Wlk.of (fun _ k => XS.iloadN X10.here hx rfl (hb hby d4_28) rfl k) ?_
        show Wlk p.tables e below (T10.setTop (mkF m 29 #[rv a, rv r, iv (2 : Int32), w7_3] [(.int (2 : Int32)), (.ref sat)])) K
        refine Wlk.of (fun _ k => XT.dup2 X10.here hx rfl (hb hby d4_29) rfl rfl rfl k) ?_
        show Wlk p.tables e below (T10.setTop (mkF m 30 #[rv a, rv r, iv (2 : Int32), w7_3] [(.int (2 : Int32)), (.ref sat), (.int (2 : Int32)), (.ref sat)])) K
        refine Wlk.of (fun _ k => ldJ X10 hx hZ e10 z7_5 (j := (2 : Int32)) (i := 2) (by decide) (by decide) rfl (g := (mkF m 30 #[rv a, rv r, iv (2 : Int32), w7_3] [(.int (2 : Int32)), (.ref sat), (.int (2 : Int32)), (.ref sat)])) rfl rfl (hb hby d4_30) _ k) ?_
        show Wlk p.tables e below (T10.setTop (mkF m 31 #[rv a, rv r, iv (2 : Int32), w7_3] [(.long s2), (.int (2 : Int32)), (.ref sat)])) K
        refine Wlk.of (fun _ k => XS.lconst X10.here hx rfl (hb hby d4_31) k) ?_
        show Wlk p.tables e below (T10.setTop (mkF m 32 #[rv a, rv r, iv (2 : Int32), w7_3] [(.long (1 : Int64)), (.long s2), (.int (2 : Int32)), (.ref sat)])) K
        refine Wlk.of (fun _ k => XS.ladd X10.here hx rfl (hb hby d4_32) rfl k) ?_
        show Wlk p.tables e below (T10.setTop (mkF m 33 #[rv a, rv r, iv (2 : Int32), w7_3] [(.long (s2 + (1 : Int64))), (.int (2 : Int32)), (.ref sat)])) K
        obtain ⟨T11, h11, X11, e11, W11, V11, st11⟩ := stJl X10 hx hZ e10 z7_5 (j := (2 : Int32)) (i := 2) (by decide) (by decide) (show 2 < 3 by decide) (g := (mkF m 33 #[rv a, rv r, iv (2 : Int32), w7_3] [(.long (s2 + (1 : Int64))), (.int (2 : Int32)), (.ref sat)])) rfl rfl (hb hby d4_33)
        refine Wlk.of (fun _ k => st11 _ k) ?_
        have K12 : Keep h0 h11 [a, sat, t0, t1, t2] := K7.wr W11 (Or.inl (List.mem_of_getElem? (i := 1) rfl))
        have N13 := Fr.snoc X11 N7 g_sat
        have Vw11 : Arl Z h11 sat .long [(.long j6_0), (.long j7_0), (.long (s2 + (1 : Int64)))] := V11
        show Wlk p.tables e below (T11.setTop (mkF m 34 #[rv a, rv r, iv (2 : Int32), w7_3] [])) K
        refine Wlk.of (fun _ k => XS.iloadN X11.here hx rfl (hb hby d4_34) rfl k) ?_
        show Wlk p.tables e below (T11.setTop (mkF m 35 #[rv a, rv r, iv (2 : Int32), w7_3] [(.int (2 : Int32))])) K
        refine Wlk.of (fun _ k => XS.iconst X11.here hx rfl (hb hby d4_35) k) ?_
        show Wlk p.tables e below (T11.setTop (mkF m 36 #[rv a, rv r, iv (2 : Int32), w7_3] [(.int (1 : Int32)), (.int (2 : Int32))])) K
        refine Wlk.of (fun _ k => XS.iadd X11.here hx rfl (hb hby d4_36) rfl k) ?_
        show Wlk p.tables e below (T11.setTop (mkF m 37 #[rv a, rv r, iv (2 : Int32), w7_3] [(.int (3 : Int32))])) K
        refine Wlk.of (fun _ k => XS.istoreNS X11.here hx rfl (hb hby d4_37) rfl rfl hw7_3 k) ?_
        show Wlk p.tables e below (T11.setTop (mkF m 38 #[rv a, rv r, iv (2 : Int32), iv (3 : Int32)] [])) K
        refine Wlk.of (fun _ k => XS.iloadN X11.here hx rfl (hb hby d4_38) rfl k) ?_
        show Wlk p.tables e below (T11.setTop (mkF m 39 #[rv a, rv r, iv (2 : Int32), iv (3 : Int32)] [(.int (3 : Int32))])) K
        refine Wlk.of (fun _ k => XS.aloadN X11.here hx rfl (hb hby d4_39) rfl rfl k) ?_
        show Wlk p.tables e below (T11.setTop (mkF m 40 #[rv a, rv r, iv (2 : Int32), iv (3 : Int32)] [(.ref r), (.int (3 : Int32))])) K
        have f14 : Arl Z h11 r .boolean [(.int c0), (.int c1), (.int c2)] := (z7_4.other W11 ne_r_sat)
        refine Wlk.of (fun _ k => lenL X11 hx hZ e11 f14 (n := (3 : Int32)) rfl (g := (mkF m 40 #[rv a, rv r, iv (2 : Int32), iv (3 : Int32)] [(.ref r), (.int (3 : Int32))])) rfl rfl (hb hby d4_40) _ k) ?_
        show Wlk p.tables e below (T11.setTop (mkF m 41 #[rv a, rv r, iv (2 : Int32), iv (3 : Int32)] [(.int (3 : Int32)), (.int (3 : Int32))])) K
        refine Wlk.of (fun _ k => XS.icmpYes X11.here hx rfl (pc0 := 41) (pc' := 72) rfl (hb hby d4_41) rfl (flt (by decide : ¬ ((3 : Int32) < (3 : Int32)))).2.1 (by decide) (by decide) k) ?_
        show Wlk p.tables e below (T11.setTop (mkF m 72 #[rv a, rv r, iv (2 : Int32), iv (3 : Int32)] [])) K
        have f15 : Exa Z h11 a "com/example/idealyze/idealyze/simulation/Tally" := (z7_0.wr W11)
        have f16 : Fld Z h11 a "com/example/idealyze/idealyze/simulation/Tally" "satisfied" "[J" (.ref sat) := (z7_1.other W11 (Or.inl ne_a_sat))
        have f17 : Fld Z h11 a "com/example/idealyze/idealyze/simulation/Tally" "together" "[[J" (.ref tog) := (z7_2.other W11 (Or.inl ne_a_sat))
        have f18 : Fld Z h11 a "com/example/idealyze/idealyze/simulation/Tally" "paths" "J" (.long (pt + (1 : Int64))) := (z7_3.other W11 (Or.inl ne_a_sat))
        have f19 : Arl Z h11 tog (.array .long) [(.ref t0), (.ref t1), (.ref t2)] := (z7_6.other W11 (Ne.symm ne_sat_tog))
        have f20 : Arl Z h11 t0 .long [(.long x00), (.long j6_1), (.long j6_2)] := (z7_7.other W11 (Ne.symm ne_sat_t0))
        have f21 : Arl Z h11 t1 .long [(.long x10), (.long x11), (.long j7_1)] := (z7_8.other W11 (Ne.symm ne_sat_t1))
        have f22 : Arl Z h11 t2 .long [(.long x20), (.long x21), (.long x22)] := (z7_9.other W11 (Ne.symm ne_sat_t2))
        exact J8 _ _ _ (iv (3 : Int32)) (s2 + (1 : Int64)) (One.val rfl) (by rw [if_neg hc9]) (X11.more (by decide) (by decide)) e11 N13 K12 f15 f16 f17 f18 f14 Vw11 f19 f20 f21 f22
    by_cases hc23 : c1 = (0 : Int32)
    · refine Wlk.of (fun _ k => XS.ifYes X6.here hx rfl (pc0 := 21) (pc' := 72) rfl (hb hby d4_21) rfl ((if0 _ _).trans (teq hc23).1) (by decide) (by decide) k) ?_
      show Wlk p.tables e below (T6.setTop (mkF m 72 #[rv a, rv r, iv (1 : Int32), w6_3] [])) K
      exact J7 _ _ _ (w6_3) s1 x12 hw6_3 (by rw [if_pos hc23]) (by rw [if_pos hc23]) (X6.more (by decide) (by decide)) e6 N6 K6 z6_0 z6_1 z6_2 z6_3 z6_4 z6_5 z6_6 z6_7 z6_8 z6_9
    · refine Wlk.of (fun _ k => XS.ifNo X6.here hx rfl (hb hby d4_21) rfl ((if0 _ _).trans (feq hc23).1) k) ?_
      show Wlk p.tables e below (T6.setTop (mkF m 24 #[rv a, rv r, iv (1 : Int32), w6_3] [])) K
      refine Wlk.of (fun _ k => XS.aloadN X6.here hx rfl (hb hby d4_24) rfl rfl k) ?_
      show Wlk p.tables e below (T6.setTop (mkF m 25 #[rv a, rv r, iv (1 : Int32), w6_3] [(.ref a)])) K
      obtain ⟨T24, X24, e24, st24⟩ := getF X6 hx hZ hown (host := "") (Or.inl (wd hw 15 rfl)) Via.refl e6 z6_1 (g := (mkF m 25 #[rv a, rv r, iv (1 : Int32), w6_3] [(.ref a)])) rfl rfl (hb hby d4_25)
      refine Wlk.of (fun _ k => st24 _ k) ?_
      show Wlk p.tables e below (T24.setTop (mkF m 28 #[rv a, rv r, iv (1 : Int32), w6_3] [(.ref sat)])) K
      refine Wlk.of (fun _ k => XS.iloadN X24.here hx rfl (hb hby d4_28) rfl k) ?_
      show Wlk p.tables e below (T24.setTop (mkF m 29 #[rv a, rv r, iv (1 : Int32), w6_3] [(.int (1 : Int32)), (.ref sat)])) K
      refine Wlk.of (fun _ k => XT.dup2 X24.here hx rfl (hb hby d4_29) rfl rfl rfl k) ?_
      show Wlk p.tables e below (T24.setTop (mkF m 30 #[rv a, rv r, iv (1 : Int32), w6_3] [(.int (1 : Int32)), (.ref sat), (.int (1 : Int32)), (.ref sat)])) K
      refine Wlk.of (fun _ k => ldJ X24 hx hZ e24 z6_5 (j := (1 : Int32)) (i := 1) (by decide) (by decide) rfl (g := (mkF m 30 #[rv a, rv r, iv (1 : Int32), w6_3] [(.int (1 : Int32)), (.ref sat), (.int (1 : Int32)), (.ref sat)])) rfl rfl (hb hby d4_30) _ k) ?_
      show Wlk p.tables e below (T24.setTop (mkF m 31 #[rv a, rv r, iv (1 : Int32), w6_3] [(.long s1), (.int (1 : Int32)), (.ref sat)])) K
      refine Wlk.of (fun _ k => XS.lconst X24.here hx rfl (hb hby d4_31) k) ?_
      show Wlk p.tables e below (T24.setTop (mkF m 32 #[rv a, rv r, iv (1 : Int32), w6_3] [(.long (1 : Int64)), (.long s1), (.int (1 : Int32)), (.ref sat)])) K
      refine Wlk.of (fun _ k => XS.ladd X24.here hx rfl (hb hby d4_32) rfl k) ?_
      show Wlk p.tables e below (T24.setTop (mkF m 33 #[rv a, rv r, iv (1 : Int32), w6_3] [(.long (s1 + (1 : Int64))), (.int (1 : Int32)), (.ref sat)])) K
      obtain ⟨T25, h25, X25, e25, W25, V25, st25⟩ := stJl X24 hx hZ e24 z6_5 (j := (1 : Int32)) (i := 1) (by decide) (by decide) (show 1 < 3 by decide) (g := (mkF m 33 #[rv a, rv r, iv (1 : Int32), w6_3] [(.long (s1 + (1 : Int64))), (.int (1 : Int32)), (.ref sat)])) rfl rfl (hb hby d4_33)
      refine Wlk.of (fun _ k => st25 _ k) ?_
      have K26 : Keep h0 h25 [a, sat, t0, t1, t2] := K6.wr W25 (Or.inl (List.mem_of_getElem? (i := 1) rfl))
      have N27 := Fr.snoc X25 N6 g_sat
      have Vw25 : Arl Z h25 sat .long [(.long j6_0), (.long (s1 + (1 : Int64))), (.long s2)] := V25
      show Wlk p.tables e below (T25.setTop (mkF m 34 #[rv a, rv r, iv (1 : Int32), w6_3] [])) K
      refine Wlk.of (fun _ k => XS.iloadN X25.here hx rfl (hb hby d4_34) rfl k) ?_
      show Wlk p.tables e below (T25.setTop (mkF m 35 #[rv a, rv r, iv (1 : Int32), w6_3] [(.int (1 : Int32))])) K
      refine Wlk.of (fun _ k => XS.iconst X25.here hx rfl (hb hby d4_35) k) ?_
      show Wlk p.tables e below (T25.setTop (mkF m 36 #[rv a, rv r, iv (1 : Int32), w6_3] [(.int (1 : Int32)), (.int (1 : Int32))])) K
      refine Wlk.of (fun _ k => XS.iadd X25.here hx rfl (hb hby d4_36) rfl k) ?_
      show Wlk p.tables e below (T25.setTop (mkF m 37 #[rv a, rv r, iv (1 : Int32), w6_3] [(.int (2 : Int32))])) K
      refine Wlk.of (fun _ k => XS.istoreNS X25.here hx rfl (hb hby d4_37) rfl rfl hw6_3 k) ?_
      show Wlk p.tables e below (T25.setTop (mkF m 38 #[rv a, rv r, iv (1 : Int32), iv (2 : Int32)] [])) K
      refine Wlk.of (fun _ k => XS.iloadN X25.here hx rfl (hb hby d4_38) rfl k) ?_
      show Wlk p.tables e below (T25.setTop (mkF m 39 #[rv a, rv r, iv (1 : Int32), iv (2 : Int32)] [(.int (2 : Int32))])) K
      refine Wlk.of (fun _ k => XS.aloadN X25.here hx rfl (hb hby d4_39) rfl rfl k) ?_
      show Wlk p.tables e below (T25.setTop (mkF m 40 #[rv a, rv r, iv (1 : Int32), iv (2 : Int32)] [(.ref r), (.int (2 : Int32))])) K
      have f28 : Arl Z h25 r .boolean [(.int c0), (.int c1), (.int c2)] := (z6_4.other W25 ne_r_sat)
      refine Wlk.of (fun _ k => lenL X25 hx hZ e25 f28 (n := (3 : Int32)) rfl (g := (mkF m 40 #[rv a, rv r, iv (1 : Int32), iv (2 : Int32)] [(.ref r), (.int (2 : Int32))])) rfl rfl (hb hby d4_40) _ k) ?_
      show Wlk p.tables e below (T25.setTop (mkF m 41 #[rv a, rv r, iv (1 : Int32), iv (2 : Int32)] [(.int (3 : Int32)), (.int (2 : Int32))])) K
      refine Wlk.of (fun _ k => XS.icmpNo X25.here hx rfl (hb hby d4_41) rfl (tlt (by decide : (2 : Int32) < (3 : Int32))).2.1 k) ?_
      show Wlk p.tables e below (T25.setTop (mkF m 44 #[rv a, rv r, iv (1 : Int32), iv (2 : Int32)] [])) K
      refine Wlk.of (fun _ k => XS.aloadN X25.here hx rfl (hb hby d4_44) rfl rfl k) ?_
      show Wlk p.tables e below (T25.setTop (mkF m 45 #[rv a, rv r, iv (1 : Int32), iv (2 : Int32)] [(.ref a)])) K
      have f29 : Fld Z h25 a "com/example/idealyze/idealyze/simulation/Tally" "together" "[[J" (.ref tog) := (z6_2.other W25 (Or.inl ne_a_sat))
      obtain ⟨T30, X30, e30, st30⟩ := getF X25 hx hZ hown (host := "") (Or.inl (wd hw 19 rfl)) Via.refl e25 f29 (g := (mkF m 45 #[rv a, rv r, iv (1 : Int32), iv (2 : Int32)] [(.ref a)])) rfl rfl (hb hby d4_45)
      refine Wlk.of (fun _ k => st30 _ k) ?_
      show Wlk p.tables e below (T30.setTop (mkF m 48 #[rv a, rv r, iv (1 : Int32), iv (2 : Int32)] [(.ref tog)])) K
      refine Wlk.of (fun _ k => XS.iloadN X30.here hx rfl (hb hby d4_48) rfl k) ?_
      show Wlk p.tables e below (T30.setTop (mkF m 49 #[rv a, rv r, iv (1 : Int32), iv (2 : Int32)] [(.int (1 : Int32)), (.ref tog)])) K
      have f31 : Arl Z h25 tog (.array .long) [(.ref t0), (.ref t1), (.ref t2)] := (z6_6.other W25 (Ne.symm ne_sat_tog))
      refine Wlk.of (fun _ k => ldR X30 hx hZ e30 f31 rfl (j := (1 : Int32)) (i := 1) (by decide) (by decide) rfl (g := (mkF m 49 #[rv a, rv r, iv (1 : Int32), iv (2 : Int32)] [(.int (1 : Int32)), (.ref tog)])) rfl rfl (hb hby d4_49) _ k) ?_
      show Wlk p.tables e below (T30.setTop (mkF m 50 #[rv a, rv r, iv (1 : Int32), iv (2 : Int32)] [(.ref t1)])) K
      refine Wlk.of (fun _ k => XS.iloadN X30.here hx rfl (hb hby d4_50) rfl k) ?_
      show Wlk p.tables e below (T30.setTop (mkF m 51 #[rv a, rv r, iv (1 : Int32), iv (2 : Int32)] [(.int (2 : Int32)), (.ref t1)])) K
      refine Wlk.of (fun _ k => XT.dup2 X30.here hx rfl (hb hby d4_51) rfl rfl rfl k) ?_
      show Wlk p.tables e below (T30.setTop (mkF m 52 #[rv a, rv r, iv (1 : Int32), iv (2 : Int32)] [(.int (2 : Int32)), (.ref t1), (.int (2 : Int32)), (.ref t1)])) K
      have f32 : Arl Z h25 t1 .long [(.long x10), (.long x11), (.long x12)] := (z6_8.other W25 (Ne.symm ne_sat_t1))
      refine Wlk.of (fun _ k => ldJ X30 hx hZ e30 f32 (j := (2 : Int32)) (i := 2) (by decide) (by decide) rfl (g := (mkF m 52 #[rv a, rv r, iv (1 : Int32), iv (2 : Int32)] [(.int (2 : Int32)), (.ref t1), (.int (2 : Int32)), (.ref t1)])) rfl rfl (hb hby d4_52) _ k) ?_
      show Wlk p.tables e below (T30.setTop (mkF m 53 #[rv a, rv r, iv (1 : Int32), iv (2 : Int32)] [(.long x12), (.int (2 : Int32)), (.ref t1)])) K
      refine Wlk.of (fun _ k => XS.aloadN X30.here hx rfl (hb hby d4_53) rfl rfl k) ?_
      show Wlk p.tables e below (T30.setTop (mkF m 54 #[rv a, rv r, iv (1 : Int32), iv (2 : Int32)] [(.ref r), (.long x12), (.int (2 : Int32)), (.ref t1)])) K
      refine Wlk.of (fun _ k => XS.iloadN X30.here hx rfl (hb hby d4_54) rfl k) ?_
      show Wlk p.tables e below (T30.setTop (mkF m 55 #[rv a, rv r, iv (1 : Int32), iv (2 : Int32)] [(.int (2 : Int32)), (.ref r), (.long x12), (.int (2 : Int32)), (.ref t1)])) K
      refine Wlk.of (fun _ k => ldZ X30 hx hZ e30 f28 (j := (2 : Int32)) (i := 2) (by decide) (by decide) rfl (g := (mkF m 55 #[rv a, rv r, iv (1 : Int32), iv (2 : Int32)] [(.int (2 : Int32)), (.ref r), (.long x12), (.int (2 : Int32)), (.ref t1)])) rfl rfl (hb hby d4_55) _ k) ?_
      show Wlk p.tables e below (T30.setTop (mkF m 56 #[rv a, rv r, iv (1 : Int32), iv (2 : Int32)] [(.int c2), (.long x12), (.int (2 : Int32)), (.ref t1)])) K
      by_cases hc33 : c2 = (0 : Int32)
      · refine Wlk.of (fun _ k => XS.ifYes X30.here hx rfl (pc0 := 56) (pc' := 63) rfl (hb hby d4_56) rfl ((if0 _ _).trans (teq hc33).1) (by decide) (by decide) k) ?_
        show Wlk p.tables e below (T30.setTop (mkF m 63 #[rv a, rv r, iv (1 : Int32), iv (2 : Int32)] [(.long x12), (.int (2 : Int32)), (.ref t1)])) K
        refine Wlk.of (fun _ k => XS.lconst X30.here hx rfl (hb hby d4_63) k) ?_
        show Wlk p.tables e below (T30.setTop (mkF m 64 #[rv a, rv r, iv (1 : Int32), iv (2 : Int32)] [(.long (0 : Int64)), (.long x12), (.int (2 : Int32)), (.ref t1)])) K
        refine Wlk.of (fun _ k => XS.ladd X30.here hx rfl (hb hby d4_64) rfl k) ?_
        show Wlk p.tables e below (T30.setTop (mkF m 65 #[rv a, rv r, iv (1 : Int32), iv (2 : Int32)] [(.long (x12 + (0 : Int64))), (.int (2 : Int32)), (.ref t1)])) K
        obtain ⟨T34, h34, X34, e34, W34, V34, st34⟩ := stJl X30 hx hZ e30 f32 (j := (2 : Int32)) (i := 2) (by decide) (by decide) (show 2 < 3 by decide) (g := (mkF m 65 #[rv a, rv r, iv (1 : Int32), iv (2 : Int32)] [(.long (x12 + (0 : Int64))), (.int (2 : Int32)), (.ref t1)])) rfl rfl (hb hby d4_65)
        refine Wlk.of (fun _ k => st34 _ k) ?_
        have K35 : Keep h0 h34 [a, sat, t0, t1, t2] := K26.wr W34 (Or.inl (List.mem_of_getElem? (i := 3) rfl))
        have N36 := Fr.snoc X34 N27 g_t1
        have Vw34 : Arl Z h34 t1 .long [(.long x10), (.long x11), (.long (x12 + (0 : Int64)))] := V34
        show Wlk p.tables e below (T34.setTop (mkF m 66 #[rv a, rv r, iv (1 : Int32), iv (2 : Int32)] [])) K
        refine Wlk.of (fun _ k => XS.iinc X34.here hx rfl (hb hby d4_66) rfl (l' := #[rv a, rv r, iv (1 : Int32), iv (3 : Int32)]) rfl k) ?_
        show Wlk p.tables e below (T34.setTop (mkF m 69 #[rv a, rv r, iv (1 : Int32), iv (3 : Int32)] [])) K
        refine Wlk.of (fun _ k => XS.goto X34.here hx rfl (pc0 := 69) (pc' := 38) rfl (hb hby d4_69) (by decide) (by decide) k) ?_
        show Wlk p.tables e below (T34.setTop (mkF m 38 #[rv a, rv r, iv (1 : Int32), iv (3 : Int32)] [])) K
        refine Wlk.of (fun _ k => XS.iloadN X34.here hx rfl (hb hby d4_38) rfl k) ?_
        show Wlk p.tables e below (T34.setTop (mkF m 39 #[rv a, rv r, iv (1 : Int32), iv (3 : Int32)] [(.int (3 : Int32))])) K
        refine Wlk.of (fun _ k => XS.aloadN X34.here hx rfl (hb hby d4_39) rfl rfl k) ?_
        show Wlk p.tables e below (T34.setTop (mkF m 40 #[rv a, rv r, iv (1 : Int32), iv (3 : Int32)] [(.ref r), (.int (3 : Int32))])) K
        have f37 : Arl Z h34 r .boolean [(.int c0), (.int c1), (.int c2)] := (f28.other W34 ne_r_t1)
        refine Wlk.of (fun _ k => lenL X34 hx hZ e34 f37 (n := (3 : Int32)) rfl (g := (mkF m 40 #[rv a, rv r, iv (1 : Int32), iv (3 : Int32)] [(.ref r), (.int (3 : Int32))])) rfl rfl (hb hby d4_40) _ k) ?_
        show Wlk p.tables e below (T34.setTop (mkF m 41 #[rv a, rv r, iv (1 : Int32), iv (3 : Int32)] [(.int (3 : Int32)), (.int (3 : Int32))])) K
        refine Wlk.of (fun _ k => XS.icmpYes X34.here hx rfl (pc0 := 41) (pc' := 72) rfl (hb hby d4_41) rfl (flt (by decide : ¬ ((3 : Int32) < (3 : Int32)))).2.1 (by decide) (by decide) k) ?_
        show Wlk p.tables e below (T34.setTop (mkF m 72 #[rv a, rv r, iv (1 : Int32), iv (3 : Int32)] [])) K
        have f38 : Exa Z h34 a "com/example/idealyze/idealyze/simulation/Tally" := ((z6_0.wr W25).wr W34)
        have f39 : Fld Z h34 a "com/example/idealyze/idealyze/simulation/Tally" "satisfied" "[J" (.ref sat) := ((z6_1.other W25 (Or.inl ne_a_sat)).other W34 (Or.inl ne_a_t1))
        have f40 : Fld Z h34 a "com/example/idealyze/idealyze/simulation/Tally" "together" "[[J" (.ref tog) := (f29.other W34 (Or.inl ne_a_t1))
        have f41 : Fld Z h34 a "com/example/idealyze/idealyze/simulation/Tally" "paths" "J" (.long (pt + (1 : Int64))) := ((z6_3.other W25 (Or.inl ne_a_sat)).other W34 (Or.inl ne_a_t1))
        have f42 : Arl Z h34 sat .long [(.long j6_0), (.long (s1 + (1 : Int64))), (.long s2)] := (Vw25.other W34 ne_sat_t1)
        have f43 : Arl Z h34 tog (.array .long) [(.ref t0), (.ref t1), (.ref t2)] := (f31.other W34 ne_tog_t1)
        have f44 : Arl Z h34 t0 .long [(.long x00), (.long j6_1), (.long j6_2)] := ((z6_7.other W25 (Ne.symm ne_sat_t0)).other W34 ne_t0_t1)
        have f45 : Arl Z h34 t2 .long [(.long x20), (.long x21), (.long x22)] := ((z6_9.other W25 (Ne.symm ne_sat_t2)).other W34 (Ne.symm ne_t1_t2))
        exact J7 _ _ _ (iv (3 : Int32)) (s1 + (1 : Int64)) (x12 + (0 : Int64)) (One.val rfl) (by rw [if_neg hc23]) (by rw [if_neg hc23, if_pos hc33]) (X34.more (by decide) (by decide)) e34 N36 K35 f38 f39 f40 f41 f37 f42 f43 f44 Vw34 f45
      · refine Wlk.of (fun _ k => XS.ifNo X30.here hx rfl (hb hby d4_56) rfl ((if0 _ _).trans (feq hc33).1) k) ?_
        show Wlk p.tables e below (T30.setTop (mkF m 59 #[rv a, rv r, iv (1 : Int32), iv (2 : Int32)] [(.long x12), (.int (2 : Int32)), (.ref t1)])) K
        refine Wlk.of (fun _ k => XS.lconst X30.here hx rfl (hb hby d4_59) k) ?_
        show Wlk p.tables e below (T30.setTop (mkF m 60 #[rv a, rv r, iv (1 : Int32), iv (2 : Int32)] [(.long (1 : Int64)), (.long x12), (.int (2 : Int32)), (.ref t1)])) K
        refine Wlk.of (fun _ k => XS.goto X30.here hx rfl (pc0 := 60) (pc' := 64) rfl (hb hby d4_60) (by decide) (by decide) k) ?_
        show Wlk p.tables e below (T30.setTop (mkF m 64 #[rv a, rv r, iv (1 : Int32), iv (2 : Int32)] [(.long (1 : Int64)), (.long x12), (.int (2 : Int32)), (.ref t1)])) K
        refine Wlk.of (fun _ k => XS.ladd X30.here hx rfl (hb hby d4_64) rfl k) ?_
        show Wlk p.tables e below (T30.setTop (mkF m 65 #[rv a, rv r, iv (1 : Int32), iv (2 : Int32)] [(.long (x12 + (1 : Int64))), (.int (2 : Int32)), (.ref t1)])) K
        obtain ⟨T46, h46, X46, e46, W46, V46, st46⟩ := stJl X30 hx hZ e30 f32 (j := (2 : Int32)) (i := 2) (by decide) (by decide) (show 2 < 3 by decide) (g := (mkF m 65 #[rv a, rv r, iv (1 : Int32), iv (2 : Int32)] [(.long (x12 + (1 : Int64))), (.int (2 : Int32)), (.ref t1)])) rfl rfl (hb hby d4_65)
        refine Wlk.of (fun _ k => st46 _ k) ?_
        have K47 : Keep h0 h46 [a, sat, t0, t1, t2] := K26.wr W46 (Or.inl (List.mem_of_getElem? (i := 3) rfl))
        have N48 := Fr.snoc X46 N27 g_t1
        have Vw46 : Arl Z h46 t1 .long [(.long x10), (.long x11), (.long (x12 + (1 : Int64)))] := V46
        show Wlk p.tables e below (T46.setTop (mkF m 66 #[rv a, rv r, iv (1 : Int32), iv (2 : Int32)] [])) K
        refine Wlk.of (fun _ k => XS.iinc X46.here hx rfl (hb hby d4_66) rfl (l' := #[rv a, rv r, iv (1 : Int32), iv (3 : Int32)]) rfl k) ?_
        show Wlk p.tables e below (T46.setTop (mkF m 69 #[rv a, rv r, iv (1 : Int32), iv (3 : Int32)] [])) K
        refine Wlk.of (fun _ k => XS.goto X46.here hx rfl (pc0 := 69) (pc' := 38) rfl (hb hby d4_69) (by decide) (by decide) k) ?_
        show Wlk p.tables e below (T46.setTop (mkF m 38 #[rv a, rv r, iv (1 : Int32), iv (3 : Int32)] [])) K
        refine Wlk.of (fun _ k => XS.iloadN X46.here hx rfl (hb hby d4_38) rfl k) ?_
        show Wlk p.tables e below (T46.setTop (mkF m 39 #[rv a, rv r, iv (1 : Int32), iv (3 : Int32)] [(.int (3 : Int32))])) K
        refine Wlk.of (fun _ k => XS.aloadN X46.here hx rfl (hb hby d4_39) rfl rfl k) ?_
        show Wlk p.tables e below (T46.setTop (mkF m 40 #[rv a, rv r, iv (1 : Int32), iv (3 : Int32)] [(.ref r), (.int (3 : Int32))])) K
        have f49 : Arl Z h46 r .boolean [(.int c0), (.int c1), (.int c2)] := (f28.other W46 ne_r_t1)
        refine Wlk.of (fun _ k => lenL X46 hx hZ e46 f49 (n := (3 : Int32)) rfl (g := (mkF m 40 #[rv a, rv r, iv (1 : Int32), iv (3 : Int32)] [(.ref r), (.int (3 : Int32))])) rfl rfl (hb hby d4_40) _ k) ?_
        show Wlk p.tables e below (T46.setTop (mkF m 41 #[rv a, rv r, iv (1 : Int32), iv (3 : Int32)] [(.int (3 : Int32)), (.int (3 : Int32))])) K
        refine Wlk.of (fun _ k => XS.icmpYes X46.here hx rfl (pc0 := 41) (pc' := 72) rfl (hb hby d4_41) rfl (flt (by decide : ¬ ((3 : Int32) < (3 : Int32)))).2.1 (by decide) (by decide) k) ?_
        show Wlk p.tables e below (T46.setTop (mkF m 72 #[rv a, rv r, iv (1 : Int32), iv (3 : Int32)] [])) K
        have f50 : Exa Z h46 a "com/example/idealyze/idealyze/simulation/Tally" := ((z6_0.wr W25).wr W46)
        have f51 : Fld Z h46 a "com/example/idealyze/idealyze/simulation/Tally" "satisfied" "[J" (.ref sat) := ((z6_1.other W25 (Or.inl ne_a_sat)).other W46 (Or.inl ne_a_t1))
        have f52 : Fld Z h46 a "com/example/idealyze/idealyze/simulation/Tally" "together" "[[J" (.ref tog) := (f29.other W46 (Or.inl ne_a_t1))
        have f53 : Fld Z h46 a "com/example/idealyze/idealyze/simulation/Tally" "paths" "J" (.long (pt + (1 : Int64))) := ((z6_3.other W25 (Or.inl ne_a_sat)).other W46 (Or.inl ne_a_t1))
        have f54 : Arl Z h46 sat .long [(.long j6_0), (.long (s1 + (1 : Int64))), (.long s2)] := (Vw25.other W46 ne_sat_t1)
        have f55 : Arl Z h46 tog (.array .long) [(.ref t0), (.ref t1), (.ref t2)] := (f31.other W46 ne_tog_t1)
        have f56 : Arl Z h46 t0 .long [(.long x00), (.long j6_1), (.long j6_2)] := ((z6_7.other W25 (Ne.symm ne_sat_t0)).other W46 ne_t0_t1)
        have f57 : Arl Z h46 t2 .long [(.long x20), (.long x21), (.long x22)] := ((z6_9.other W25 (Ne.symm ne_sat_t2)).other W46 (Ne.symm ne_t1_t2))
        exact J7 _ _ _ (iv (3 : Int32)) (s1 + (1 : Int64)) (x12 + (1 : Int64)) (One.val rfl) (by rw [if_neg hc23]) (by rw [if_neg hc23, if_neg hc33]) (X46.more (by decide) (by decide)) e46 N48 K47 f50 f51 f52 f53 f49 f54 f55 f56 Vw46 f57
  by_cases hc58 : c0 = (0 : Int32)
  · refine Wlk.of (fun _ k => XS.ifYes X2.here hx rfl (pc0 := 21) (pc' := 72) rfl (hb hby d4_21) rfl ((if0 _ _).trans (teq hc58).1) (by decide) (by decide) k) ?_
    show Wlk p.tables e below (T2.setTop (mkF m 72 #[rv a, rv r, iv (0 : Int32), un] [])) K
    have f59 : Exa Z h2 a "com/example/idealyze/idealyze/simulation/Tally" := (E_a.wr W2)
    have f60 : Fld Z h2 a "com/example/idealyze/idealyze/simulation/Tally" "satisfied" "[J" (.ref sat) := (F_a_satisfied.other W2 (Or.inr (slot_ne (Or.inr (wd hw 16 rfl)) (Or.inl (wd hw 27 rfl)) (by decide) (t := (.array .long)) (t' := .long) (by decide) (by decide))))
    have f61 : Fld Z h2 a "com/example/idealyze/idealyze/simulation/Tally" "together" "[[J" (.ref tog) := (F_a_together.other W2 (Or.inr (slot_ne (Or.inr (wd hw 20 rfl)) (Or.inl (wd hw 27 rfl)) (by decide) (t := (.array (.array .long))) (t' := .long) (by decide) (by decide))))
    have f62 : Arl Z h2 sat .long [(.long s0), (.long s1), (.long s2)] := (A_sat.other W2 (Ne.symm ne_a_sat))
    have f63 : Arl Z h2 tog (.array .long) [(.ref t0), (.ref t1), (.ref t2)] := (A_tog.other W2 (Ne.symm ne_a_tog))
    have f64 : Arl Z h2 t0 .long [(.long x00), (.long x01), (.long x02)] := (A_t0.other W2 (Ne.symm ne_a_t0))
    have f65 : Arl Z h2 t1 .long [(.long x10), (.long x11), (.long x12)] := (A_t1.other W2 (Ne.symm ne_a_t1))
    have f66 : Arl Z h2 t2 .long [(.long x20), (.long x21), (.long x22)] := (A_t2.other W2 (Ne.symm ne_a_t2))
    exact J6 _ _ _ (un) s0 x01 x02 One.u (by rw [if_pos hc58]) (by rw [if_pos hc58]) (by rw [if_pos hc58]) (X2.more (by decide) (by decide)) e2 N4 K3 f59 f60 f61 Fw2 f5 f62 f63 f64 f65 f66
  · refine Wlk.of (fun _ k => XS.ifNo X2.here hx rfl (hb hby d4_21) rfl ((if0 _ _).trans (feq hc58).1) k) ?_
    show Wlk p.tables e below (T2.setTop (mkF m 24 #[rv a, rv r, iv (0 : Int32), un] [])) K
    refine Wlk.of (fun _ k => XS.aloadN X2.here hx rfl (hb hby d4_24) rfl rfl k) ?_
    show Wlk p.tables e below (T2.setTop (mkF m 25 #[rv a, rv r, iv (0 : Int32), un] [(.ref a)])) K
    have f67 : Fld Z h2 a "com/example/idealyze/idealyze/simulation/Tally" "satisfied" "[J" (.ref sat) := (F_a_satisfied.other W2 (Or.inr (slot_ne (Or.inr (wd hw 16 rfl)) (Or.inl (wd hw 27 rfl)) (by decide) (t := (.array .long)) (t' := .long) (by decide) (by decide))))
    obtain ⟨T68, X68, e68, st68⟩ := getF X2 hx hZ hown (host := "") (Or.inl (wd hw 15 rfl)) Via.refl e2 f67 (g := (mkF m 25 #[rv a, rv r, iv (0 : Int32), un] [(.ref a)])) rfl rfl (hb hby d4_25)
    refine Wlk.of (fun _ k => st68 _ k) ?_
    show Wlk p.tables e below (T68.setTop (mkF m 28 #[rv a, rv r, iv (0 : Int32), un] [(.ref sat)])) K
    refine Wlk.of (fun _ k => XS.iloadN X68.here hx rfl (hb hby d4_28) rfl k) ?_
    show Wlk p.tables e below (T68.setTop (mkF m 29 #[rv a, rv r, iv (0 : Int32), un] [(.int (0 : Int32)), (.ref sat)])) K
    refine Wlk.of (fun _ k => XT.dup2 X68.here hx rfl (hb hby d4_29) rfl rfl rfl k) ?_
    show Wlk p.tables e below (T68.setTop (mkF m 30 #[rv a, rv r, iv (0 : Int32), un] [(.int (0 : Int32)), (.ref sat), (.int (0 : Int32)), (.ref sat)])) K
    have f69 : Arl Z h2 sat .long [(.long s0), (.long s1), (.long s2)] := (A_sat.other W2 (Ne.symm ne_a_sat))
    refine Wlk.of (fun _ k => ldJ X68 hx hZ e68 f69 (j := (0 : Int32)) (i := 0) (by decide) (by decide) rfl (g := (mkF m 30 #[rv a, rv r, iv (0 : Int32), un] [(.int (0 : Int32)), (.ref sat), (.int (0 : Int32)), (.ref sat)])) rfl rfl (hb hby d4_30) _ k) ?_
    show Wlk p.tables e below (T68.setTop (mkF m 31 #[rv a, rv r, iv (0 : Int32), un] [(.long s0), (.int (0 : Int32)), (.ref sat)])) K
    refine Wlk.of (fun _ k => XS.lconst X68.here hx rfl (hb hby d4_31) k) ?_
    show Wlk p.tables e below (T68.setTop (mkF m 32 #[rv a, rv r, iv (0 : Int32), un] [(.long (1 : Int64)), (.long s0), (.int (0 : Int32)), (.ref sat)])) K
    refine Wlk.of (fun _ k => XS.ladd X68.here hx rfl (hb hby d4_32) rfl k) ?_
    show Wlk p.tables e below (T68.setTop (mkF m 33 #[rv a, rv r, iv (0 : Int32), un] [(.long (s0 + (1 : Int64))), (.int (0 : Int32)), (.ref sat)])) K
    obtain ⟨T70, h70, X70, e70, W70, V70, st70⟩ := stJl X68 hx hZ e68 f69 (j := (0 : Int32)) (i := 0) (by decide) (by decide) (show 0 < 3 by decide) (g := (mkF m 33 #[rv a, rv r, iv (0 : Int32), un] [(.long (s0 + (1 : Int64))), (.int (0 : Int32)), (.ref sat)])) rfl rfl (hb hby d4_33)
    refine Wlk.of (fun _ k => st70 _ k) ?_
    have K71 : Keep h0 h70 [a, sat, t0, t1, t2] := K3.wr W70 (Or.inl (List.mem_of_getElem? (i := 1) rfl))
    have N72 := Fr.snoc X70 N4 g_sat
    have Vw70 : Arl Z h70 sat .long [(.long (s0 + (1 : Int64))), (.long s1), (.long s2)] := V70
    show Wlk p.tables e below (T70.setTop (mkF m 34 #[rv a, rv r, iv (0 : Int32), un] [])) K
    refine Wlk.of (fun _ k => XS.iloadN X70.here hx rfl (hb hby d4_34) rfl k) ?_
    show Wlk p.tables e below (T70.setTop (mkF m 35 #[rv a, rv r, iv (0 : Int32), un] [(.int (0 : Int32))])) K
    refine Wlk.of (fun _ k => XS.iconst X70.here hx rfl (hb hby d4_35) k) ?_
    show Wlk p.tables e below (T70.setTop (mkF m 36 #[rv a, rv r, iv (0 : Int32), un] [(.int (1 : Int32)), (.int (0 : Int32))])) K
    refine Wlk.of (fun _ k => XS.iadd X70.here hx rfl (hb hby d4_36) rfl k) ?_
    show Wlk p.tables e below (T70.setTop (mkF m 37 #[rv a, rv r, iv (0 : Int32), un] [(.int (1 : Int32))])) K
    refine Wlk.of (fun _ k => XS.istoreN X70.here hx rfl (hb hby d4_37) rfl (l' := #[rv a, rv r, iv (0 : Int32), iv (1 : Int32)]) rfl k) ?_
    show Wlk p.tables e below (T70.setTop (mkF m 38 #[rv a, rv r, iv (0 : Int32), iv (1 : Int32)] [])) K
    refine Wlk.of (fun _ k => XS.iloadN X70.here hx rfl (hb hby d4_38) rfl k) ?_
    show Wlk p.tables e below (T70.setTop (mkF m 39 #[rv a, rv r, iv (0 : Int32), iv (1 : Int32)] [(.int (1 : Int32))])) K
    refine Wlk.of (fun _ k => XS.aloadN X70.here hx rfl (hb hby d4_39) rfl rfl k) ?_
    show Wlk p.tables e below (T70.setTop (mkF m 40 #[rv a, rv r, iv (0 : Int32), iv (1 : Int32)] [(.ref r), (.int (1 : Int32))])) K
    have f73 : Arl Z h70 r .boolean [(.int c0), (.int c1), (.int c2)] := (f5.other W70 ne_r_sat)
    refine Wlk.of (fun _ k => lenL X70 hx hZ e70 f73 (n := (3 : Int32)) rfl (g := (mkF m 40 #[rv a, rv r, iv (0 : Int32), iv (1 : Int32)] [(.ref r), (.int (1 : Int32))])) rfl rfl (hb hby d4_40) _ k) ?_
    show Wlk p.tables e below (T70.setTop (mkF m 41 #[rv a, rv r, iv (0 : Int32), iv (1 : Int32)] [(.int (3 : Int32)), (.int (1 : Int32))])) K
    refine Wlk.of (fun _ k => XS.icmpNo X70.here hx rfl (hb hby d4_41) rfl (tlt (by decide : (1 : Int32) < (3 : Int32))).2.1 k) ?_
    show Wlk p.tables e below (T70.setTop (mkF m 44 #[rv a, rv r, iv (0 : Int32), iv (1 : Int32)] [])) K
    refine Wlk.of (fun _ k => XS.aloadN X70.here hx rfl (hb hby d4_44) rfl rfl k) ?_
    show Wlk p.tables e below (T70.setTop (mkF m 45 #[rv a, rv r, iv (0 : Int32), iv (1 : Int32)] [(.ref a)])) K
    have f74 : Fld Z h70 a "com/example/idealyze/idealyze/simulation/Tally" "together" "[[J" (.ref tog) := ((F_a_together.other W2 (Or.inr (slot_ne (Or.inr (wd hw 20 rfl)) (Or.inl (wd hw 27 rfl)) (by decide) (t := (.array (.array .long))) (t' := .long) (by decide) (by decide)))).other W70 (Or.inl ne_a_sat))
    obtain ⟨T75, X75, e75, st75⟩ := getF X70 hx hZ hown (host := "") (Or.inl (wd hw 19 rfl)) Via.refl e70 f74 (g := (mkF m 45 #[rv a, rv r, iv (0 : Int32), iv (1 : Int32)] [(.ref a)])) rfl rfl (hb hby d4_45)
    refine Wlk.of (fun _ k => st75 _ k) ?_
    show Wlk p.tables e below (T75.setTop (mkF m 48 #[rv a, rv r, iv (0 : Int32), iv (1 : Int32)] [(.ref tog)])) K
    refine Wlk.of (fun _ k => XS.iloadN X75.here hx rfl (hb hby d4_48) rfl k) ?_
    show Wlk p.tables e below (T75.setTop (mkF m 49 #[rv a, rv r, iv (0 : Int32), iv (1 : Int32)] [(.int (0 : Int32)), (.ref tog)])) K
    have f76 : Arl Z h70 tog (.array .long) [(.ref t0), (.ref t1), (.ref t2)] := ((A_tog.other W2 (Ne.symm ne_a_tog)).other W70 (Ne.symm ne_sat_tog))
    refine Wlk.of (fun _ k => ldR X75 hx hZ e75 f76 rfl (j := (0 : Int32)) (i := 0) (by decide) (by decide) rfl (g := (mkF m 49 #[rv a, rv r, iv (0 : Int32), iv (1 : Int32)] [(.int (0 : Int32)), (.ref tog)])) rfl rfl (hb hby d4_49) _ k) ?_
    show Wlk p.tables e below (T75.setTop (mkF m 50 #[rv a, rv r, iv (0 : Int32), iv (1 : Int32)] [(.ref t0)])) K
    refine Wlk.of (fun _ k => XS.iloadN X75.here hx rfl (hb hby d4_50) rfl k) ?_
    show Wlk p.tables e below (T75.setTop (mkF m 51 #[rv a, rv r, iv (0 : Int32), iv (1 : Int32)] [(.int (1 : Int32)), (.ref t0)])) K
    refine Wlk.of (fun _ k => XT.dup2 X75.here hx rfl (hb hby d4_51) rfl rfl rfl k) ?_
    show Wlk p.tables e below (T75.setTop (mkF m 52 #[rv a, rv r, iv (0 : Int32), iv (1 : Int32)] [(.int (1 : Int32)), (.ref t0), (.int (1 : Int32)), (.ref t0)])) K
    have f77 : Arl Z h70 t0 .long [(.long x00), (.long x01), (.long x02)] := ((A_t0.other W2 (Ne.symm ne_a_t0)).other W70 (Ne.symm ne_sat_t0))
    refine Wlk.of (fun _ k => ldJ X75 hx hZ e75 f77 (j := (1 : Int32)) (i := 1) (by decide) (by decide) rfl (g := (mkF m 52 #[rv a, rv r, iv (0 : Int32), iv (1 : Int32)] [(.int (1 : Int32)), (.ref t0), (.int (1 : Int32)), (.ref t0)])) rfl rfl (hb hby d4_52) _ k) ?_
    show Wlk p.tables e below (T75.setTop (mkF m 53 #[rv a, rv r, iv (0 : Int32), iv (1 : Int32)] [(.long x01), (.int (1 : Int32)), (.ref t0)])) K
    refine Wlk.of (fun _ k => XS.aloadN X75.here hx rfl (hb hby d4_53) rfl rfl k) ?_
    show Wlk p.tables e below (T75.setTop (mkF m 54 #[rv a, rv r, iv (0 : Int32), iv (1 : Int32)] [(.ref r), (.long x01), (.int (1 : Int32)), (.ref t0)])) K
    refine Wlk.of (fun _ k => XS.iloadN X75.here hx rfl (hb hby d4_54) rfl k) ?_
    show Wlk p.tables e below (T75.setTop (mkF m 55 #[rv a, rv r, iv (0 : Int32), iv (1 : Int32)] [(.int (1 : Int32)), (.ref r), (.long x01), (.int (1 : Int32)), (.ref t0)])) K
    refine Wlk.of (fun _ k => ldZ X75 hx hZ e75 f73 (j := (1 : Int32)) (i := 1) (by decide) (by decide) rfl (g := (mkF m 55 #[rv a, rv r, iv (0 : Int32), iv (1 : Int32)] [(.int (1 : Int32)), (.ref r), (.long x01), (.int (1 : Int32)), (.ref t0)])) rfl rfl (hb hby d4_55) _ k) ?_
    show Wlk p.tables e below (T75.setTop (mkF m 56 #[rv a, rv r, iv (0 : Int32), iv (1 : Int32)] [(.int c1), (.long x01), (.int (1 : Int32)), (.ref t0)])) K
    by_cases hc78 : c1 = (0 : Int32)
    · refine Wlk.of (fun _ k => XS.ifYes X75.here hx rfl (pc0 := 56) (pc' := 63) rfl (hb hby d4_56) rfl ((if0 _ _).trans (teq hc78).1) (by decide) (by decide) k) ?_
      show Wlk p.tables e below (T75.setTop (mkF m 63 #[rv a, rv r, iv (0 : Int32), iv (1 : Int32)] [(.long x01), (.int (1 : Int32)), (.ref t0)])) K
      refine Wlk.of (fun _ k => XS.lconst X75.here hx rfl (hb hby d4_63) k) ?_
      show Wlk p.tables e below (T75.setTop (mkF m 64 #[rv a, rv r, iv (0 : Int32), iv (1 : Int32)] [(.long (0 : Int64)), (.long x01), (.int (1 : Int32)), (.ref t0)])) K
      refine Wlk.of (fun _ k => XS.ladd X75.here hx rfl (hb hby d4_64) rfl k) ?_
      show Wlk p.tables e below (T75.setTop (mkF m 65 #[rv a, rv r, iv (0 : Int32), iv (1 : Int32)] [(.long (x01 + (0 : Int64))), (.int (1 : Int32)), (.ref t0)])) K
      obtain ⟨T79, h79, X79, e79, W79, V79, st79⟩ := stJl X75 hx hZ e75 f77 (j := (1 : Int32)) (i := 1) (by decide) (by decide) (show 1 < 3 by decide) (g := (mkF m 65 #[rv a, rv r, iv (0 : Int32), iv (1 : Int32)] [(.long (x01 + (0 : Int64))), (.int (1 : Int32)), (.ref t0)])) rfl rfl (hb hby d4_65)
      refine Wlk.of (fun _ k => st79 _ k) ?_
      have K80 : Keep h0 h79 [a, sat, t0, t1, t2] := K71.wr W79 (Or.inl (List.mem_of_getElem? (i := 2) rfl))
      have N81 := Fr.snoc X79 N72 g_t0
      have Vw79 : Arl Z h79 t0 .long [(.long x00), (.long (x01 + (0 : Int64))), (.long x02)] := V79
      show Wlk p.tables e below (T79.setTop (mkF m 66 #[rv a, rv r, iv (0 : Int32), iv (1 : Int32)] [])) K
      refine Wlk.of (fun _ k => XS.iinc X79.here hx rfl (hb hby d4_66) rfl (l' := #[rv a, rv r, iv (0 : Int32), iv (2 : Int32)]) rfl k) ?_
      show Wlk p.tables e below (T79.setTop (mkF m 69 #[rv a, rv r, iv (0 : Int32), iv (2 : Int32)] [])) K
      refine Wlk.of (fun _ k => XS.goto X79.here hx rfl (pc0 := 69) (pc' := 38) rfl (hb hby d4_69) (by decide) (by decide) k) ?_
      show Wlk p.tables e below (T79.setTop (mkF m 38 #[rv a, rv r, iv (0 : Int32), iv (2 : Int32)] [])) K
      refine Wlk.of (fun _ k => XS.iloadN X79.here hx rfl (hb hby d4_38) rfl k) ?_
      show Wlk p.tables e below (T79.setTop (mkF m 39 #[rv a, rv r, iv (0 : Int32), iv (2 : Int32)] [(.int (2 : Int32))])) K
      refine Wlk.of (fun _ k => XS.aloadN X79.here hx rfl (hb hby d4_39) rfl rfl k) ?_
      show Wlk p.tables e below (T79.setTop (mkF m 40 #[rv a, rv r, iv (0 : Int32), iv (2 : Int32)] [(.ref r), (.int (2 : Int32))])) K
      have f82 : Arl Z h79 r .boolean [(.int c0), (.int c1), (.int c2)] := (f73.other W79 ne_r_t0)
      refine Wlk.of (fun _ k => lenL X79 hx hZ e79 f82 (n := (3 : Int32)) rfl (g := (mkF m 40 #[rv a, rv r, iv (0 : Int32), iv (2 : Int32)] [(.ref r), (.int (2 : Int32))])) rfl rfl (hb hby d4_40) _ k) ?_
      show Wlk p.tables e below (T79.setTop (mkF m 41 #[rv a, rv r, iv (0 : Int32), iv (2 : Int32)] [(.int (3 : Int32)), (.int (2 : Int32))])) K
      refine Wlk.of (fun _ k => XS.icmpNo X79.here hx rfl (hb hby d4_41) rfl (tlt (by decide : (2 : Int32) < (3 : Int32))).2.1 k) ?_
      show Wlk p.tables e below (T79.setTop (mkF m 44 #[rv a, rv r, iv (0 : Int32), iv (2 : Int32)] [])) K
      refine Wlk.of (fun _ k => XS.aloadN X79.here hx rfl (hb hby d4_44) rfl rfl k) ?_
      show Wlk p.tables e below (T79.setTop (mkF m 45 #[rv a, rv r, iv (0 : Int32), iv (2 : Int32)] [(.ref a)])) K
      have f83 : Fld Z h79 a "com/example/idealyze/idealyze/simulation/Tally" "together" "[[J" (.ref tog) := (f74.other W79 (Or.inl ne_a_t0))
      obtain ⟨T84, X84, e84, st84⟩ := getF X79 hx hZ hown (host := "") (Or.inl (wd hw 19 rfl)) Via.refl e79 f83 (g := (mkF m 45 #[rv a, rv r, iv (0 : Int32), iv (2 : Int32)] [(.ref a)])) rfl rfl (hb hby d4_45)
      refine Wlk.of (fun _ k => st84 _ k) ?_
      show Wlk p.tables e below (T84.setTop (mkF m 48 #[rv a, rv r, iv (0 : Int32), iv (2 : Int32)] [(.ref tog)])) K
      refine Wlk.of (fun _ k => XS.iloadN X84.here hx rfl (hb hby d4_48) rfl k) ?_
      show Wlk p.tables e below (T84.setTop (mkF m 49 #[rv a, rv r, iv (0 : Int32), iv (2 : Int32)] [(.int (0 : Int32)), (.ref tog)])) K
      have f85 : Arl Z h79 tog (.array .long) [(.ref t0), (.ref t1), (.ref t2)] := (f76.other W79 ne_tog_t0)
      refine Wlk.of (fun _ k => ldR X84 hx hZ e84 f85 rfl (j := (0 : Int32)) (i := 0) (by decide) (by decide) rfl (g := (mkF m 49 #[rv a, rv r, iv (0 : Int32), iv (2 : Int32)] [(.int (0 : Int32)), (.ref tog)])) rfl rfl (hb hby d4_49) _ k) ?_
      show Wlk p.tables e below (T84.setTop (mkF m 50 #[rv a, rv r, iv (0 : Int32), iv (2 : Int32)] [(.ref t0)])) K
      refine Wlk.of (fun _ k => XS.iloadN X84.here hx rfl (hb hby d4_50) rfl k) ?_
      show Wlk p.tables e below (T84.setTop (mkF m 51 #[rv a, rv r, iv (0 : Int32), iv (2 : Int32)] [(.int (2 : Int32)), (.ref t0)])) K
      refine Wlk.of (fun _ k => XT.dup2 X84.here hx rfl (hb hby d4_51) rfl rfl rfl k) ?_
      show Wlk p.tables e below (T84.setTop (mkF m 52 #[rv a, rv r, iv (0 : Int32), iv (2 : Int32)] [(.int (2 : Int32)), (.ref t0), (.int (2 : Int32)), (.ref t0)])) K
      refine Wlk.of (fun _ k => ldJ X84 hx hZ e84 Vw79 (j := (2 : Int32)) (i := 2) (by decide) (by decide) rfl (g := (mkF m 52 #[rv a, rv r, iv (0 : Int32), iv (2 : Int32)] [(.int (2 : Int32)), (.ref t0), (.int (2 : Int32)), (.ref t0)])) rfl rfl (hb hby d4_52) _ k) ?_
      show Wlk p.tables e below (T84.setTop (mkF m 53 #[rv a, rv r, iv (0 : Int32), iv (2 : Int32)] [(.long x02), (.int (2 : Int32)), (.ref t0)])) K
      refine Wlk.of (fun _ k => XS.aloadN X84.here hx rfl (hb hby d4_53) rfl rfl k) ?_
      show Wlk p.tables e below (T84.setTop (mkF m 54 #[rv a, rv r, iv (0 : Int32), iv (2 : Int32)] [(.ref r), (.long x02), (.int (2 : Int32)), (.ref t0)])) K
      refine Wlk.of (fun _ k => XS.iloadN X84.here hx rfl (hb hby d4_54) rfl k) ?_
      show Wlk p.tables e below (T84.setTop (mkF m 55 #[rv a, rv r, iv (0 : Int32), iv (2 : Int32)] [(.int (2 : Int32)), (.ref r), (.long x02), (.int (2 : Int32)), (.ref t0)])) K
      refine Wlk.of (fun _ k => ldZ X84 hx hZ e84 f82 (j := (2 : Int32)) (i := 2) (by decide) (by decide) rfl (g := (mkF m 55 #[rv a, rv r, iv (0 : Int32), iv (2 : Int32)] [(.int (2 : Int32)), (.ref r), (.long x02), (.int (2 : Int32)), (.ref t0)])) rfl rfl (hb hby d4_55) _ k) ?_
      show Wlk p.tables e below (T84.setTop (mkF m 56 #[rv a, rv r, iv (0 : Int32), iv (2 : Int32)] [(.int c2), (.long x02), (.int (2 : Int32)), (.ref t0)])) K
      by_cases hc86 : c2 = (0 : Int32)
      · refine Wlk.of (fun _ k => XS.ifYes X84.here hx rfl (pc0 := 56) (pc' := 63) rfl (hb hby d4_56) rfl ((if0 _ _).trans (teq hc86).1) (by decide) (by decide) k) ?_
        show Wlk p.tables e below (T84.setTop (mkF m 63 #[rv a, rv r, iv (0 : Int32), iv (2 : Int32)] [(.long x02), (.int (2 : Int32)), (.ref t0)])) K
        refine Wlk.of (fun _ k => XS.lconst X84.here hx rfl (hb hby d4_63) k) ?_
        show Wlk p.tables e below (T84.setTop (mkF m 64 #[rv a, rv r, iv (0 : Int32), iv (2 : Int32)] [(.long (0 : Int64)), (.long x02), (.int (2 : Int32)), (.ref t0)])) K
        refine Wlk.of (fun _ k => XS.ladd X84.here hx rfl (hb hby d4_64) rfl k) ?_
        show Wlk p.tables e below (T84.setTop (mkF m 65 #[rv a, rv r, iv (0 : Int32), iv (2 : Int32)] [(.long (x02 + (0 : Int64))), (.int (2 : Int32)), (.ref t0)])) K
        obtain ⟨T87, h87, X87, e87, W87, V87, st87⟩ := stJl X84 hx hZ e84 Vw79 (j := (2 : Int32)) (i := 2) (by decide) (by decide) (show 2 < 3 by decide) (g := (mkF m 65 #[rv a, rv r, iv (0 : Int32), iv (2 : Int32)] [(.long (x02 + (0 : Int64))), (.int (2 : Int32)), (.ref t0)])) rfl rfl (hb hby d4_65)
        refine Wlk.of (fun _ k => st87 _ k) ?_
        have K88 : Keep h0 h87 [a, sat, t0, t1, t2] := K80.wr W87 (Or.inl (List.mem_of_getElem? (i := 2) rfl))
        have N89 := Fr.snoc X87 N81 g_t0
        have Vw87 : Arl Z h87 t0 .long [(.long x00), (.long (x01 + (0 : Int64))), (.long (x02 + (0 : Int64)))] := V87
        show Wlk p.tables e below (T87.setTop (mkF m 66 #[rv a, rv r, iv (0 : Int32), iv (2 : Int32)] [])) K
        refine Wlk.of (fun _ k => XS.iinc X87.here hx rfl (hb hby d4_66) rfl (l' := #[rv a, rv r, iv (0 : Int32), iv (3 : Int32)]) rfl k) ?_
        show Wlk p.tables e below (T87.setTop (mkF m 69 #[rv a, rv r, iv (0 : Int32), iv (3 : Int32)] [])) K
        refine Wlk.of (fun _ k => XS.goto X87.here hx rfl (pc0 := 69) (pc' := 38) rfl (hb hby d4_69) (by decide) (by decide) k) ?_
        show Wlk p.tables e below (T87.setTop (mkF m 38 #[rv a, rv r, iv (0 : Int32), iv (3 : Int32)] [])) K
        refine Wlk.of (fun _ k => XS.iloadN X87.here hx rfl (hb hby d4_38) rfl k) ?_
        show Wlk p.tables e below (T87.setTop (mkF m 39 #[rv a, rv r, iv (0 : Int32), iv (3 : Int32)] [(.int (3 : Int32))])) K
        refine Wlk.of (fun _ k => XS.aloadN X87.here hx rfl (hb hby d4_39) rfl rfl k) ?_
        show Wlk p.tables e below (T87.setTop (mkF m 40 #[rv a, rv r, iv (0 : Int32), iv (3 : Int32)] [(.ref r), (.int (3 : Int32))])) K
        have f90 : Arl Z h87 r .boolean [(.int c0), (.int c1), (.int c2)] := (f82.other W87 ne_r_t0)
        refine Wlk.of (fun _ k => lenL X87 hx hZ e87 f90 (n := (3 : Int32)) rfl (g := (mkF m 40 #[rv a, rv r, iv (0 : Int32), iv (3 : Int32)] [(.ref r), (.int (3 : Int32))])) rfl rfl (hb hby d4_40) _ k) ?_
        show Wlk p.tables e below (T87.setTop (mkF m 41 #[rv a, rv r, iv (0 : Int32), iv (3 : Int32)] [(.int (3 : Int32)), (.int (3 : Int32))])) K
        refine Wlk.of (fun _ k => XS.icmpYes X87.here hx rfl (pc0 := 41) (pc' := 72) rfl (hb hby d4_41) rfl (flt (by decide : ¬ ((3 : Int32) < (3 : Int32)))).2.1 (by decide) (by decide) k) ?_
        show Wlk p.tables e below (T87.setTop (mkF m 72 #[rv a, rv r, iv (0 : Int32), iv (3 : Int32)] [])) K
        have f91 : Exa Z h87 a "com/example/idealyze/idealyze/simulation/Tally" := ((((E_a.wr W2).wr W70).wr W79).wr W87)
        have f92 : Fld Z h87 a "com/example/idealyze/idealyze/simulation/Tally" "satisfied" "[J" (.ref sat) := (((f67.other W70 (Or.inl ne_a_sat)).other W79 (Or.inl ne_a_t0)).other W87 (Or.inl ne_a_t0))
        have f93 : Fld Z h87 a "com/example/idealyze/idealyze/simulation/Tally" "together" "[[J" (.ref tog) := (f83.other W87 (Or.inl ne_a_t0))
        have f94 : Fld Z h87 a "com/example/idealyze/idealyze/simulation/Tally" "paths" "J" (.long (pt + (1 : Int64))) := (((Fw2.other W70 (Or.inl ne_a_sat)).other W79 (Or.inl ne_a_t0)).other W87 (Or.inl ne_a_t0))
        have f95 : Arl Z h87 sat .long [(.long (s0 + (1 : Int64))), (.long s1), (.long s2)] := ((Vw70.other W79 ne_sat_t0).other W87 ne_sat_t0)
        have f96 : Arl Z h87 tog (.array .long) [(.ref t0), (.ref t1), (.ref t2)] := (f85.other W87 ne_tog_t0)
        have f97 : Arl Z h87 t1 .long [(.long x10), (.long x11), (.long x12)] := ((((A_t1.other W2 (Ne.symm ne_a_t1)).other W70 (Ne.symm ne_sat_t1)).other W79 (Ne.symm ne_t0_t1)).other W87 (Ne.symm ne_t0_t1))
        have f98 : Arl Z h87 t2 .long [(.long x20), (.long x21), (.long x22)] := ((((A_t2.other W2 (Ne.symm ne_a_t2)).other W70 (Ne.symm ne_sat_t2)).other W79 (Ne.symm ne_t0_t2)).other W87 (Ne.symm ne_t0_t2))
        exact J6 _ _ _ (iv (3 : Int32)) (s0 + (1 : Int64)) (x01 + (0 : Int64)) (x02 + (0 : Int64)) (One.val rfl) (by rw [if_neg hc58]) (by rw [if_neg hc58, if_pos hc78]) (by rw [if_neg hc58, if_pos hc78, if_pos hc86]) (X87.more (by decide) (by decide)) e87 N89 K88 f91 f92 f93 f94 f90 f95 f96 Vw87 f97 f98
      · refine Wlk.of (fun _ k => XS.ifNo X84.here hx rfl (hb hby d4_56) rfl ((if0 _ _).trans (feq hc86).1) k) ?_
        show Wlk p.tables e below (T84.setTop (mkF m 59 #[rv a, rv r, iv (0 : Int32), iv (2 : Int32)] [(.long x02), (.int (2 : Int32)), (.ref t0)])) K
        refine Wlk.of (fun _ k => XS.lconst X84.here hx rfl (hb hby d4_59) k) ?_
        show Wlk p.tables e below (T84.setTop (mkF m 60 #[rv a, rv r, iv (0 : Int32), iv (2 : Int32)] [(.long (1 : Int64)), (.long x02), (.int (2 : Int32)), (.ref t0)])) K
        refine Wlk.of (fun _ k => XS.goto X84.here hx rfl (pc0 := 60) (pc' := 64) rfl (hb hby d4_60) (by decide) (by decide) k) ?_
        show Wlk p.tables e below (T84.setTop (mkF m 64 #[rv a, rv r, iv (0 : Int32), iv (2 : Int32)] [(.long (1 : Int64)), (.long x02), (.int (2 : Int32)), (.ref t0)])) K
        refine Wlk.of (fun _ k => XS.ladd X84.here hx rfl (hb hby d4_64) rfl k) ?_
        show Wlk p.tables e below (T84.setTop (mkF m 65 #[rv a, rv r, iv (0 : Int32), iv (2 : Int32)] [(.long (x02 + (1 : Int64))), (.int (2 : Int32)), (.ref t0)])) K
        obtain ⟨T99, h99, X99, e99, W99, V99, st99⟩ := stJl X84 hx hZ e84 Vw79 (j := (2 : Int32)) (i := 2) (by decide) (by decide) (show 2 < 3 by decide) (g := (mkF m 65 #[rv a, rv r, iv (0 : Int32), iv (2 : Int32)] [(.long (x02 + (1 : Int64))), (.int (2 : Int32)), (.ref t0)])) rfl rfl (hb hby d4_65)
        refine Wlk.of (fun _ k => st99 _ k) ?_
        have K100 : Keep h0 h99 [a, sat, t0, t1, t2] := K80.wr W99 (Or.inl (List.mem_of_getElem? (i := 2) rfl))
        have N101 := Fr.snoc X99 N81 g_t0
        have Vw99 : Arl Z h99 t0 .long [(.long x00), (.long (x01 + (0 : Int64))), (.long (x02 + (1 : Int64)))] := V99
        show Wlk p.tables e below (T99.setTop (mkF m 66 #[rv a, rv r, iv (0 : Int32), iv (2 : Int32)] [])) K
        refine Wlk.of (fun _ k => XS.iinc X99.here hx rfl (hb hby d4_66) rfl (l' := #[rv a, rv r, iv (0 : Int32), iv (3 : Int32)]) rfl k) ?_
        show Wlk p.tables e below (T99.setTop (mkF m 69 #[rv a, rv r, iv (0 : Int32), iv (3 : Int32)] [])) K
        refine Wlk.of (fun _ k => XS.goto X99.here hx rfl (pc0 := 69) (pc' := 38) rfl (hb hby d4_69) (by decide) (by decide) k) ?_
        show Wlk p.tables e below (T99.setTop (mkF m 38 #[rv a, rv r, iv (0 : Int32), iv (3 : Int32)] [])) K
        refine Wlk.of (fun _ k => XS.iloadN X99.here hx rfl (hb hby d4_38) rfl k) ?_
        show Wlk p.tables e below (T99.setTop (mkF m 39 #[rv a, rv r, iv (0 : Int32), iv (3 : Int32)] [(.int (3 : Int32))])) K
        refine Wlk.of (fun _ k => XS.aloadN X99.here hx rfl (hb hby d4_39) rfl rfl k) ?_
        show Wlk p.tables e below (T99.setTop (mkF m 40 #[rv a, rv r, iv (0 : Int32), iv (3 : Int32)] [(.ref r), (.int (3 : Int32))])) K
        have f102 : Arl Z h99 r .boolean [(.int c0), (.int c1), (.int c2)] := (f82.other W99 ne_r_t0)
        refine Wlk.of (fun _ k => lenL X99 hx hZ e99 f102 (n := (3 : Int32)) rfl (g := (mkF m 40 #[rv a, rv r, iv (0 : Int32), iv (3 : Int32)] [(.ref r), (.int (3 : Int32))])) rfl rfl (hb hby d4_40) _ k) ?_
        show Wlk p.tables e below (T99.setTop (mkF m 41 #[rv a, rv r, iv (0 : Int32), iv (3 : Int32)] [(.int (3 : Int32)), (.int (3 : Int32))])) K
        refine Wlk.of (fun _ k => XS.icmpYes X99.here hx rfl (pc0 := 41) (pc' := 72) rfl (hb hby d4_41) rfl (flt (by decide : ¬ ((3 : Int32) < (3 : Int32)))).2.1 (by decide) (by decide) k) ?_
        show Wlk p.tables e below (T99.setTop (mkF m 72 #[rv a, rv r, iv (0 : Int32), iv (3 : Int32)] [])) K
        have f103 : Exa Z h99 a "com/example/idealyze/idealyze/simulation/Tally" := ((((E_a.wr W2).wr W70).wr W79).wr W99)
        have f104 : Fld Z h99 a "com/example/idealyze/idealyze/simulation/Tally" "satisfied" "[J" (.ref sat) := (((f67.other W70 (Or.inl ne_a_sat)).other W79 (Or.inl ne_a_t0)).other W99 (Or.inl ne_a_t0))
        have f105 : Fld Z h99 a "com/example/idealyze/idealyze/simulation/Tally" "together" "[[J" (.ref tog) := (f83.other W99 (Or.inl ne_a_t0))
        have f106 : Fld Z h99 a "com/example/idealyze/idealyze/simulation/Tally" "paths" "J" (.long (pt + (1 : Int64))) := (((Fw2.other W70 (Or.inl ne_a_sat)).other W79 (Or.inl ne_a_t0)).other W99 (Or.inl ne_a_t0))
        have f107 : Arl Z h99 sat .long [(.long (s0 + (1 : Int64))), (.long s1), (.long s2)] := ((Vw70.other W79 ne_sat_t0).other W99 ne_sat_t0)
        have f108 : Arl Z h99 tog (.array .long) [(.ref t0), (.ref t1), (.ref t2)] := (f85.other W99 ne_tog_t0)
        have f109 : Arl Z h99 t1 .long [(.long x10), (.long x11), (.long x12)] := ((((A_t1.other W2 (Ne.symm ne_a_t1)).other W70 (Ne.symm ne_sat_t1)).other W79 (Ne.symm ne_t0_t1)).other W99 (Ne.symm ne_t0_t1))
        have f110 : Arl Z h99 t2 .long [(.long x20), (.long x21), (.long x22)] := ((((A_t2.other W2 (Ne.symm ne_a_t2)).other W70 (Ne.symm ne_sat_t2)).other W79 (Ne.symm ne_t0_t2)).other W99 (Ne.symm ne_t0_t2))
        exact J6 _ _ _ (iv (3 : Int32)) (s0 + (1 : Int64)) (x01 + (0 : Int64)) (x02 + (1 : Int64)) (One.val rfl) (by rw [if_neg hc58]) (by rw [if_neg hc58, if_pos hc78]) (by rw [if_neg hc58, if_pos hc78, if_neg hc86]) (X99.more (by decide) (by decide)) e99 N101 K100 f103 f104 f105 f106 f102 f107 f108 Vw99 f109 f110
    · refine Wlk.of (fun _ k => XS.ifNo X75.here hx rfl (hb hby d4_56) rfl ((if0 _ _).trans (feq hc78).1) k) ?_
      show Wlk p.tables e below (T75.setTop (mkF m 59 #[rv a, rv r, iv (0 : Int32), iv (1 : Int32)] [(.long x01), (.int (1 : Int32)), (.ref t0)])) K
      refine Wlk.of (fun _ k => XS.lconst X75.here hx rfl (hb hby d4_59) k) ?_
      show Wlk p.tables e below (T75.setTop (mkF m 60 #[rv a, rv r, iv (0 : Int32), iv (1 : Int32)] [(.long (1 : Int64)), (.long x01), (.int (1 : Int32)), (.ref t0)])) K
      refine Wlk.of (fun _ k => XS.goto X75.here hx rfl (pc0 := 60) (pc' := 64) rfl (hb hby d4_60) (by decide) (by decide) k) ?_
      show Wlk p.tables e below (T75.setTop (mkF m 64 #[rv a, rv r, iv (0 : Int32), iv (1 : Int32)] [(.long (1 : Int64)), (.long x01), (.int (1 : Int32)), (.ref t0)])) K
      refine Wlk.of (fun _ k => XS.ladd X75.here hx rfl (hb hby d4_64) rfl k) ?_
      show Wlk p.tables e below (T75.setTop (mkF m 65 #[rv a, rv r, iv (0 : Int32), iv (1 : Int32)] [(.long (x01 + (1 : Int64))), (.int (1 : Int32)), (.ref t0)])) K
      obtain ⟨T111, h111, X111, e111, W111, V111, st111⟩ := stJl X75 hx hZ e75 f77 (j := (1 : Int32)) (i := 1) (by decide) (by decide) (show 1 < 3 by decide) (g := (mkF m 65 #[rv a, rv r, iv (0 : Int32), iv (1 : Int32)] [(.long (x01 + (1 : Int64))), (.int (1 : Int32)), (.ref t0)])) rfl rfl (hb hby d4_65)
      refine Wlk.of (fun _ k => st111 _ k) ?_
      have K112 : Keep h0 h111 [a, sat, t0, t1, t2] := K71.wr W111 (Or.inl (List.mem_of_getElem? (i := 2) rfl))
      have N113 := Fr.snoc X111 N72 g_t0
      have Vw111 : Arl Z h111 t0 .long [(.long x00), (.long (x01 + (1 : Int64))), (.long x02)] := V111
      show Wlk p.tables e below (T111.setTop (mkF m 66 #[rv a, rv r, iv (0 : Int32), iv (1 : Int32)] [])) K
      refine Wlk.of (fun _ k => XS.iinc X111.here hx rfl (hb hby d4_66) rfl (l' := #[rv a, rv r, iv (0 : Int32), iv (2 : Int32)]) rfl k) ?_
      show Wlk p.tables e below (T111.setTop (mkF m 69 #[rv a, rv r, iv (0 : Int32), iv (2 : Int32)] [])) K
      refine Wlk.of (fun _ k => XS.goto X111.here hx rfl (pc0 := 69) (pc' := 38) rfl (hb hby d4_69) (by decide) (by decide) k) ?_
      show Wlk p.tables e below (T111.setTop (mkF m 38 #[rv a, rv r, iv (0 : Int32), iv (2 : Int32)] [])) K
      refine Wlk.of (fun _ k => XS.iloadN X111.here hx rfl (hb hby d4_38) rfl k) ?_
      show Wlk p.tables e below (T111.setTop (mkF m 39 #[rv a, rv r, iv (0 : Int32), iv (2 : Int32)] [(.int (2 : Int32))])) K
      refine Wlk.of (fun _ k => XS.aloadN X111.here hx rfl (hb hby d4_39) rfl rfl k) ?_
      show Wlk p.tables e below (T111.setTop (mkF m 40 #[rv a, rv r, iv (0 : Int32), iv (2 : Int32)] [(.ref r), (.int (2 : Int32))])) K
      have f114 : Arl Z h111 r .boolean [(.int c0), (.int c1), (.int c2)] := (f73.other W111 ne_r_t0)
      refine Wlk.of (fun _ k => lenL X111 hx hZ e111 f114 (n := (3 : Int32)) rfl (g := (mkF m 40 #[rv a, rv r, iv (0 : Int32), iv (2 : Int32)] [(.ref r), (.int (2 : Int32))])) rfl rfl (hb hby d4_40) _ k) ?_
      show Wlk p.tables e below (T111.setTop (mkF m 41 #[rv a, rv r, iv (0 : Int32), iv (2 : Int32)] [(.int (3 : Int32)), (.int (2 : Int32))])) K
      refine Wlk.of (fun _ k => XS.icmpNo X111.here hx rfl (hb hby d4_41) rfl (tlt (by decide : (2 : Int32) < (3 : Int32))).2.1 k) ?_
      show Wlk p.tables e below (T111.setTop (mkF m 44 #[rv a, rv r, iv (0 : Int32), iv (2 : Int32)] [])) K
      refine Wlk.of (fun _ k => XS.aloadN X111.here hx rfl (hb hby d4_44) rfl rfl k) ?_
      show Wlk p.tables e below (T111.setTop (mkF m 45 #[rv a, rv r, iv (0 : Int32), iv (2 : Int32)] [(.ref a)])) K
      have f115 : Fld Z h111 a "com/example/idealyze/idealyze/simulation/Tally" "together" "[[J" (.ref tog) := (f74.other W111 (Or.inl ne_a_t0))
      obtain ⟨T116, X116, e116, st116⟩ := getF X111 hx hZ hown (host := "") (Or.inl (wd hw 19 rfl)) Via.refl e111 f115 (g := (mkF m 45 #[rv a, rv r, iv (0 : Int32), iv (2 : Int32)] [(.ref a)])) rfl rfl (hb hby d4_45)
      refine Wlk.of (fun _ k => st116 _ k) ?_
      show Wlk p.tables e below (T116.setTop (mkF m 48 #[rv a, rv r, iv (0 : Int32), iv (2 : Int32)] [(.ref tog)])) K
      refine Wlk.of (fun _ k => XS.iloadN X116.here hx rfl (hb hby d4_48) rfl k) ?_
      show Wlk p.tables e below (T116.setTop (mkF m 49 #[rv a, rv r, iv (0 : Int32), iv (2 : Int32)] [(.int (0 : Int32)), (.ref tog)])) K
      have f117 : Arl Z h111 tog (.array .long) [(.ref t0), (.ref t1), (.ref t2)] := (f76.other W111 ne_tog_t0)
      refine Wlk.of (fun _ k => ldR X116 hx hZ e116 f117 rfl (j := (0 : Int32)) (i := 0) (by decide) (by decide) rfl (g := (mkF m 49 #[rv a, rv r, iv (0 : Int32), iv (2 : Int32)] [(.int (0 : Int32)), (.ref tog)])) rfl rfl (hb hby d4_49) _ k) ?_
      show Wlk p.tables e below (T116.setTop (mkF m 50 #[rv a, rv r, iv (0 : Int32), iv (2 : Int32)] [(.ref t0)])) K
      refine Wlk.of (fun _ k => XS.iloadN X116.here hx rfl (hb hby d4_50) rfl k) ?_
      show Wlk p.tables e below (T116.setTop (mkF m 51 #[rv a, rv r, iv (0 : Int32), iv (2 : Int32)] [(.int (2 : Int32)), (.ref t0)])) K
      refine Wlk.of (fun _ k => XT.dup2 X116.here hx rfl (hb hby d4_51) rfl rfl rfl k) ?_
      show Wlk p.tables e below (T116.setTop (mkF m 52 #[rv a, rv r, iv (0 : Int32), iv (2 : Int32)] [(.int (2 : Int32)), (.ref t0), (.int (2 : Int32)), (.ref t0)])) K
      refine Wlk.of (fun _ k => ldJ X116 hx hZ e116 Vw111 (j := (2 : Int32)) (i := 2) (by decide) (by decide) rfl (g := (mkF m 52 #[rv a, rv r, iv (0 : Int32), iv (2 : Int32)] [(.int (2 : Int32)), (.ref t0), (.int (2 : Int32)), (.ref t0)])) rfl rfl (hb hby d4_52) _ k) ?_
      show Wlk p.tables e below (T116.setTop (mkF m 53 #[rv a, rv r, iv (0 : Int32), iv (2 : Int32)] [(.long x02), (.int (2 : Int32)), (.ref t0)])) K
      refine Wlk.of (fun _ k => XS.aloadN X116.here hx rfl (hb hby d4_53) rfl rfl k) ?_
      show Wlk p.tables e below (T116.setTop (mkF m 54 #[rv a, rv r, iv (0 : Int32), iv (2 : Int32)] [(.ref r), (.long x02), (.int (2 : Int32)), (.ref t0)])) K
      refine Wlk.of (fun _ k => XS.iloadN X116.here hx rfl (hb hby d4_54) rfl k) ?_
      show Wlk p.tables e below (T116.setTop (mkF m 55 #[rv a, rv r, iv (0 : Int32), iv (2 : Int32)] [(.int (2 : Int32)), (.ref r), (.long x02), (.int (2 : Int32)), (.ref t0)])) K
      refine Wlk.of (fun _ k => ldZ X116 hx hZ e116 f114 (j := (2 : Int32)) (i := 2) (by decide) (by decide) rfl (g := (mkF m 55 #[rv a, rv r, iv (0 : Int32), iv (2 : Int32)] [(.int (2 : Int32)), (.ref r), (.long x02), (.int (2 : Int32)), (.ref t0)])) rfl rfl (hb hby d4_55) _ k) ?_
      show Wlk p.tables e below (T116.setTop (mkF m 56 #[rv a, rv r, iv (0 : Int32), iv (2 : Int32)] [(.int c2), (.long x02), (.int (2 : Int32)), (.ref t0)])) K
      by_cases hc118 : c2 = (0 : Int32)
      · refine Wlk.of (fun _ k => XS.ifYes X116.here hx rfl (pc0 := 56) (pc' := 63) rfl (hb hby d4_56) rfl ((if0 _ _).trans (teq hc118).1) (by decide) (by decide) k) ?_
        show Wlk p.tables e below (T116.setTop (mkF m 63 #[rv a, rv r, iv (0 : Int32), iv (2 : Int32)] [(.long x02), (.int (2 : Int32)), (.ref t0)])) K
        refine Wlk.of (fun _ k => XS.lconst X116.here hx rfl (hb hby d4_63) k) ?_
        show Wlk p.tables e below (T116.setTop (mkF m 64 #[rv a, rv r, iv (0 : Int32), iv (2 : Int32)] [(.long (0 : Int64)), (.long x02), (.int (2 : Int32)), (.ref t0)])) K
        refine Wlk.of (fun _ k => XS.ladd X116.here hx rfl (hb hby d4_64) rfl k) ?_
        show Wlk p.tables e below (T116.setTop (mkF m 65 #[rv a, rv r, iv (0 : Int32), iv (2 : Int32)] [(.long (x02 + (0 : Int64))), (.int (2 : Int32)), (.ref t0)])) K
        obtain ⟨T119, h119, X119, e119, W119, V119, st119⟩ := stJl X116 hx hZ e116 Vw111 (j := (2 : Int32)) (i := 2) (by decide) (by decide) (show 2 < 3 by decide) (g := (mkF m 65 #[rv a, rv r, iv (0 : Int32), iv (2 : Int32)] [(.long (x02 + (0 : Int64))), (.int (2 : Int32)), (.ref t0)])) rfl rfl (hb hby d4_65)
        refine Wlk.of (fun _ k => st119 _ k) ?_
        have K120 : Keep h0 h119 [a, sat, t0, t1, t2] := K112.wr W119 (Or.inl (List.mem_of_getElem? (i := 2) rfl))
        have N121 := Fr.snoc X119 N113 g_t0
        have Vw119 : Arl Z h119 t0 .long [(.long x00), (.long (x01 + (1 : Int64))), (.long (x02 + (0 : Int64)))] := V119
        show Wlk p.tables e below (T119.setTop (mkF m 66 #[rv a, rv r, iv (0 : Int32), iv (2 : Int32)] [])) K
        refine Wlk.of (fun _ k => XS.iinc X119.here hx rfl (hb hby d4_66) rfl (l' := #[rv a, rv r, iv (0 : Int32), iv (3 : Int32)]) rfl k) ?_
        show Wlk p.tables e below (T119.setTop (mkF m 69 #[rv a, rv r, iv (0 : Int32), iv (3 : Int32)] [])) K
        refine Wlk.of (fun _ k => XS.goto X119.here hx rfl (pc0 := 69) (pc' := 38) rfl (hb hby d4_69) (by decide) (by decide) k) ?_
        show Wlk p.tables e below (T119.setTop (mkF m 38 #[rv a, rv r, iv (0 : Int32), iv (3 : Int32)] [])) K
        refine Wlk.of (fun _ k => XS.iloadN X119.here hx rfl (hb hby d4_38) rfl k) ?_
        show Wlk p.tables e below (T119.setTop (mkF m 39 #[rv a, rv r, iv (0 : Int32), iv (3 : Int32)] [(.int (3 : Int32))])) K
        refine Wlk.of (fun _ k => XS.aloadN X119.here hx rfl (hb hby d4_39) rfl rfl k) ?_
        show Wlk p.tables e below (T119.setTop (mkF m 40 #[rv a, rv r, iv (0 : Int32), iv (3 : Int32)] [(.ref r), (.int (3 : Int32))])) K
        have f122 : Arl Z h119 r .boolean [(.int c0), (.int c1), (.int c2)] := (f114.other W119 ne_r_t0)
        refine Wlk.of (fun _ k => lenL X119 hx hZ e119 f122 (n := (3 : Int32)) rfl (g := (mkF m 40 #[rv a, rv r, iv (0 : Int32), iv (3 : Int32)] [(.ref r), (.int (3 : Int32))])) rfl rfl (hb hby d4_40) _ k) ?_
        show Wlk p.tables e below (T119.setTop (mkF m 41 #[rv a, rv r, iv (0 : Int32), iv (3 : Int32)] [(.int (3 : Int32)), (.int (3 : Int32))])) K
        refine Wlk.of (fun _ k => XS.icmpYes X119.here hx rfl (pc0 := 41) (pc' := 72) rfl (hb hby d4_41) rfl (flt (by decide : ¬ ((3 : Int32) < (3 : Int32)))).2.1 (by decide) (by decide) k) ?_
        show Wlk p.tables e below (T119.setTop (mkF m 72 #[rv a, rv r, iv (0 : Int32), iv (3 : Int32)] [])) K
        have f123 : Exa Z h119 a "com/example/idealyze/idealyze/simulation/Tally" := ((((E_a.wr W2).wr W70).wr W111).wr W119)
        have f124 : Fld Z h119 a "com/example/idealyze/idealyze/simulation/Tally" "satisfied" "[J" (.ref sat) := (((f67.other W70 (Or.inl ne_a_sat)).other W111 (Or.inl ne_a_t0)).other W119 (Or.inl ne_a_t0))
        have f125 : Fld Z h119 a "com/example/idealyze/idealyze/simulation/Tally" "together" "[[J" (.ref tog) := (f115.other W119 (Or.inl ne_a_t0))
        have f126 : Fld Z h119 a "com/example/idealyze/idealyze/simulation/Tally" "paths" "J" (.long (pt + (1 : Int64))) := (((Fw2.other W70 (Or.inl ne_a_sat)).other W111 (Or.inl ne_a_t0)).other W119 (Or.inl ne_a_t0))
        have f127 : Arl Z h119 sat .long [(.long (s0 + (1 : Int64))), (.long s1), (.long s2)] := ((Vw70.other W111 ne_sat_t0).other W119 ne_sat_t0)
        have f128 : Arl Z h119 tog (.array .long) [(.ref t0), (.ref t1), (.ref t2)] := (f117.other W119 ne_tog_t0)
        have f129 : Arl Z h119 t1 .long [(.long x10), (.long x11), (.long x12)] := ((((A_t1.other W2 (Ne.symm ne_a_t1)).other W70 (Ne.symm ne_sat_t1)).other W111 (Ne.symm ne_t0_t1)).other W119 (Ne.symm ne_t0_t1))
        have f130 : Arl Z h119 t2 .long [(.long x20), (.long x21), (.long x22)] := ((((A_t2.other W2 (Ne.symm ne_a_t2)).other W70 (Ne.symm ne_sat_t2)).other W111 (Ne.symm ne_t0_t2)).other W119 (Ne.symm ne_t0_t2))
        exact J6 _ _ _ (iv (3 : Int32)) (s0 + (1 : Int64)) (x01 + (1 : Int64)) (x02 + (0 : Int64)) (One.val rfl) (by rw [if_neg hc58]) (by rw [if_neg hc58, if_neg hc78]) (by rw [if_neg hc58, if_neg hc78, if_pos hc118]) (X119.more (by decide) (by decide)) e119 N121 K120 f123 f124 f125 f126 f122 f127 f128 Vw119 f129 f130
      · refine Wlk.of (fun _ k => XS.ifNo X116.here hx rfl (hb hby d4_56) rfl ((if0 _ _).trans (feq hc118).1) k) ?_
        show Wlk p.tables e below (T116.setTop (mkF m 59 #[rv a, rv r, iv (0 : Int32), iv (2 : Int32)] [(.long x02), (.int (2 : Int32)), (.ref t0)])) K
        refine Wlk.of (fun _ k => XS.lconst X116.here hx rfl (hb hby d4_59) k) ?_
        show Wlk p.tables e below (T116.setTop (mkF m 60 #[rv a, rv r, iv (0 : Int32), iv (2 : Int32)] [(.long (1 : Int64)), (.long x02), (.int (2 : Int32)), (.ref t0)])) K
        refine Wlk.of (fun _ k => XS.goto X116.here hx rfl (pc0 := 60) (pc' := 64) rfl (hb hby d4_60) (by decide) (by decide) k) ?_
        show Wlk p.tables e below (T116.setTop (mkF m 64 #[rv a, rv r, iv (0 : Int32), iv (2 : Int32)] [(.long (1 : Int64)), (.long x02), (.int (2 : Int32)), (.ref t0)])) K
        refine Wlk.of (fun _ k => XS.ladd X116.here hx rfl (hb hby d4_64) rfl k) ?_
        show Wlk p.tables e below (T116.setTop (mkF m 65 #[rv a, rv r, iv (0 : Int32), iv (2 : Int32)] [(.long (x02 + (1 : Int64))), (.int (2 : Int32)), (.ref t0)])) K
        obtain ⟨T131, h131, X131, e131, W131, V131, st131⟩ := stJl X116 hx hZ e116 Vw111 (j := (2 : Int32)) (i := 2) (by decide) (by decide) (show 2 < 3 by decide) (g := (mkF m 65 #[rv a, rv r, iv (0 : Int32), iv (2 : Int32)] [(.long (x02 + (1 : Int64))), (.int (2 : Int32)), (.ref t0)])) rfl rfl (hb hby d4_65)
        refine Wlk.of (fun _ k => st131 _ k) ?_
        have K132 : Keep h0 h131 [a, sat, t0, t1, t2] := K112.wr W131 (Or.inl (List.mem_of_getElem? (i := 2) rfl))
        have N133 := Fr.snoc X131 N113 g_t0
        have Vw131 : Arl Z h131 t0 .long [(.long x00), (.long (x01 + (1 : Int64))), (.long (x02 + (1 : Int64)))] := V131
        show Wlk p.tables e below (T131.setTop (mkF m 66 #[rv a, rv r, iv (0 : Int32), iv (2 : Int32)] [])) K
        refine Wlk.of (fun _ k => XS.iinc X131.here hx rfl (hb hby d4_66) rfl (l' := #[rv a, rv r, iv (0 : Int32), iv (3 : Int32)]) rfl k) ?_
        show Wlk p.tables e below (T131.setTop (mkF m 69 #[rv a, rv r, iv (0 : Int32), iv (3 : Int32)] [])) K
        refine Wlk.of (fun _ k => XS.goto X131.here hx rfl (pc0 := 69) (pc' := 38) rfl (hb hby d4_69) (by decide) (by decide) k) ?_
        show Wlk p.tables e below (T131.setTop (mkF m 38 #[rv a, rv r, iv (0 : Int32), iv (3 : Int32)] [])) K
        refine Wlk.of (fun _ k => XS.iloadN X131.here hx rfl (hb hby d4_38) rfl k) ?_
        show Wlk p.tables e below (T131.setTop (mkF m 39 #[rv a, rv r, iv (0 : Int32), iv (3 : Int32)] [(.int (3 : Int32))])) K
        refine Wlk.of (fun _ k => XS.aloadN X131.here hx rfl (hb hby d4_39) rfl rfl k) ?_
        show Wlk p.tables e below (T131.setTop (mkF m 40 #[rv a, rv r, iv (0 : Int32), iv (3 : Int32)] [(.ref r), (.int (3 : Int32))])) K
        have f134 : Arl Z h131 r .boolean [(.int c0), (.int c1), (.int c2)] := (f114.other W131 ne_r_t0)
        refine Wlk.of (fun _ k => lenL X131 hx hZ e131 f134 (n := (3 : Int32)) rfl (g := (mkF m 40 #[rv a, rv r, iv (0 : Int32), iv (3 : Int32)] [(.ref r), (.int (3 : Int32))])) rfl rfl (hb hby d4_40) _ k) ?_
        show Wlk p.tables e below (T131.setTop (mkF m 41 #[rv a, rv r, iv (0 : Int32), iv (3 : Int32)] [(.int (3 : Int32)), (.int (3 : Int32))])) K
        refine Wlk.of (fun _ k => XS.icmpYes X131.here hx rfl (pc0 := 41) (pc' := 72) rfl (hb hby d4_41) rfl (flt (by decide : ¬ ((3 : Int32) < (3 : Int32)))).2.1 (by decide) (by decide) k) ?_
        show Wlk p.tables e below (T131.setTop (mkF m 72 #[rv a, rv r, iv (0 : Int32), iv (3 : Int32)] [])) K
        have f135 : Exa Z h131 a "com/example/idealyze/idealyze/simulation/Tally" := ((((E_a.wr W2).wr W70).wr W111).wr W131)
        have f136 : Fld Z h131 a "com/example/idealyze/idealyze/simulation/Tally" "satisfied" "[J" (.ref sat) := (((f67.other W70 (Or.inl ne_a_sat)).other W111 (Or.inl ne_a_t0)).other W131 (Or.inl ne_a_t0))
        have f137 : Fld Z h131 a "com/example/idealyze/idealyze/simulation/Tally" "together" "[[J" (.ref tog) := (f115.other W131 (Or.inl ne_a_t0))
        have f138 : Fld Z h131 a "com/example/idealyze/idealyze/simulation/Tally" "paths" "J" (.long (pt + (1 : Int64))) := (((Fw2.other W70 (Or.inl ne_a_sat)).other W111 (Or.inl ne_a_t0)).other W131 (Or.inl ne_a_t0))
        have f139 : Arl Z h131 sat .long [(.long (s0 + (1 : Int64))), (.long s1), (.long s2)] := ((Vw70.other W111 ne_sat_t0).other W131 ne_sat_t0)
        have f140 : Arl Z h131 tog (.array .long) [(.ref t0), (.ref t1), (.ref t2)] := (f117.other W131 ne_tog_t0)
        have f141 : Arl Z h131 t1 .long [(.long x10), (.long x11), (.long x12)] := ((((A_t1.other W2 (Ne.symm ne_a_t1)).other W70 (Ne.symm ne_sat_t1)).other W111 (Ne.symm ne_t0_t1)).other W131 (Ne.symm ne_t0_t1))
        have f142 : Arl Z h131 t2 .long [(.long x20), (.long x21), (.long x22)] := ((((A_t2.other W2 (Ne.symm ne_a_t2)).other W70 (Ne.symm ne_sat_t2)).other W111 (Ne.symm ne_t0_t2)).other W131 (Ne.symm ne_t0_t2))
        exact J6 _ _ _ (iv (3 : Int32)) (s0 + (1 : Int64)) (x01 + (1 : Int64)) (x02 + (1 : Int64)) (One.val rfl) (by rw [if_neg hc58]) (by rw [if_neg hc58, if_neg hc78]) (by rw [if_neg hc58, if_neg hc78, if_neg hc118]) (X131.more (by decide) (by decide)) e131 N133 K132 f135 f136 f137 f138 f134 f139 f140 Vw131 f141 f142
theorem d6_0 : decode prog_163_method_3_code 0 = .ok (.aload_n 0, 1) := by decide +kernel
theorem d6_1 : decode prog_163_method_3_code 1 = .ok (.getfield 18, 3) := by decide +kernel
theorem d6_4 : decode prog_163_method_3_code 4 = .ok (.lreturn, 1) := by decide +kernel
theorem ef_rmP (m : MethodId) (a : Addr) : entryFrame m #[(.ref a)] 1 = mkF m 0 #[rv a] [] := by first | (simp [entryFrame, mkF, argsToLocals, Value.category]; done) | rfl
def Q_rmP (Z : State) (a : Addr) (pt : Int64) (h0 : Heap) (n0 : Nat) (v : Option Value) (h : Heap) (L : List Loc) : Prop := v = (some (.long pt)) ∧ Fr n0 L ∧ h = h0
set_option maxRecDepth 65536 in
set_option maxHeartbeats 40000000 in
theorem rmP (l : Launch) (Z : State) (a0 : Array Value) (hw : ∀ d ∈ tables_1, d.before a0 Z = true) (a : Addr) (pt : Int64) (h0 : Heap) (n0 : Nat) (Z0 : n0 ≤ h0.size) (F_a_paths : Fld Z h0 a "com/example/idealyze/idealyze/simulation/Tally" "paths" "J" (.long pt)) :
    Ctr l Z h0 (⟨"com/example/idealyze/idealyze/simulation/Tally", "paths", "()J"⟩ : MethodName) prog_163_method_3_code 1 (some .long) [] ({ frames := 0, cells := 0, slots := 0, locals := 0 } : Room) #[(.ref a)] (Q_rmP Z a pt h0 n0) := by
  refine Ctr.make (plainFor_of_name pn_29) fun p e s m below meth c s₁ K hret hml hx hby hown hnm hZ X0 e0 hK => ?_
  have hown : s.vm.findClass "com/example/idealyze/idealyze/simulation/Tally" = some m.cls := hown
  have N0 := Fr.nil n0
  have K0 : Keep h0 h0 [] := Keep.refl _ _
  refine Wlk.of (fun _ k => castTop (ef_rmP m a) k) ?_
  show Wlk p.tables e below (s₁.setTop (mkF m 0 #[rv a] [])) K
  refine Wlk.of (fun _ k => XS.aloadN X0.here hx rfl (hb hby d6_0) rfl rfl k) ?_
  show Wlk p.tables e below (s₁.setTop (mkF m 1 #[rv a] [(.ref a)])) K
  obtain ⟨T1, X1, e1, st1⟩ := getF X0 hx hZ hown (host := "") (Or.inl (wd hw 26 rfl)) Via.refl e0 F_a_paths (g := (mkF m 1 #[rv a] [(.ref a)])) rfl rfl (hb hby d6_1)
  refine Wlk.of (fun _ k => st1 _ k) ?_
  show Wlk p.tables e below (T1.setTop (mkF m 4 #[rv a] [(.long pt)])) K
  refine hK (some (.long pt)) X1 (fun q => by cases q) (fun fs hr => retOut X1 hx hret rfl (Or.inr (Or.inl ⟨rfl, rfl, _, rfl⟩)) (hb hby d6_4) hr) ?_ (by decide) (by decide)
  rw [show T1.heap = h0 from e1]
  exact ⟨rfl, N0, rfl⟩
theorem dF0_0 : decode prog_163_method_4_code 0 = .ok (.aload_n 0, 1) := by decide +kernel
theorem dF0_1 : decode prog_163_method_4_code 1 = .ok (.getfield 18, 3) := by decide +kernel
theorem dF0_4 : decode prog_163_method_4_code 4 = .ok (.lconst 0, 1) := by decide +kernel
theorem dF0_5 : decode prog_163_method_4_code 5 = .ok (.lcmp, 1) := by decide +kernel
theorem dF0_6 : decode prog_163_method_4_code 6 = .ok (.ifCond .ne 7, 3) := by decide +kernel
theorem dF0_9 : decode prog_163_method_4_code 9 = .ok (.dconst 0, 1) := by decide +kernel
theorem dF0_10 : decode prog_163_method_4_code 10 = .ok (.goto 16, 3) := by decide +kernel
theorem dF0_13 : decode prog_163_method_4_code 13 = .ok (.aload_n 0, 1) := by decide +kernel
theorem dF0_14 : decode prog_163_method_4_code 14 = .ok (.getfield 7, 3) := by decide +kernel
theorem dF0_17 : decode prog_163_method_4_code 17 = .ok (.iload_n 1, 1) := by decide +kernel
theorem dF0_18 : decode prog_163_method_4_code 18 = .ok (.laload, 1) := by decide +kernel
theorem dF0_19 : decode prog_163_method_4_code 19 = .ok (.l2d, 1) := by decide +kernel
theorem dF0_20 : decode prog_163_method_4_code 20 = .ok (.aload_n 0, 1) := by decide +kernel
theorem dF0_21 : decode prog_163_method_4_code 21 = .ok (.getfield 18, 3) := by decide +kernel
theorem dF0_24 : decode prog_163_method_4_code 24 = .ok (.l2d, 1) := by decide +kernel
theorem dF0_25 : decode prog_163_method_4_code 25 = .ok (.ddiv, 1) := by decide +kernel
theorem dF0_26 : decode prog_163_method_4_code 26 = .ok (.dreturn, 1) := by decide +kernel
theorem ef_rmF0 (m : MethodId) (a : Addr) : entryFrame m #[(.ref a), (.int (0 : Int32))] 2 = mkF m 0 #[rv a, iv (0 : Int32)] [] := by first | (simp [entryFrame, mkF, argsToLocals, Value.category]; done) | rfl
def Q_rmF0 (Z : State) (a : Addr) (sat : Addr) (pt : Int64) (s0 : Int64) (s1 : Int64) (s2 : Int64) (h0 : Heap) (n0 : Nat) (v : Option Value) (h : Heap) (L : List Loc) : Prop := v = (some (.double (if pt = (0 : Int64) then FP.dconst0 else (FP.ddiv (FP.l2d s0) (FP.l2d pt))))) ∧ Fr n0 L ∧ h = h0
set_option maxRecDepth 65536 in
set_option maxHeartbeats 40000000 in
theorem rmF0 (l : Launch) (Z : State) (a0 : Array Value) (hw : ∀ d ∈ tables_1, d.before a0 Z = true) (a : Addr) (sat : Addr) (pt : Int64) (s0 : Int64) (s1 : Int64) (s2 : Int64) (h0 : Heap) (n0 : Nat) (Z0 : n0 ≤ h0.size) (F_a_paths : Fld Z h0 a "com/example/idealyze/idealyze/simulation/Tally" "paths" "J" (.long pt)) (F_a_satisfied : Fld Z h0 a "com/example/idealyze/idealyze/simulation/Tally" "satisfied" "[J" (.ref sat)) (A_sat : Arl Z h0 sat .long [(.long s0), (.long s1), (.long s2)]) :
    Ctr l Z h0 (⟨"com/example/idealyze/idealyze/simulation/Tally", "fraction", "(I)D"⟩ : MethodName) prog_163_method_4_code 2 (some .double) [] ({ frames := 0, cells := 0, slots := 0, locals := 0 } : Room) #[(.ref a), (.int (0 : Int32))] (Q_rmF0 Z a sat pt s0 s1 s2 h0 n0) := by
  refine Ctr.make (plainFor_of_name pn_29) fun p e s m below meth c s₁ K hret hml hx hby hown hnm hZ X0 e0 hK => ?_
  have hown : s.vm.findClass "com/example/idealyze/idealyze/simulation/Tally" = some m.cls := hown
  have N0 := Fr.nil n0
  have K0 : Keep h0 h0 [] := Keep.refl _ _
  refine Wlk.of (fun _ k => castTop (ef_rmF0 m a) k) ?_
  show Wlk p.tables e below (s₁.setTop (mkF m 0 #[rv a, iv (0 : Int32)] [])) K
  refine Wlk.of (fun _ k => XS.aloadN X0.here hx rfl (hb hby dF0_0) rfl rfl k) ?_
  show Wlk p.tables e below (s₁.setTop (mkF m 1 #[rv a, iv (0 : Int32)] [(.ref a)])) K
  obtain ⟨T1, X1, e1, st1⟩ := getF X0 hx hZ hown (host := "") (Or.inl (wd hw 26 rfl)) Via.refl e0 F_a_paths (g := (mkF m 1 #[rv a, iv (0 : Int32)] [(.ref a)])) rfl rfl (hb hby dF0_1)
  refine Wlk.of (fun _ k => st1 _ k) ?_
  show Wlk p.tables e below (T1.setTop (mkF m 4 #[rv a, iv (0 : Int32)] [(.long pt)])) K
  refine Wlk.of (fun _ k => XS.lconst X1.here hx rfl (hb hby dF0_4) k) ?_
  show Wlk p.tables e below (T1.setTop (mkF m 5 #[rv a, iv (0 : Int32)] [(.long (0 : Int64)), (.long pt)])) K
  refine Wlk.of (fun _ k => XS.lcmp X1.here hx rfl (hb hby dF0_5) rfl k) ?_
  show Wlk p.tables e below (T1.setTop (mkF m 6 #[rv a, iv (0 : Int32)] [(.int (lcmpW pt (0 : Int64)))])) K
  by_cases hc2 : pt = (0 : Int64)
  · refine Wlk.of (fun _ k => XS.ifNo X1.here hx rfl (hb hby dF0_6) rfl ((if0 _ _).trans (teq ((lw_eq _ _).mpr hc2)).2) k) ?_
    show Wlk p.tables e below (T1.setTop (mkF m 9 #[rv a, iv (0 : Int32)] [])) K
    refine Wlk.of (fun _ k => XS.dconst0 X1.here hx rfl (hb hby dF0_9) rfl k) ?_
    show Wlk p.tables e below (T1.setTop (mkF m 10 #[rv a, iv (0 : Int32)] [(.double FP.dconst0)])) K
    refine Wlk.of (fun _ k => XS.goto X1.here hx rfl (pc0 := 10) (pc' := 26) rfl (hb hby dF0_10) (by decide) (by decide) k) ?_
    show Wlk p.tables e below (T1.setTop (mkF m 26 #[rv a, iv (0 : Int32)] [(.double FP.dconst0)])) K
    refine hK (some (.double FP.dconst0)) X1 (fun q => by cases q) (fun fs hr => retOut X1 hx hret rfl (Or.inr (Or.inr (Or.inl ⟨rfl, rfl, _, rfl⟩))) (hb hby dF0_26) hr) ?_ (by decide) (by decide)
    rw [show T1.heap = h0 from e1]
    exact ⟨(by rw [if_pos hc2]), N0, rfl⟩
  · refine Wlk.of (fun _ k => XS.ifYes X1.here hx rfl (pc0 := 6) (pc' := 13) rfl (hb hby dF0_6) rfl ((if0 _ _).trans (feq (fun q => hc2 ((lw_eq _ _).mp q))).2) (by decide) (by decide) k) ?_
    show Wlk p.tables e below (T1.setTop (mkF m 13 #[rv a, iv (0 : Int32)] [])) K
    refine Wlk.of (fun _ k => XS.aloadN X1.here hx rfl (hb hby dF0_13) rfl rfl k) ?_
    show Wlk p.tables e below (T1.setTop (mkF m 14 #[rv a, iv (0 : Int32)] [(.ref a)])) K
    obtain ⟨T3, X3, e3, st3⟩ := getF X1 hx hZ hown (host := "") (Or.inl (wd hw 15 rfl)) Via.refl e1 F_a_satisfied (g := (mkF m 14 #[rv a, iv (0 : Int32)] [(.ref a)])) rfl rfl (hb hby dF0_14)
    refine Wlk.of (fun _ k => st3 _ k) ?_
    show Wlk p.tables e below (T3.setTop (mkF m 17 #[rv a, iv (0 : Int32)] [(.ref sat)])) K
    refine Wlk.of (fun _ k => XS.iloadN X3.here hx rfl (hb hby dF0_17) rfl k) ?_
    show Wlk p.tables e below (T3.setTop (mkF m 18 #[rv a, iv (0 : Int32)] [(.int (0 : Int32)), (.ref sat)])) K
    refine Wlk.of (fun _ k => ldJ X3 hx hZ e3 A_sat (j := (0 : Int32)) (i := 0) (by decide) (by decide) rfl (g := (mkF m 18 #[rv a, iv (0 : Int32)] [(.int (0 : Int32)), (.ref sat)])) rfl rfl (hb hby dF0_18) _ k) ?_
    show Wlk p.tables e below (T3.setTop (mkF m 19 #[rv a, iv (0 : Int32)] [(.long s0)])) K
    refine Wlk.of (fun _ k => XS.l2dS X3.here hx rfl (hb hby dF0_19) rfl rfl k) ?_
    show Wlk p.tables e below (T3.setTop (mkF m 20 #[rv a, iv (0 : Int32)] [(.double (FP.l2d s0))])) K
    refine Wlk.of (fun _ k => XS.aloadN X3.here hx rfl (hb hby dF0_20) rfl rfl k) ?_
    show Wlk p.tables e below (T3.setTop (mkF m 21 #[rv a, iv (0 : Int32)] [(.ref a), (.double (FP.l2d s0))])) K
    obtain ⟨T4, X4, e4, st4⟩ := getF X3 hx hZ hown (host := "") (Or.inl (wd hw 26 rfl)) Via.refl e3 F_a_paths (g := (mkF m 21 #[rv a, iv (0 : Int32)] [(.ref a), (.double (FP.l2d s0))])) rfl rfl (hb hby dF0_21)
    refine Wlk.of (fun _ k => st4 _ k) ?_
    show Wlk p.tables e below (T4.setTop (mkF m 24 #[rv a, iv (0 : Int32)] [(.long pt), (.double (FP.l2d s0))])) K
    refine Wlk.of (fun _ k => XS.l2dS X4.here hx rfl (hb hby dF0_24) rfl rfl k) ?_
    show Wlk p.tables e below (T4.setTop (mkF m 25 #[rv a, iv (0 : Int32)] [(.double (FP.l2d pt)), (.double (FP.l2d s0))])) K
    refine Wlk.of (fun _ k => XS.ddivS X4.here hx rfl (hb hby dF0_25) rfl (Fl.ddiv_out (Fl.l2d_fin _).noNaN (Fl.l2d_fin _) (Fl.l2d_nz hc2)) rfl k) ?_
    show Wlk p.tables e below (T4.setTop (mkF m 26 #[rv a, iv (0 : Int32)] [(.double (FP.ddiv (FP.l2d s0) (FP.l2d pt)))])) K
    refine hK (some (.double (FP.ddiv (FP.l2d s0) (FP.l2d pt)))) X4 (fun q => by cases q) (fun fs hr => retOut X4 hx hret rfl (Or.inr (Or.inr (Or.inl ⟨rfl, rfl, _, rfl⟩))) (hb hby dF0_26) hr) ?_ (by decide) (by decide)
    rw [show T4.heap = h0 from e4]
    exact ⟨(by rw [if_neg hc2]), N0, rfl⟩
theorem dF1_0 : decode prog_163_method_4_code 0 = .ok (.aload_n 0, 1) := by decide +kernel
theorem dF1_1 : decode prog_163_method_4_code 1 = .ok (.getfield 18, 3) := by decide +kernel
theorem dF1_4 : decode prog_163_method_4_code 4 = .ok (.lconst 0, 1) := by decide +kernel
theorem dF1_5 : decode prog_163_method_4_code 5 = .ok (.lcmp, 1) := by decide +kernel
theorem dF1_6 : decode prog_163_method_4_code 6 = .ok (.ifCond .ne 7, 3) := by decide +kernel
theorem dF1_9 : decode prog_163_method_4_code 9 = .ok (.dconst 0, 1) := by decide +kernel
theorem dF1_10 : decode prog_163_method_4_code 10 = .ok (.goto 16, 3) := by decide +kernel
theorem dF1_13 : decode prog_163_method_4_code 13 = .ok (.aload_n 0, 1) := by decide +kernel
theorem dF1_14 : decode prog_163_method_4_code 14 = .ok (.getfield 7, 3) := by decide +kernel
theorem dF1_17 : decode prog_163_method_4_code 17 = .ok (.iload_n 1, 1) := by decide +kernel
theorem dF1_18 : decode prog_163_method_4_code 18 = .ok (.laload, 1) := by decide +kernel
theorem dF1_19 : decode prog_163_method_4_code 19 = .ok (.l2d, 1) := by decide +kernel
theorem dF1_20 : decode prog_163_method_4_code 20 = .ok (.aload_n 0, 1) := by decide +kernel
theorem dF1_21 : decode prog_163_method_4_code 21 = .ok (.getfield 18, 3) := by decide +kernel
theorem dF1_24 : decode prog_163_method_4_code 24 = .ok (.l2d, 1) := by decide +kernel
theorem dF1_25 : decode prog_163_method_4_code 25 = .ok (.ddiv, 1) := by decide +kernel
theorem dF1_26 : decode prog_163_method_4_code 26 = .ok (.dreturn, 1) := by decide +kernel
theorem ef_rmF1 (m : MethodId) (a : Addr) : entryFrame m #[(.ref a), (.int (1 : Int32))] 2 = mkF m 0 #[rv a, iv (1 : Int32)] [] := by first | (simp [entryFrame, mkF, argsToLocals, Value.category]; done) | rfl
def Q_rmF1 (Z : State) (a : Addr) (sat : Addr) (pt : Int64) (s0 : Int64) (s1 : Int64) (s2 : Int64) (h0 : Heap) (n0 : Nat) (v : Option Value) (h : Heap) (L : List Loc) : Prop := v = (some (.double (if pt = (0 : Int64) then FP.dconst0 else (FP.ddiv (FP.l2d s1) (FP.l2d pt))))) ∧ Fr n0 L ∧ h = h0
set_option maxRecDepth 65536 in
set_option maxHeartbeats 40000000 in
theorem rmF1 (l : Launch) (Z : State) (a0 : Array Value) (hw : ∀ d ∈ tables_1, d.before a0 Z = true) (a : Addr) (sat : Addr) (pt : Int64) (s0 : Int64) (s1 : Int64) (s2 : Int64) (h0 : Heap) (n0 : Nat) (Z0 : n0 ≤ h0.size) (F_a_paths : Fld Z h0 a "com/example/idealyze/idealyze/simulation/Tally" "paths" "J" (.long pt)) (F_a_satisfied : Fld Z h0 a "com/example/idealyze/idealyze/simulation/Tally" "satisfied" "[J" (.ref sat)) (A_sat : Arl Z h0 sat .long [(.long s0), (.long s1), (.long s2)]) :
    Ctr l Z h0 (⟨"com/example/idealyze/idealyze/simulation/Tally", "fraction", "(I)D"⟩ : MethodName) prog_163_method_4_code 2 (some .double) [] ({ frames := 0, cells := 0, slots := 0, locals := 0 } : Room) #[(.ref a), (.int (1 : Int32))] (Q_rmF1 Z a sat pt s0 s1 s2 h0 n0) := by
  refine Ctr.make (plainFor_of_name pn_29) fun p e s m below meth c s₁ K hret hml hx hby hown hnm hZ X0 e0 hK => ?_
  have hown : s.vm.findClass "com/example/idealyze/idealyze/simulation/Tally" = some m.cls := hown
  have N0 := Fr.nil n0
  have K0 : Keep h0 h0 [] := Keep.refl _ _
  refine Wlk.of (fun _ k => castTop (ef_rmF1 m a) k) ?_
  show Wlk p.tables e below (s₁.setTop (mkF m 0 #[rv a, iv (1 : Int32)] [])) K
  refine Wlk.of (fun _ k => XS.aloadN X0.here hx rfl (hb hby dF1_0) rfl rfl k) ?_
  show Wlk p.tables e below (s₁.setTop (mkF m 1 #[rv a, iv (1 : Int32)] [(.ref a)])) K
  obtain ⟨T1, X1, e1, st1⟩ := getF X0 hx hZ hown (host := "") (Or.inl (wd hw 26 rfl)) Via.refl e0 F_a_paths (g := (mkF m 1 #[rv a, iv (1 : Int32)] [(.ref a)])) rfl rfl (hb hby dF1_1)
  refine Wlk.of (fun _ k => st1 _ k) ?_
  show Wlk p.tables e below (T1.setTop (mkF m 4 #[rv a, iv (1 : Int32)] [(.long pt)])) K
  refine Wlk.of (fun _ k => XS.lconst X1.here hx rfl (hb hby dF1_4) k) ?_
  show Wlk p.tables e below (T1.setTop (mkF m 5 #[rv a, iv (1 : Int32)] [(.long (0 : Int64)), (.long pt)])) K
  refine Wlk.of (fun _ k => XS.lcmp X1.here hx rfl (hb hby dF1_5) rfl k) ?_
  show Wlk p.tables e below (T1.setTop (mkF m 6 #[rv a, iv (1 : Int32)] [(.int (lcmpW pt (0 : Int64)))])) K
  by_cases hc2 : pt = (0 : Int64)
  · refine Wlk.of (fun _ k => XS.ifNo X1.here hx rfl (hb hby dF1_6) rfl ((if0 _ _).trans (teq ((lw_eq _ _).mpr hc2)).2) k) ?_
    show Wlk p.tables e below (T1.setTop (mkF m 9 #[rv a, iv (1 : Int32)] [])) K
    refine Wlk.of (fun _ k => XS.dconst0 X1.here hx rfl (hb hby dF1_9) rfl k) ?_
    show Wlk p.tables e below (T1.setTop (mkF m 10 #[rv a, iv (1 : Int32)] [(.double FP.dconst0)])) K
    refine Wlk.of (fun _ k => XS.goto X1.here hx rfl (pc0 := 10) (pc' := 26) rfl (hb hby dF1_10) (by decide) (by decide) k) ?_
    show Wlk p.tables e below (T1.setTop (mkF m 26 #[rv a, iv (1 : Int32)] [(.double FP.dconst0)])) K
    refine hK (some (.double FP.dconst0)) X1 (fun q => by cases q) (fun fs hr => retOut X1 hx hret rfl (Or.inr (Or.inr (Or.inl ⟨rfl, rfl, _, rfl⟩))) (hb hby dF1_26) hr) ?_ (by decide) (by decide)
    rw [show T1.heap = h0 from e1]
    exact ⟨(by rw [if_pos hc2]), N0, rfl⟩
  · refine Wlk.of (fun _ k => XS.ifYes X1.here hx rfl (pc0 := 6) (pc' := 13) rfl (hb hby dF1_6) rfl ((if0 _ _).trans (feq (fun q => hc2 ((lw_eq _ _).mp q))).2) (by decide) (by decide) k) ?_
    show Wlk p.tables e below (T1.setTop (mkF m 13 #[rv a, iv (1 : Int32)] [])) K
    refine Wlk.of (fun _ k => XS.aloadN X1.here hx rfl (hb hby dF1_13) rfl rfl k) ?_
    show Wlk p.tables e below (T1.setTop (mkF m 14 #[rv a, iv (1 : Int32)] [(.ref a)])) K
    obtain ⟨T3, X3, e3, st3⟩ := getF X1 hx hZ hown (host := "") (Or.inl (wd hw 15 rfl)) Via.refl e1 F_a_satisfied (g := (mkF m 14 #[rv a, iv (1 : Int32)] [(.ref a)])) rfl rfl (hb hby dF1_14)
    refine Wlk.of (fun _ k => st3 _ k) ?_
    show Wlk p.tables e below (T3.setTop (mkF m 17 #[rv a, iv (1 : Int32)] [(.ref sat)])) K
    refine Wlk.of (fun _ k => XS.iloadN X3.here hx rfl (hb hby dF1_17) rfl k) ?_
    show Wlk p.tables e below (T3.setTop (mkF m 18 #[rv a, iv (1 : Int32)] [(.int (1 : Int32)), (.ref sat)])) K
    refine Wlk.of (fun _ k => ldJ X3 hx hZ e3 A_sat (j := (1 : Int32)) (i := 1) (by decide) (by decide) rfl (g := (mkF m 18 #[rv a, iv (1 : Int32)] [(.int (1 : Int32)), (.ref sat)])) rfl rfl (hb hby dF1_18) _ k) ?_
    show Wlk p.tables e below (T3.setTop (mkF m 19 #[rv a, iv (1 : Int32)] [(.long s1)])) K
    refine Wlk.of (fun _ k => XS.l2dS X3.here hx rfl (hb hby dF1_19) rfl rfl k) ?_
    show Wlk p.tables e below (T3.setTop (mkF m 20 #[rv a, iv (1 : Int32)] [(.double (FP.l2d s1))])) K
    refine Wlk.of (fun _ k => XS.aloadN X3.here hx rfl (hb hby dF1_20) rfl rfl k) ?_
    show Wlk p.tables e below (T3.setTop (mkF m 21 #[rv a, iv (1 : Int32)] [(.ref a), (.double (FP.l2d s1))])) K
    obtain ⟨T4, X4, e4, st4⟩ := getF X3 hx hZ hown (host := "") (Or.inl (wd hw 26 rfl)) Via.refl e3 F_a_paths (g := (mkF m 21 #[rv a, iv (1 : Int32)] [(.ref a), (.double (FP.l2d s1))])) rfl rfl (hb hby dF1_21)
    refine Wlk.of (fun _ k => st4 _ k) ?_
    show Wlk p.tables e below (T4.setTop (mkF m 24 #[rv a, iv (1 : Int32)] [(.long pt), (.double (FP.l2d s1))])) K
    refine Wlk.of (fun _ k => XS.l2dS X4.here hx rfl (hb hby dF1_24) rfl rfl k) ?_
    show Wlk p.tables e below (T4.setTop (mkF m 25 #[rv a, iv (1 : Int32)] [(.double (FP.l2d pt)), (.double (FP.l2d s1))])) K
    refine Wlk.of (fun _ k => XS.ddivS X4.here hx rfl (hb hby dF1_25) rfl (Fl.ddiv_out (Fl.l2d_fin _).noNaN (Fl.l2d_fin _) (Fl.l2d_nz hc2)) rfl k) ?_
    show Wlk p.tables e below (T4.setTop (mkF m 26 #[rv a, iv (1 : Int32)] [(.double (FP.ddiv (FP.l2d s1) (FP.l2d pt)))])) K
    refine hK (some (.double (FP.ddiv (FP.l2d s1) (FP.l2d pt)))) X4 (fun q => by cases q) (fun fs hr => retOut X4 hx hret rfl (Or.inr (Or.inr (Or.inl ⟨rfl, rfl, _, rfl⟩))) (hb hby dF1_26) hr) ?_ (by decide) (by decide)
    rw [show T4.heap = h0 from e4]
    exact ⟨(by rw [if_neg hc2]), N0, rfl⟩
theorem dF2_0 : decode prog_163_method_4_code 0 = .ok (.aload_n 0, 1) := by decide +kernel
theorem dF2_1 : decode prog_163_method_4_code 1 = .ok (.getfield 18, 3) := by decide +kernel
theorem dF2_4 : decode prog_163_method_4_code 4 = .ok (.lconst 0, 1) := by decide +kernel
theorem dF2_5 : decode prog_163_method_4_code 5 = .ok (.lcmp, 1) := by decide +kernel
theorem dF2_6 : decode prog_163_method_4_code 6 = .ok (.ifCond .ne 7, 3) := by decide +kernel
theorem dF2_9 : decode prog_163_method_4_code 9 = .ok (.dconst 0, 1) := by decide +kernel
theorem dF2_10 : decode prog_163_method_4_code 10 = .ok (.goto 16, 3) := by decide +kernel
theorem dF2_13 : decode prog_163_method_4_code 13 = .ok (.aload_n 0, 1) := by decide +kernel
theorem dF2_14 : decode prog_163_method_4_code 14 = .ok (.getfield 7, 3) := by decide +kernel
theorem dF2_17 : decode prog_163_method_4_code 17 = .ok (.iload_n 1, 1) := by decide +kernel
theorem dF2_18 : decode prog_163_method_4_code 18 = .ok (.laload, 1) := by decide +kernel
theorem dF2_19 : decode prog_163_method_4_code 19 = .ok (.l2d, 1) := by decide +kernel
theorem dF2_20 : decode prog_163_method_4_code 20 = .ok (.aload_n 0, 1) := by decide +kernel
theorem dF2_21 : decode prog_163_method_4_code 21 = .ok (.getfield 18, 3) := by decide +kernel
theorem dF2_24 : decode prog_163_method_4_code 24 = .ok (.l2d, 1) := by decide +kernel
theorem dF2_25 : decode prog_163_method_4_code 25 = .ok (.ddiv, 1) := by decide +kernel
theorem dF2_26 : decode prog_163_method_4_code 26 = .ok (.dreturn, 1) := by decide +kernel
theorem ef_rmF2 (m : MethodId) (a : Addr) : entryFrame m #[(.ref a), (.int (2 : Int32))] 2 = mkF m 0 #[rv a, iv (2 : Int32)] [] := by first | (simp [entryFrame, mkF, argsToLocals, Value.category]; done) | rfl
def Q_rmF2 (Z : State) (a : Addr) (sat : Addr) (pt : Int64) (s0 : Int64) (s1 : Int64) (s2 : Int64) (h0 : Heap) (n0 : Nat) (v : Option Value) (h : Heap) (L : List Loc) : Prop := v = (some (.double (if pt = (0 : Int64) then FP.dconst0 else (FP.ddiv (FP.l2d s2) (FP.l2d pt))))) ∧ Fr n0 L ∧ h = h0
set_option maxRecDepth 65536 in
set_option maxHeartbeats 40000000 in
theorem rmF2 (l : Launch) (Z : State) (a0 : Array Value) (hw : ∀ d ∈ tables_1, d.before a0 Z = true) (a : Addr) (sat : Addr) (pt : Int64) (s0 : Int64) (s1 : Int64) (s2 : Int64) (h0 : Heap) (n0 : Nat) (Z0 : n0 ≤ h0.size) (F_a_paths : Fld Z h0 a "com/example/idealyze/idealyze/simulation/Tally" "paths" "J" (.long pt)) (F_a_satisfied : Fld Z h0 a "com/example/idealyze/idealyze/simulation/Tally" "satisfied" "[J" (.ref sat)) (A_sat : Arl Z h0 sat .long [(.long s0), (.long s1), (.long s2)]) :
    Ctr l Z h0 (⟨"com/example/idealyze/idealyze/simulation/Tally", "fraction", "(I)D"⟩ : MethodName) prog_163_method_4_code 2 (some .double) [] ({ frames := 0, cells := 0, slots := 0, locals := 0 } : Room) #[(.ref a), (.int (2 : Int32))] (Q_rmF2 Z a sat pt s0 s1 s2 h0 n0) := by
  refine Ctr.make (plainFor_of_name pn_29) fun p e s m below meth c s₁ K hret hml hx hby hown hnm hZ X0 e0 hK => ?_
  have hown : s.vm.findClass "com/example/idealyze/idealyze/simulation/Tally" = some m.cls := hown
  have N0 := Fr.nil n0
  have K0 : Keep h0 h0 [] := Keep.refl _ _
  refine Wlk.of (fun _ k => castTop (ef_rmF2 m a) k) ?_
  show Wlk p.tables e below (s₁.setTop (mkF m 0 #[rv a, iv (2 : Int32)] [])) K
  refine Wlk.of (fun _ k => XS.aloadN X0.here hx rfl (hb hby dF2_0) rfl rfl k) ?_
  show Wlk p.tables e below (s₁.setTop (mkF m 1 #[rv a, iv (2 : Int32)] [(.ref a)])) K
  obtain ⟨T1, X1, e1, st1⟩ := getF X0 hx hZ hown (host := "") (Or.inl (wd hw 26 rfl)) Via.refl e0 F_a_paths (g := (mkF m 1 #[rv a, iv (2 : Int32)] [(.ref a)])) rfl rfl (hb hby dF2_1)
  refine Wlk.of (fun _ k => st1 _ k) ?_
  show Wlk p.tables e below (T1.setTop (mkF m 4 #[rv a, iv (2 : Int32)] [(.long pt)])) K
  refine Wlk.of (fun _ k => XS.lconst X1.here hx rfl (hb hby dF2_4) k) ?_
  show Wlk p.tables e below (T1.setTop (mkF m 5 #[rv a, iv (2 : Int32)] [(.long (0 : Int64)), (.long pt)])) K
  refine Wlk.of (fun _ k => XS.lcmp X1.here hx rfl (hb hby dF2_5) rfl k) ?_
  show Wlk p.tables e below (T1.setTop (mkF m 6 #[rv a, iv (2 : Int32)] [(.int (lcmpW pt (0 : Int64)))])) K
  by_cases hc2 : pt = (0 : Int64)
  · refine Wlk.of (fun _ k => XS.ifNo X1.here hx rfl (hb hby dF2_6) rfl ((if0 _ _).trans (teq ((lw_eq _ _).mpr hc2)).2) k) ?_
    show Wlk p.tables e below (T1.setTop (mkF m 9 #[rv a, iv (2 : Int32)] [])) K
    refine Wlk.of (fun _ k => XS.dconst0 X1.here hx rfl (hb hby dF2_9) rfl k) ?_
    show Wlk p.tables e below (T1.setTop (mkF m 10 #[rv a, iv (2 : Int32)] [(.double FP.dconst0)])) K
    refine Wlk.of (fun _ k => XS.goto X1.here hx rfl (pc0 := 10) (pc' := 26) rfl (hb hby dF2_10) (by decide) (by decide) k) ?_
    show Wlk p.tables e below (T1.setTop (mkF m 26 #[rv a, iv (2 : Int32)] [(.double FP.dconst0)])) K
    refine hK (some (.double FP.dconst0)) X1 (fun q => by cases q) (fun fs hr => retOut X1 hx hret rfl (Or.inr (Or.inr (Or.inl ⟨rfl, rfl, _, rfl⟩))) (hb hby dF2_26) hr) ?_ (by decide) (by decide)
    rw [show T1.heap = h0 from e1]
    exact ⟨(by rw [if_pos hc2]), N0, rfl⟩
  · refine Wlk.of (fun _ k => XS.ifYes X1.here hx rfl (pc0 := 6) (pc' := 13) rfl (hb hby dF2_6) rfl ((if0 _ _).trans (feq (fun q => hc2 ((lw_eq _ _).mp q))).2) (by decide) (by decide) k) ?_
    show Wlk p.tables e below (T1.setTop (mkF m 13 #[rv a, iv (2 : Int32)] [])) K
    refine Wlk.of (fun _ k => XS.aloadN X1.here hx rfl (hb hby dF2_13) rfl rfl k) ?_
    show Wlk p.tables e below (T1.setTop (mkF m 14 #[rv a, iv (2 : Int32)] [(.ref a)])) K
    obtain ⟨T3, X3, e3, st3⟩ := getF X1 hx hZ hown (host := "") (Or.inl (wd hw 15 rfl)) Via.refl e1 F_a_satisfied (g := (mkF m 14 #[rv a, iv (2 : Int32)] [(.ref a)])) rfl rfl (hb hby dF2_14)
    refine Wlk.of (fun _ k => st3 _ k) ?_
    show Wlk p.tables e below (T3.setTop (mkF m 17 #[rv a, iv (2 : Int32)] [(.ref sat)])) K
    refine Wlk.of (fun _ k => XS.iloadN X3.here hx rfl (hb hby dF2_17) rfl k) ?_
    show Wlk p.tables e below (T3.setTop (mkF m 18 #[rv a, iv (2 : Int32)] [(.int (2 : Int32)), (.ref sat)])) K
    refine Wlk.of (fun _ k => ldJ X3 hx hZ e3 A_sat (j := (2 : Int32)) (i := 2) (by decide) (by decide) rfl (g := (mkF m 18 #[rv a, iv (2 : Int32)] [(.int (2 : Int32)), (.ref sat)])) rfl rfl (hb hby dF2_18) _ k) ?_
    show Wlk p.tables e below (T3.setTop (mkF m 19 #[rv a, iv (2 : Int32)] [(.long s2)])) K
    refine Wlk.of (fun _ k => XS.l2dS X3.here hx rfl (hb hby dF2_19) rfl rfl k) ?_
    show Wlk p.tables e below (T3.setTop (mkF m 20 #[rv a, iv (2 : Int32)] [(.double (FP.l2d s2))])) K
    refine Wlk.of (fun _ k => XS.aloadN X3.here hx rfl (hb hby dF2_20) rfl rfl k) ?_
    show Wlk p.tables e below (T3.setTop (mkF m 21 #[rv a, iv (2 : Int32)] [(.ref a), (.double (FP.l2d s2))])) K
    obtain ⟨T4, X4, e4, st4⟩ := getF X3 hx hZ hown (host := "") (Or.inl (wd hw 26 rfl)) Via.refl e3 F_a_paths (g := (mkF m 21 #[rv a, iv (2 : Int32)] [(.ref a), (.double (FP.l2d s2))])) rfl rfl (hb hby dF2_21)
    refine Wlk.of (fun _ k => st4 _ k) ?_
    show Wlk p.tables e below (T4.setTop (mkF m 24 #[rv a, iv (2 : Int32)] [(.long pt), (.double (FP.l2d s2))])) K
    refine Wlk.of (fun _ k => XS.l2dS X4.here hx rfl (hb hby dF2_24) rfl rfl k) ?_
    show Wlk p.tables e below (T4.setTop (mkF m 25 #[rv a, iv (2 : Int32)] [(.double (FP.l2d pt)), (.double (FP.l2d s2))])) K
    refine Wlk.of (fun _ k => XS.ddivS X4.here hx rfl (hb hby dF2_25) rfl (Fl.ddiv_out (Fl.l2d_fin _).noNaN (Fl.l2d_fin _) (Fl.l2d_nz hc2)) rfl k) ?_
    show Wlk p.tables e below (T4.setTop (mkF m 26 #[rv a, iv (2 : Int32)] [(.double (FP.ddiv (FP.l2d s2) (FP.l2d pt)))])) K
    refine hK (some (.double (FP.ddiv (FP.l2d s2) (FP.l2d pt)))) X4 (fun q => by cases q) (fun fs hr => retOut X4 hx hret rfl (Or.inr (Or.inr (Or.inl ⟨rfl, rfl, _, rfl⟩))) (hb hby dF2_26) hr) ?_ (by decide) (by decide)
    rw [show T4.heap = h0 from e4]
    exact ⟨(by rw [if_neg hc2]), N0, rfl⟩
theorem d8_0 : decode method_4_code 0 = .ok (.iload_n 0, 1) := by decide +kernel
theorem d8_1 : decode method_4_code 1 = .ok (.ifCond .ne 7, 3) := by decide +kernel
theorem d8_4 : decode method_4_code 4 = .ok (.dconst 0, 1) := by decide +kernel
theorem d8_5 : decode method_4_code 5 = .ok (.goto 8, 3) := by decide +kernel
theorem d8_8 : decode method_4_code 8 = .ok (.iload_n 1, 1) := by decide +kernel
theorem d8_9 : decode method_4_code 9 = .ok (.i2d, 1) := by decide +kernel
theorem d8_10 : decode method_4_code 10 = .ok (.iload_n 0, 1) := by decide +kernel
theorem d8_11 : decode method_4_code 11 = .ok (.i2d, 1) := by decide +kernel
theorem d8_12 : decode method_4_code 12 = .ok (.ddiv, 1) := by decide +kernel
theorem d8_13 : decode method_4_code 13 = .ok (.dreturn, 1) := by decide +kernel
theorem ef_rmC (m : MethodId) (n : Int32) (cc : Int32) : entryFrame m #[(.int n), (.int cc)] 2 = mkF m 0 #[iv n, iv cc] [] := by first | (simp [entryFrame, mkF, argsToLocals, Value.category]; done) | rfl
def Q_rmC (Z : State) (n : Int32) (cc : Int32) (h0 : Heap) (n0 : Nat) (v : Option Value) (h : Heap) (L : List Loc) : Prop := v = (some (.double (if n = (0 : Int32) then FP.dconst0 else (FP.ddiv (FP.i2d cc) (FP.i2d n))))) ∧ Fr n0 L ∧ h = h0
set_option maxRecDepth 65536 in
set_option maxHeartbeats 40000000 in
theorem rmC (l : Launch) (Z : State) (a0 : Array Value) (hw : ∀ d ∈ tables_1, d.before a0 Z = true) (n : Int32) (cc : Int32) (h0 : Heap) (n0 : Nat) (Z0 : n0 ≤ h0.size) :
    Ctr l Z h0 (⟨"com/example/idealyze/idealyze/simulation/TallyAddPinLaw", "frac", "(II)D"⟩ : MethodName) method_4_code 2 (some .double) [] ({ frames := 0, cells := 0, slots := 0, locals := 0 } : Room) #[(.int n), (.int cc)] (Q_rmC Z n cc h0 n0) := by
  refine Ctr.make (plainFor_of_name pn_10) fun p e s m below meth c s₁ K hret hml hx hby hown hnm hZ X0 e0 hK => ?_
  have hown : s.vm.findClass "com/example/idealyze/idealyze/simulation/TallyAddPinLaw" = some m.cls := hown
  have N0 := Fr.nil n0
  have K0 : Keep h0 h0 [] := Keep.refl _ _
  refine Wlk.of (fun _ k => castTop (ef_rmC m n cc) k) ?_
  show Wlk p.tables e below (s₁.setTop (mkF m 0 #[iv n, iv cc] [])) K
  refine Wlk.of (fun _ k => XS.iloadN X0.here hx rfl (hb hby d8_0) rfl k) ?_
  show Wlk p.tables e below (s₁.setTop (mkF m 1 #[iv n, iv cc] [(.int n)])) K
  by_cases hc1 : n = (0 : Int32)
  · refine Wlk.of (fun _ k => XS.ifNo X0.here hx rfl (hb hby d8_1) rfl ((if0 _ _).trans (teq hc1).2) k) ?_
    show Wlk p.tables e below (s₁.setTop (mkF m 4 #[iv n, iv cc] [])) K
    refine Wlk.of (fun _ k => XS.dconst0 X0.here hx rfl (hb hby d8_4) rfl k) ?_
    show Wlk p.tables e below (s₁.setTop (mkF m 5 #[iv n, iv cc] [(.double FP.dconst0)])) K
    refine Wlk.of (fun _ k => XS.goto X0.here hx rfl (pc0 := 5) (pc' := 13) rfl (hb hby d8_5) (by decide) (by decide) k) ?_
    show Wlk p.tables e below (s₁.setTop (mkF m 13 #[iv n, iv cc] [(.double FP.dconst0)])) K
    refine hK (some (.double FP.dconst0)) X0 (fun q => by cases q) (fun fs hr => retOut X0 hx hret rfl (Or.inr (Or.inr (Or.inl ⟨rfl, rfl, _, rfl⟩))) (hb hby d8_13) hr) ?_ (by decide) (by decide)
    rw [show s₁.heap = h0 from e0]
    exact ⟨(by rw [if_pos hc1]), N0, rfl⟩
  · refine Wlk.of (fun _ k => XS.ifYes X0.here hx rfl (pc0 := 1) (pc' := 8) rfl (hb hby d8_1) rfl ((if0 _ _).trans (feq hc1).2) (by decide) (by decide) k) ?_
    show Wlk p.tables e below (s₁.setTop (mkF m 8 #[iv n, iv cc] [])) K
    refine Wlk.of (fun _ k => XS.iloadN X0.here hx rfl (hb hby d8_8) rfl k) ?_
    show Wlk p.tables e below (s₁.setTop (mkF m 9 #[iv n, iv cc] [(.int cc)])) K
    refine Wlk.of (fun _ k => XS.i2dS X0.here hx rfl (hb hby d8_9) rfl rfl k) ?_
    show Wlk p.tables e below (s₁.setTop (mkF m 10 #[iv n, iv cc] [(.double (FP.i2d cc))])) K
    refine Wlk.of (fun _ k => XS.iloadN X0.here hx rfl (hb hby d8_10) rfl k) ?_
    show Wlk p.tables e below (s₁.setTop (mkF m 11 #[iv n, iv cc] [(.int n), (.double (FP.i2d cc))])) K
    refine Wlk.of (fun _ k => XS.i2dS X0.here hx rfl (hb hby d8_11) rfl rfl k) ?_
    show Wlk p.tables e below (s₁.setTop (mkF m 12 #[iv n, iv cc] [(.double (FP.i2d n)), (.double (FP.i2d cc))])) K
    refine Wlk.of (fun _ k => XS.ddivS X0.here hx rfl (hb hby d8_12) rfl (by rw [i2d_w, i2d_w]; exact Fl.ddiv_out (Fl.l2d_fin _).noNaN (Fl.l2d_fin _) (Fl.l2d_nz (fun z => hc1 (own_i2l0.mp z)))) rfl k) ?_
    show Wlk p.tables e below (s₁.setTop (mkF m 13 #[iv n, iv cc] [(.double (FP.ddiv (FP.i2d cc) (FP.i2d n)))])) K
    refine hK (some (.double (FP.ddiv (FP.i2d cc) (FP.i2d n)))) X0 (fun q => by cases q) (fun fs hr => retOut X0 hx hret rfl (Or.inr (Or.inr (Or.inl ⟨rfl, rfl, _, rfl⟩))) (hb hby d8_13) hr) ?_ (by decide) (by decide)
    rw [show s₁.heap = h0 from e0]
    exact ⟨(by rw [if_neg hc1]), N0, rfl⟩
theorem pd_147 : parseMethodDescriptor "(II)Z" = some ⟨[.int, .int], some .boolean⟩ := by decide +kernel
theorem pd_148 : parseMethodDescriptor "(I)V" = some ⟨[.int], none⟩ := by decide +kernel
theorem pd_149 : parseMethodDescriptor "([Z)V" = some ⟨[(.array .boolean)], none⟩ := by decide +kernel
theorem pd_150 : parseMethodDescriptor "(II)I" = some ⟨[.int, .int], some .int⟩ := by decide +kernel
theorem pd_151 : parseMethodDescriptor "()J" = some ⟨[], some .long⟩ := by decide +kernel
theorem pd_152 : parseMethodDescriptor "(I)D" = some ⟨[.int], some .double⟩ := by decide +kernel
theorem pd_153 : parseMethodDescriptor "(II)D" = some ⟨[.int, .int], some .double⟩ := by decide +kernel
theorem ef_rm0 (m : MethodId) (p1 : Int32) (p2 : Int32) : entryFrame m #[(.int p1), (.int p2)] maxLocals = mkF m 0 #[iv p1, iv p2, un, un, un, un, un, un, un, un, un, un, un] [] := by first | (simp [entryFrame, mkF, argsToLocals, Value.category, maxLocals]; done) | rfl
def Q_rm0 (Z : State) (p1 : Int32) (p2 : Int32) (h0 : Heap) (n0 : Nat) (v : Option Value) (h : Heap) (L : List Loc) : Prop := v = (some (.int (1 : Int32))) ∧ Fr n0 L
set_option maxRecDepth 65536 in
set_option maxHeartbeats 40000000 in
theorem rm0 (l : Launch) (Z : State) (a0 : Array Value) (hw : ∀ d ∈ tables_1, d.before a0 Z = true) (ws : List Jvm.Cond) (p1 : Int32) (p2 : Int32) (h0 : Heap) (n0 : Nat) (Z0 : n0 ≤ h0.size) :
    Ctr l Z h0 x code maxLocals ret ws room_1 #[(.int p1), (.int p2)] (Q_rm0 Z p1 p2 h0 n0) := by
  refine Ctr.make (plainFor_of_name pn_10) fun p e s m below meth c s₁ K hret hml hx hby hown hnm hZ X0 e0 hK => ?_
  have hown : s.vm.findClass "com/example/idealyze/idealyze/simulation/TallyAddPinLaw" = some m.cls := hown
  have hml : c.maxLocals = 13 := hml
  have N0 := Fr.nil n0
  have K0 : Keep h0 h0 [] := Keep.refl _ _
  refine Wlk.of (fun _ k => castTop (ef_rm0 m p1 p2) k) ?_
  show Wlk p.tables e below (s₁.setTop (mkF m 0 #[iv p1, iv p2, un, un, un, un, un, un, un, un, un, un, un] [])) K
  refine Wlk.of (fun _ k => XS.iconst X0.here hx rfl (hb hby at_0) k) ?_
  show Wlk p.tables e below (s₁.setTop (mkF m 1 #[iv p1, iv p2, un, un, un, un, un, un, un, un, un, un, un] [(.int (3 : Int32))])) K
  obtain ⟨T1, h1, X1, e1, E1, A1, st1⟩ := newL X0 hx hZ (wd hw 0 rfl) e0 (g := (mkF m 1 #[iv p1, iv p2, un, un, un, un, un, un, un, un, un, un, un] [(.int (3 : Int32))])) rfl (hb hby at_1) rfl (by decide) (cap := 3) (by decide) (by decide) (by decide) (by decide)
  obtain ⟨b1, g1⟩ : ∃ z, z = h0.size := ⟨_, rfl⟩
  rw [← g1] at A1 st1
  have sz_b1 : h0.size ≤ b1 := Nat.le_trans K0.1 (Nat.le_of_eq g1.symm)
  have g_b1 : n0 ≤ b1 := Nat.le_trans Z0 sz_b1
  have K3 : Keep h0 h1 [] := K0.ext E1
  have A_b1 : Arl Z h1 b1 .boolean [(.int (0 : Int32)), (.int (0 : Int32)), (.int (0 : Int32))] := A1
  refine Wlk.of (fun _ k => st1 _ k) ?_
  show Wlk p.tables e below (T1.setTop (mkF m 3 #[iv p1, iv p2, un, un, un, un, un, un, un, un, un, un, un] [(.ref b1)])) K
  refine Wlk.of (fun _ k => XS.dup X1.here hx rfl (hb hby at_3) rfl rfl k) ?_
  show Wlk p.tables e below (T1.setTop (mkF m 4 #[iv p1, iv p2, un, un, un, un, un, un, un, un, un, un, un] [(.ref b1), (.ref b1)])) K
  refine Wlk.of (fun _ k => XS.iconst X1.here hx rfl (hb hby at_4) k) ?_
  show Wlk p.tables e below (T1.setTop (mkF m 5 #[iv p1, iv p2, un, un, un, un, un, un, un, un, un, un, un] [(.int (0 : Int32)), (.ref b1), (.ref b1)])) K
  refine Wlk.of (fun _ k => XS.iloadN X1.here hx rfl (hb hby at_5) rfl k) ?_
  show Wlk p.tables e below (T1.setTop (mkF m 6 #[iv p1, iv p2, un, un, un, un, un, un, un, un, un, un, un] [(.int p1), (.int (0 : Int32)), (.ref b1), (.ref b1)])) K
  refine Wlk.of (fun _ k => XS.iconst X1.here hx rfl (hb hby at_6) k) ?_
  show Wlk p.tables e below (T1.setTop (mkF m 7 #[iv p1, iv p2, un, un, un, un, un, un, un, un, un, un, un] [(.int (0 : Int32)), (.int p1), (.int (0 : Int32)), (.ref b1), (.ref b1)])) K
  obtain ⟨v4, T4, L4, X4, q4, st4⟩ := Ctr.static (rmB l Z a0 hw p1 (0 : Int32) h1 n0 (Nat.le_trans Z0 K3.1) ) X1 hx hZ e1 hown (wd hw 1 rfl) (wd hw 2 rfl) (wd hw 3 rfl) (wd hw 4 rfl) (by decide) pd_147 (g := (mkF m 7 #[iv p1, iv p2, un, un, un, un, un, un, un, un, un, un, un] [(.int (0 : Int32)), (.int p1), (.int (0 : Int32)), (.ref b1), (.ref b1)])) rfl (by rw [hml]; rfl) (argsL := [(.int p1), (.int (0 : Int32))]) (rest := [(.int (0 : Int32)), (.ref b1), (.ref b1)]) rfl rfl rfl (W := 3) (by show 2 * 0 + _ ≤ _; exact Nat.le_of_eq rfl) (by decide) (by decide) (hb hby at_7) (by decide) (by decide)
  obtain ⟨rfl, N4q, hh4⟩ := q4
  have N5 := Fr.app N0 N4q
  refine Wlk.of (fun _ k => st4 _ k) ?_
  show Wlk p.tables e below (T4.setTop (mkF m 10 #[iv p1, iv p2, un, un, un, un, un, un, un, un, un, un, un] [(.int (((p1.toUInt32 >>> ((0 : Int32) &&& 31).toUInt32).toInt32) &&& (1 : Int32))), (.int (0 : Int32)), (.ref b1), (.ref b1)])) K
  generalize he0 : (((p1.toUInt32 >>> ((0 : Int32) &&& 31).toUInt32).toInt32) &&& (1 : Int32)) = e0
  have be0 : e0 = 0 ∨ e0 = 1 := by rw [← he0]; exact own_01 _
  obtain ⟨T6, h6, X6, e6, W6, V6, st6⟩ := stZl X4 hx hZ hh4 A_b1 (x := e0) (own_nar be0) (j := (0 : Int32)) (i := 0) (by decide) (by decide) (show 0 < 3 by decide) (g := (mkF m 10 #[iv p1, iv p2, un, un, un, un, un, un, un, un, un, un, un] [(.int e0), (.int (0 : Int32)), (.ref b1), (.ref b1)])) rfl rfl (hb hby at_10)
  refine Wlk.of (fun _ k => st6 _ k) ?_
  have K7 : Keep h0 h6 [] := K3.wr W6 (Or.inr sz_b1)
  have N8 := Fr.snoc X6 N5 g_b1
  have Vw6 : Arl Z h6 b1 .boolean [(.int e0), (.int (0 : Int32)), (.int (0 : Int32))] := V6
  show Wlk p.tables e below (T6.setTop (mkF m 11 #[iv p1, iv p2, un, un, un, un, un, un, un, un, un, un, un] [(.ref b1)])) K
  refine Wlk.of (fun _ k => XS.dup X6.here hx rfl (hb hby at_11) rfl rfl k) ?_
  show Wlk p.tables e below (T6.setTop (mkF m 12 #[iv p1, iv p2, un, un, un, un, un, un, un, un, un, un, un] [(.ref b1), (.ref b1)])) K
  refine Wlk.of (fun _ k => XS.iconst X6.here hx rfl (hb hby at_12) k) ?_
  show Wlk p.tables e below (T6.setTop (mkF m 13 #[iv p1, iv p2, un, un, un, un, un, un, un, un, un, un, un] [(.int (1 : Int32)), (.ref b1), (.ref b1)])) K
  refine Wlk.of (fun _ k => XS.iloadN X6.here hx rfl (hb hby at_13) rfl k) ?_
  show Wlk p.tables e below (T6.setTop (mkF m 14 #[iv p1, iv p2, un, un, un, un, un, un, un, un, un, un, un] [(.int p1), (.int (1 : Int32)), (.ref b1), (.ref b1)])) K
  refine Wlk.of (fun _ k => XS.iconst X6.here hx rfl (hb hby at_14) k) ?_
  show Wlk p.tables e below (T6.setTop (mkF m 15 #[iv p1, iv p2, un, un, un, un, un, un, un, un, un, un, un] [(.int (1 : Int32)), (.int p1), (.int (1 : Int32)), (.ref b1), (.ref b1)])) K
  obtain ⟨v9, T9, L9, X9, q9, st9⟩ := Ctr.static (rmB l Z a0 hw p1 (1 : Int32) h6 n0 (Nat.le_trans Z0 K7.1) ) X6 hx hZ e6 hown (wd hw 1 rfl) (wd hw 2 rfl) (wd hw 3 rfl) (wd hw 4 rfl) (by decide) pd_147 (g := (mkF m 15 #[iv p1, iv p2, un, un, un, un, un, un, un, un, un, un, un] [(.int (1 : Int32)), (.int p1), (.int (1 : Int32)), (.ref b1), (.ref b1)])) rfl (by rw [hml]; rfl) (argsL := [(.int p1), (.int (1 : Int32))]) (rest := [(.int (1 : Int32)), (.ref b1), (.ref b1)]) rfl rfl rfl (W := 3) (by show 2 * 0 + _ ≤ _; exact Nat.le_of_eq rfl) (by decide) (by decide) (hb hby at_15) (by decide) (by decide)
  obtain ⟨rfl, N9q, hh9⟩ := q9
  have N10 := Fr.app N8 N9q
  refine Wlk.of (fun _ k => st9 _ k) ?_
  show Wlk p.tables e below (T9.setTop (mkF m 18 #[iv p1, iv p2, un, un, un, un, un, un, un, un, un, un, un] [(.int (((p1.toUInt32 >>> ((1 : Int32) &&& 31).toUInt32).toInt32) &&& (1 : Int32))), (.int (1 : Int32)), (.ref b1), (.ref b1)])) K
  generalize he1 : (((p1.toUInt32 >>> ((1 : Int32) &&& 31).toUInt32).toInt32) &&& (1 : Int32)) = e1
  have be1 : e1 = 0 ∨ e1 = 1 := by rw [← he1]; exact own_01 _
  obtain ⟨T11, h11, X11, e11, W11, V11, st11⟩ := stZl X9 hx hZ hh9 Vw6 (x := e1) (own_nar be1) (j := (1 : Int32)) (i := 1) (by decide) (by decide) (show 1 < 3 by decide) (g := (mkF m 18 #[iv p1, iv p2, un, un, un, un, un, un, un, un, un, un, un] [(.int e1), (.int (1 : Int32)), (.ref b1), (.ref b1)])) rfl rfl (hb hby at_18)
  refine Wlk.of (fun _ k => st11 _ k) ?_
  have K12 : Keep h0 h11 [] := K7.wr W11 (Or.inr sz_b1)
  have N13 := Fr.snoc X11 N10 g_b1
  have Vw11 : Arl Z h11 b1 .boolean [(.int e0), (.int e1), (.int (0 : Int32))] := V11
  show Wlk p.tables e below (T11.setTop (mkF m 19 #[iv p1, iv p2, un, un, un, un, un, un, un, un, un, un, un] [(.ref b1)])) K
  refine Wlk.of (fun _ k => XS.dup X11.here hx rfl (hb hby at_19) rfl rfl k) ?_
  show Wlk p.tables e below (T11.setTop (mkF m 20 #[iv p1, iv p2, un, un, un, un, un, un, un, un, un, un, un] [(.ref b1), (.ref b1)])) K
  refine Wlk.of (fun _ k => XS.iconst X11.here hx rfl (hb hby at_20) k) ?_
  show Wlk p.tables e below (T11.setTop (mkF m 21 #[iv p1, iv p2, un, un, un, un, un, un, un, un, un, un, un] [(.int (2 : Int32)), (.ref b1), (.ref b1)])) K
  refine Wlk.of (fun _ k => XS.iloadN X11.here hx rfl (hb hby at_21) rfl k) ?_
  show Wlk p.tables e below (T11.setTop (mkF m 22 #[iv p1, iv p2, un, un, un, un, un, un, un, un, un, un, un] [(.int p1), (.int (2 : Int32)), (.ref b1), (.ref b1)])) K
  refine Wlk.of (fun _ k => XS.iconst X11.here hx rfl (hb hby at_22) k) ?_
  show Wlk p.tables e below (T11.setTop (mkF m 23 #[iv p1, iv p2, un, un, un, un, un, un, un, un, un, un, un] [(.int (2 : Int32)), (.int p1), (.int (2 : Int32)), (.ref b1), (.ref b1)])) K
  obtain ⟨v14, T14, L14, X14, q14, st14⟩ := Ctr.static (rmB l Z a0 hw p1 (2 : Int32) h11 n0 (Nat.le_trans Z0 K12.1) ) X11 hx hZ e11 hown (wd hw 1 rfl) (wd hw 2 rfl) (wd hw 3 rfl) (wd hw 4 rfl) (by decide) pd_147 (g := (mkF m 23 #[iv p1, iv p2, un, un, un, un, un, un, un, un, un, un, un] [(.int (2 : Int32)), (.int p1), (.int (2 : Int32)), (.ref b1), (.ref b1)])) rfl (by rw [hml]; rfl) (argsL := [(.int p1), (.int (2 : Int32))]) (rest := [(.int (2 : Int32)), (.ref b1), (.ref b1)]) rfl rfl rfl (W := 3) (by show 2 * 0 + _ ≤ _; exact Nat.le_of_eq rfl) (by decide) (by decide) (hb hby at_23) (by decide) (by decide)
  obtain ⟨rfl, N14q, hh14⟩ := q14
  have N15 := Fr.app N13 N14q
  refine Wlk.of (fun _ k => st14 _ k) ?_
  show Wlk p.tables e below (T14.setTop (mkF m 26 #[iv p1, iv p2, un, un, un, un, un, un, un, un, un, un, un] [(.int (((p1.toUInt32 >>> ((2 : Int32) &&& 31).toUInt32).toInt32) &&& (1 : Int32))), (.int (2 : Int32)), (.ref b1), (.ref b1)])) K
  generalize he2 : (((p1.toUInt32 >>> ((2 : Int32) &&& 31).toUInt32).toInt32) &&& (1 : Int32)) = e2
  have be2 : e2 = 0 ∨ e2 = 1 := by rw [← he2]; exact own_01 _
  obtain ⟨T16, h16, X16, e16, W16, V16, st16⟩ := stZl X14 hx hZ hh14 Vw11 (x := e2) (own_nar be2) (j := (2 : Int32)) (i := 2) (by decide) (by decide) (show 2 < 3 by decide) (g := (mkF m 26 #[iv p1, iv p2, un, un, un, un, un, un, un, un, un, un, un] [(.int e2), (.int (2 : Int32)), (.ref b1), (.ref b1)])) rfl rfl (hb hby at_26)
  refine Wlk.of (fun _ k => st16 _ k) ?_
  have K17 : Keep h0 h16 [] := K12.wr W16 (Or.inr sz_b1)
  have N18 := Fr.snoc X16 N15 g_b1
  have Vw16 : Arl Z h16 b1 .boolean [(.int e0), (.int e1), (.int e2)] := V16
  show Wlk p.tables e below (T16.setTop (mkF m 27 #[iv p1, iv p2, un, un, un, un, un, un, un, un, un, un, un] [(.ref b1)])) K
  refine Wlk.of (fun _ k => XS.astoreN X16.here hx rfl (hb hby at_27) rfl rfl (l' := #[iv p1, iv p2, rv b1, un, un, un, un, un, un, un, un, un, un]) rfl k) ?_
  show Wlk p.tables e below (T16.setTop (mkF m 28 #[iv p1, iv p2, rv b1, un, un, un, un, un, un, un, un, un, un] [])) K
  refine Wlk.of (fun _ k => XS.iconst X16.here hx rfl (hb hby at_28) k) ?_
  show Wlk p.tables e below (T16.setTop (mkF m 29 #[iv p1, iv p2, rv b1, un, un, un, un, un, un, un, un, un, un] [(.int (3 : Int32))])) K
  obtain ⟨T19, h19, X19, e19, E19, A19, st19⟩ := newL X16 hx hZ (wd hw 0 rfl) e16 (g := (mkF m 29 #[iv p1, iv p2, rv b1, un, un, un, un, un, un, un, un, un, un] [(.int (3 : Int32))])) rfl (hb hby at_29) rfl (by decide) (cap := 3) (by decide) (by decide) (by decide) (by decide)
  obtain ⟨b19, g19⟩ : ∃ z, z = h16.size := ⟨_, rfl⟩
  rw [← g19] at A19 st19
  have ne20 : b1 ≠ b19 := Nat.ne_of_lt (Nat.lt_of_lt_of_le Vw16.lt (Nat.le_of_eq g19.symm))
  have sz_b19 : h0.size ≤ b19 := Nat.le_trans K17.1 (Nat.le_of_eq g19.symm)
  have g_b19 : n0 ≤ b19 := Nat.le_trans Z0 sz_b19
  have K22 : Keep h0 h19 [] := K17.ext E19
  have A_b19 : Arl Z h19 b19 .boolean [(.int (0 : Int32)), (.int (0 : Int32)), (.int (0 : Int32))] := A19
  refine Wlk.of (fun _ k => st19 _ k) ?_
  show Wlk p.tables e below (T19.setTop (mkF m 31 #[iv p1, iv p2, rv b1, un, un, un, un, un, un, un, un, un, un] [(.ref b19)])) K
  refine Wlk.of (fun _ k => XS.dup X19.here hx rfl (hb hby at_31) rfl rfl k) ?_
  show Wlk p.tables e below (T19.setTop (mkF m 32 #[iv p1, iv p2, rv b1, un, un, un, un, un, un, un, un, un, un] [(.ref b19), (.ref b19)])) K
  refine Wlk.of (fun _ k => XS.iconst X19.here hx rfl (hb hby at_32) k) ?_
  show Wlk p.tables e below (T19.setTop (mkF m 33 #[iv p1, iv p2, rv b1, un, un, un, un, un, un, un, un, un, un] [(.int (0 : Int32)), (.ref b19), (.ref b19)])) K
  refine Wlk.of (fun _ k => XS.iloadN X19.here hx rfl (hb hby at_33) rfl k) ?_
  show Wlk p.tables e below (T19.setTop (mkF m 34 #[iv p1, iv p2, rv b1, un, un, un, un, un, un, un, un, un, un] [(.int p1), (.int (0 : Int32)), (.ref b19), (.ref b19)])) K
  refine Wlk.of (fun _ k => XS.iconst X19.here hx rfl (hb hby at_34) k) ?_
  show Wlk p.tables e below (T19.setTop (mkF m 35 #[iv p1, iv p2, rv b1, un, un, un, un, un, un, un, un, un, un] [(.int (3 : Int32)), (.int p1), (.int (0 : Int32)), (.ref b19), (.ref b19)])) K
  obtain ⟨v23, T23, L23, X23, q23, st23⟩ := Ctr.static (rmB l Z a0 hw p1 (3 : Int32) h19 n0 (Nat.le_trans Z0 K22.1) ) X19 hx hZ e19 hown (wd hw 1 rfl) (wd hw 2 rfl) (wd hw 3 rfl) (wd hw 4 rfl) (by decide) pd_147 (g := (mkF m 35 #[iv p1, iv p2, rv b1, un, un, un, un, un, un, un, un, un, un] [(.int (3 : Int32)), (.int p1), (.int (0 : Int32)), (.ref b19), (.ref b19)])) rfl (by rw [hml]; rfl) (argsL := [(.int p1), (.int (3 : Int32))]) (rest := [(.int (0 : Int32)), (.ref b19), (.ref b19)]) rfl rfl rfl (W := 3) (by show 2 * 0 + _ ≤ _; exact Nat.le_of_eq rfl) (by decide) (by decide) (hb hby at_35) (by decide) (by decide)
  obtain ⟨rfl, N23q, hh23⟩ := q23
  have N24 := Fr.app N18 N23q
  refine Wlk.of (fun _ k => st23 _ k) ?_
  show Wlk p.tables e below (T23.setTop (mkF m 38 #[iv p1, iv p2, rv b1, un, un, un, un, un, un, un, un, un, un] [(.int (((p1.toUInt32 >>> ((3 : Int32) &&& 31).toUInt32).toInt32) &&& (1 : Int32))), (.int (0 : Int32)), (.ref b19), (.ref b19)])) K
  generalize he3 : (((p1.toUInt32 >>> ((3 : Int32) &&& 31).toUInt32).toInt32) &&& (1 : Int32)) = e3
  have be3 : e3 = 0 ∨ e3 = 1 := by rw [← he3]; exact own_01 _
  obtain ⟨T25, h25, X25, e25, W25, V25, st25⟩ := stZl X23 hx hZ hh23 A_b19 (x := e3) (own_nar be3) (j := (0 : Int32)) (i := 0) (by decide) (by decide) (show 0 < 3 by decide) (g := (mkF m 38 #[iv p1, iv p2, rv b1, un, un, un, un, un, un, un, un, un, un] [(.int e3), (.int (0 : Int32)), (.ref b19), (.ref b19)])) rfl rfl (hb hby at_38)
  refine Wlk.of (fun _ k => st25 _ k) ?_
  have K26 : Keep h0 h25 [] := K22.wr W25 (Or.inr sz_b19)
  have N27 := Fr.snoc X25 N24 g_b19
  have Vw25 : Arl Z h25 b19 .boolean [(.int e3), (.int (0 : Int32)), (.int (0 : Int32))] := V25
  show Wlk p.tables e below (T25.setTop (mkF m 39 #[iv p1, iv p2, rv b1, un, un, un, un, un, un, un, un, un, un] [(.ref b19)])) K
  refine Wlk.of (fun _ k => XS.dup X25.here hx rfl (hb hby at_39) rfl rfl k) ?_
  show Wlk p.tables e below (T25.setTop (mkF m 40 #[iv p1, iv p2, rv b1, un, un, un, un, un, un, un, un, un, un] [(.ref b19), (.ref b19)])) K
  refine Wlk.of (fun _ k => XS.iconst X25.here hx rfl (hb hby at_40) k) ?_
  show Wlk p.tables e below (T25.setTop (mkF m 41 #[iv p1, iv p2, rv b1, un, un, un, un, un, un, un, un, un, un] [(.int (1 : Int32)), (.ref b19), (.ref b19)])) K
  refine Wlk.of (fun _ k => XS.iloadN X25.here hx rfl (hb hby at_41) rfl k) ?_
  show Wlk p.tables e below (T25.setTop (mkF m 42 #[iv p1, iv p2, rv b1, un, un, un, un, un, un, un, un, un, un] [(.int p1), (.int (1 : Int32)), (.ref b19), (.ref b19)])) K
  refine Wlk.of (fun _ k => XS.iconst X25.here hx rfl (hb hby at_42) k) ?_
  show Wlk p.tables e below (T25.setTop (mkF m 43 #[iv p1, iv p2, rv b1, un, un, un, un, un, un, un, un, un, un] [(.int (4 : Int32)), (.int p1), (.int (1 : Int32)), (.ref b19), (.ref b19)])) K
  obtain ⟨v28, T28, L28, X28, q28, st28⟩ := Ctr.static (rmB l Z a0 hw p1 (4 : Int32) h25 n0 (Nat.le_trans Z0 K26.1) ) X25 hx hZ e25 hown (wd hw 1 rfl) (wd hw 2 rfl) (wd hw 3 rfl) (wd hw 4 rfl) (by decide) pd_147 (g := (mkF m 43 #[iv p1, iv p2, rv b1, un, un, un, un, un, un, un, un, un, un] [(.int (4 : Int32)), (.int p1), (.int (1 : Int32)), (.ref b19), (.ref b19)])) rfl (by rw [hml]; rfl) (argsL := [(.int p1), (.int (4 : Int32))]) (rest := [(.int (1 : Int32)), (.ref b19), (.ref b19)]) rfl rfl rfl (W := 3) (by show 2 * 0 + _ ≤ _; exact Nat.le_of_eq rfl) (by decide) (by decide) (hb hby at_43) (by decide) (by decide)
  obtain ⟨rfl, N28q, hh28⟩ := q28
  have N29 := Fr.app N27 N28q
  refine Wlk.of (fun _ k => st28 _ k) ?_
  show Wlk p.tables e below (T28.setTop (mkF m 46 #[iv p1, iv p2, rv b1, un, un, un, un, un, un, un, un, un, un] [(.int (((p1.toUInt32 >>> ((4 : Int32) &&& 31).toUInt32).toInt32) &&& (1 : Int32))), (.int (1 : Int32)), (.ref b19), (.ref b19)])) K
  generalize he4 : (((p1.toUInt32 >>> ((4 : Int32) &&& 31).toUInt32).toInt32) &&& (1 : Int32)) = e4
  have be4 : e4 = 0 ∨ e4 = 1 := by rw [← he4]; exact own_01 _
  obtain ⟨T30, h30, X30, e30, W30, V30, st30⟩ := stZl X28 hx hZ hh28 Vw25 (x := e4) (own_nar be4) (j := (1 : Int32)) (i := 1) (by decide) (by decide) (show 1 < 3 by decide) (g := (mkF m 46 #[iv p1, iv p2, rv b1, un, un, un, un, un, un, un, un, un, un] [(.int e4), (.int (1 : Int32)), (.ref b19), (.ref b19)])) rfl rfl (hb hby at_46)
  refine Wlk.of (fun _ k => st30 _ k) ?_
  have K31 : Keep h0 h30 [] := K26.wr W30 (Or.inr sz_b19)
  have N32 := Fr.snoc X30 N29 g_b19
  have Vw30 : Arl Z h30 b19 .boolean [(.int e3), (.int e4), (.int (0 : Int32))] := V30
  show Wlk p.tables e below (T30.setTop (mkF m 47 #[iv p1, iv p2, rv b1, un, un, un, un, un, un, un, un, un, un] [(.ref b19)])) K
  refine Wlk.of (fun _ k => XS.dup X30.here hx rfl (hb hby at_47) rfl rfl k) ?_
  show Wlk p.tables e below (T30.setTop (mkF m 48 #[iv p1, iv p2, rv b1, un, un, un, un, un, un, un, un, un, un] [(.ref b19), (.ref b19)])) K
  refine Wlk.of (fun _ k => XS.iconst X30.here hx rfl (hb hby at_48) k) ?_
  show Wlk p.tables e below (T30.setTop (mkF m 49 #[iv p1, iv p2, rv b1, un, un, un, un, un, un, un, un, un, un] [(.int (2 : Int32)), (.ref b19), (.ref b19)])) K
  refine Wlk.of (fun _ k => XS.iloadN X30.here hx rfl (hb hby at_49) rfl k) ?_
  show Wlk p.tables e below (T30.setTop (mkF m 50 #[iv p1, iv p2, rv b1, un, un, un, un, un, un, un, un, un, un] [(.int p1), (.int (2 : Int32)), (.ref b19), (.ref b19)])) K
  refine Wlk.of (fun _ k => XS.iconst X30.here hx rfl (hb hby at_50) k) ?_
  show Wlk p.tables e below (T30.setTop (mkF m 51 #[iv p1, iv p2, rv b1, un, un, un, un, un, un, un, un, un, un] [(.int (5 : Int32)), (.int p1), (.int (2 : Int32)), (.ref b19), (.ref b19)])) K
  obtain ⟨v33, T33, L33, X33, q33, st33⟩ := Ctr.static (rmB l Z a0 hw p1 (5 : Int32) h30 n0 (Nat.le_trans Z0 K31.1) ) X30 hx hZ e30 hown (wd hw 1 rfl) (wd hw 2 rfl) (wd hw 3 rfl) (wd hw 4 rfl) (by decide) pd_147 (g := (mkF m 51 #[iv p1, iv p2, rv b1, un, un, un, un, un, un, un, un, un, un] [(.int (5 : Int32)), (.int p1), (.int (2 : Int32)), (.ref b19), (.ref b19)])) rfl (by rw [hml]; rfl) (argsL := [(.int p1), (.int (5 : Int32))]) (rest := [(.int (2 : Int32)), (.ref b19), (.ref b19)]) rfl rfl rfl (W := 3) (by show 2 * 0 + _ ≤ _; exact Nat.le_of_eq rfl) (by decide) (by decide) (hb hby at_51) (by decide) (by decide)
  obtain ⟨rfl, N33q, hh33⟩ := q33
  have N34 := Fr.app N32 N33q
  refine Wlk.of (fun _ k => st33 _ k) ?_
  show Wlk p.tables e below (T33.setTop (mkF m 54 #[iv p1, iv p2, rv b1, un, un, un, un, un, un, un, un, un, un] [(.int (((p1.toUInt32 >>> ((5 : Int32) &&& 31).toUInt32).toInt32) &&& (1 : Int32))), (.int (2 : Int32)), (.ref b19), (.ref b19)])) K
  generalize he5 : (((p1.toUInt32 >>> ((5 : Int32) &&& 31).toUInt32).toInt32) &&& (1 : Int32)) = e5
  have be5 : e5 = 0 ∨ e5 = 1 := by rw [← he5]; exact own_01 _
  obtain ⟨T35, h35, X35, e35, W35, V35, st35⟩ := stZl X33 hx hZ hh33 Vw30 (x := e5) (own_nar be5) (j := (2 : Int32)) (i := 2) (by decide) (by decide) (show 2 < 3 by decide) (g := (mkF m 54 #[iv p1, iv p2, rv b1, un, un, un, un, un, un, un, un, un, un] [(.int e5), (.int (2 : Int32)), (.ref b19), (.ref b19)])) rfl rfl (hb hby at_54)
  refine Wlk.of (fun _ k => st35 _ k) ?_
  have K36 : Keep h0 h35 [] := K31.wr W35 (Or.inr sz_b19)
  have N37 := Fr.snoc X35 N34 g_b19
  have Vw35 : Arl Z h35 b19 .boolean [(.int e3), (.int e4), (.int e5)] := V35
  show Wlk p.tables e below (T35.setTop (mkF m 55 #[iv p1, iv p2, rv b1, un, un, un, un, un, un, un, un, un, un] [(.ref b19)])) K
  refine Wlk.of (fun _ k => XS.astoreN X35.here hx rfl (hb hby at_55) rfl rfl (l' := #[iv p1, iv p2, rv b1, rv b19, un, un, un, un, un, un, un, un, un]) rfl k) ?_
  show Wlk p.tables e below (T35.setTop (mkF m 56 #[iv p1, iv p2, rv b1, rv b19, un, un, un, un, un, un, un, un, un] [])) K
  refine Wlk.of (fun _ k => XS.iconst X35.here hx rfl (hb hby at_56) k) ?_
  show Wlk p.tables e below (T35.setTop (mkF m 57 #[iv p1, iv p2, rv b1, rv b19, un, un, un, un, un, un, un, un, un] [(.int (3 : Int32))])) K
  obtain ⟨T38, h38, X38, e38, E38, A38, st38⟩ := newL X35 hx hZ (wd hw 0 rfl) e35 (g := (mkF m 57 #[iv p1, iv p2, rv b1, rv b19, un, un, un, un, un, un, un, un, un] [(.int (3 : Int32))])) rfl (hb hby at_57) rfl (by decide) (cap := 3) (by decide) (by decide) (by decide) (by decide)
  obtain ⟨b38, g38⟩ : ∃ z, z = h35.size := ⟨_, rfl⟩
  rw [← g38] at A38 st38
  have f40 : Arl Z h35 b1 .boolean [(.int e0), (.int e1), (.int e2)] := ((((Vw16.ext E19).other W25 ne20).other W30 ne20).other W35 ne20)
  have ne39 : b1 ≠ b38 := Nat.ne_of_lt (Nat.lt_of_lt_of_le f40.lt (Nat.le_of_eq g38.symm))
  have ne41 : b19 ≠ b38 := Nat.ne_of_lt (Nat.lt_of_lt_of_le Vw35.lt (Nat.le_of_eq g38.symm))
  have sz_b38 : h0.size ≤ b38 := Nat.le_trans K36.1 (Nat.le_of_eq g38.symm)
  have g_b38 : n0 ≤ b38 := Nat.le_trans Z0 sz_b38
  have K43 : Keep h0 h38 [] := K36.ext E38
  have A_b38 : Arl Z h38 b38 .boolean [(.int (0 : Int32)), (.int (0 : Int32)), (.int (0 : Int32))] := A38
  refine Wlk.of (fun _ k => st38 _ k) ?_
  show Wlk p.tables e below (T38.setTop (mkF m 59 #[iv p1, iv p2, rv b1, rv b19, un, un, un, un, un, un, un, un, un] [(.ref b38)])) K
  refine Wlk.of (fun _ k => XS.dup X38.here hx rfl (hb hby at_59) rfl rfl k) ?_
  show Wlk p.tables e below (T38.setTop (mkF m 60 #[iv p1, iv p2, rv b1, rv b19, un, un, un, un, un, un, un, un, un] [(.ref b38), (.ref b38)])) K
  refine Wlk.of (fun _ k => XS.iconst X38.here hx rfl (hb hby at_60) k) ?_
  show Wlk p.tables e below (T38.setTop (mkF m 61 #[iv p1, iv p2, rv b1, rv b19, un, un, un, un, un, un, un, un, un] [(.int (0 : Int32)), (.ref b38), (.ref b38)])) K
  refine Wlk.of (fun _ k => XS.iloadN X38.here hx rfl (hb hby at_61) rfl k) ?_
  show Wlk p.tables e below (T38.setTop (mkF m 62 #[iv p1, iv p2, rv b1, rv b19, un, un, un, un, un, un, un, un, un] [(.int p1), (.int (0 : Int32)), (.ref b38), (.ref b38)])) K
  refine Wlk.of (fun _ k => XS.bipush X38.here hx rfl (hb hby at_62) k) ?_
  show Wlk p.tables e below (T38.setTop (mkF m 64 #[iv p1, iv p2, rv b1, rv b19, un, un, un, un, un, un, un, un, un] [(.int (6 : Int32)), (.int p1), (.int (0 : Int32)), (.ref b38), (.ref b38)])) K
  obtain ⟨v44, T44, L44, X44, q44, st44⟩ := Ctr.static (rmB l Z a0 hw p1 (6 : Int32) h38 n0 (Nat.le_trans Z0 K43.1) ) X38 hx hZ e38 hown (wd hw 1 rfl) (wd hw 2 rfl) (wd hw 3 rfl) (wd hw 4 rfl) (by decide) pd_147 (g := (mkF m 64 #[iv p1, iv p2, rv b1, rv b19, un, un, un, un, un, un, un, un, un] [(.int (6 : Int32)), (.int p1), (.int (0 : Int32)), (.ref b38), (.ref b38)])) rfl (by rw [hml]; rfl) (argsL := [(.int p1), (.int (6 : Int32))]) (rest := [(.int (0 : Int32)), (.ref b38), (.ref b38)]) rfl rfl rfl (W := 3) (by show 2 * 0 + _ ≤ _; exact Nat.le_of_eq rfl) (by decide) (by decide) (hb hby at_64) (by decide) (by decide)
  obtain ⟨rfl, N44q, hh44⟩ := q44
  have N45 := Fr.app N37 N44q
  refine Wlk.of (fun _ k => st44 _ k) ?_
  show Wlk p.tables e below (T44.setTop (mkF m 67 #[iv p1, iv p2, rv b1, rv b19, un, un, un, un, un, un, un, un, un] [(.int (((p1.toUInt32 >>> ((6 : Int32) &&& 31).toUInt32).toInt32) &&& (1 : Int32))), (.int (0 : Int32)), (.ref b38), (.ref b38)])) K
  generalize he6 : (((p1.toUInt32 >>> ((6 : Int32) &&& 31).toUInt32).toInt32) &&& (1 : Int32)) = e6
  have be6 : e6 = 0 ∨ e6 = 1 := by rw [← he6]; exact own_01 _
  obtain ⟨T46, h46, X46, e46, W46, V46, st46⟩ := stZl X44 hx hZ hh44 A_b38 (x := e6) (own_nar be6) (j := (0 : Int32)) (i := 0) (by decide) (by decide) (show 0 < 3 by decide) (g := (mkF m 67 #[iv p1, iv p2, rv b1, rv b19, un, un, un, un, un, un, un, un, un] [(.int e6), (.int (0 : Int32)), (.ref b38), (.ref b38)])) rfl rfl (hb hby at_67)
  refine Wlk.of (fun _ k => st46 _ k) ?_
  have K47 : Keep h0 h46 [] := K43.wr W46 (Or.inr sz_b38)
  have N48 := Fr.snoc X46 N45 g_b38
  have Vw46 : Arl Z h46 b38 .boolean [(.int e6), (.int (0 : Int32)), (.int (0 : Int32))] := V46
  show Wlk p.tables e below (T46.setTop (mkF m 68 #[iv p1, iv p2, rv b1, rv b19, un, un, un, un, un, un, un, un, un] [(.ref b38)])) K
  refine Wlk.of (fun _ k => XS.dup X46.here hx rfl (hb hby at_68) rfl rfl k) ?_
  show Wlk p.tables e below (T46.setTop (mkF m 69 #[iv p1, iv p2, rv b1, rv b19, un, un, un, un, un, un, un, un, un] [(.ref b38), (.ref b38)])) K
  refine Wlk.of (fun _ k => XS.iconst X46.here hx rfl (hb hby at_69) k) ?_
  show Wlk p.tables e below (T46.setTop (mkF m 70 #[iv p1, iv p2, rv b1, rv b19, un, un, un, un, un, un, un, un, un] [(.int (1 : Int32)), (.ref b38), (.ref b38)])) K
  refine Wlk.of (fun _ k => XS.iloadN X46.here hx rfl (hb hby at_70) rfl k) ?_
  show Wlk p.tables e below (T46.setTop (mkF m 71 #[iv p1, iv p2, rv b1, rv b19, un, un, un, un, un, un, un, un, un] [(.int p1), (.int (1 : Int32)), (.ref b38), (.ref b38)])) K
  refine Wlk.of (fun _ k => XS.bipush X46.here hx rfl (hb hby at_71) k) ?_
  show Wlk p.tables e below (T46.setTop (mkF m 73 #[iv p1, iv p2, rv b1, rv b19, un, un, un, un, un, un, un, un, un] [(.int (7 : Int32)), (.int p1), (.int (1 : Int32)), (.ref b38), (.ref b38)])) K
  obtain ⟨v49, T49, L49, X49, q49, st49⟩ := Ctr.static (rmB l Z a0 hw p1 (7 : Int32) h46 n0 (Nat.le_trans Z0 K47.1) ) X46 hx hZ e46 hown (wd hw 1 rfl) (wd hw 2 rfl) (wd hw 3 rfl) (wd hw 4 rfl) (by decide) pd_147 (g := (mkF m 73 #[iv p1, iv p2, rv b1, rv b19, un, un, un, un, un, un, un, un, un] [(.int (7 : Int32)), (.int p1), (.int (1 : Int32)), (.ref b38), (.ref b38)])) rfl (by rw [hml]; rfl) (argsL := [(.int p1), (.int (7 : Int32))]) (rest := [(.int (1 : Int32)), (.ref b38), (.ref b38)]) rfl rfl rfl (W := 3) (by show 2 * 0 + _ ≤ _; exact Nat.le_of_eq rfl) (by decide) (by decide) (hb hby at_73) (by decide) (by decide)
  obtain ⟨rfl, N49q, hh49⟩ := q49
  have N50 := Fr.app N48 N49q
  refine Wlk.of (fun _ k => st49 _ k) ?_
  show Wlk p.tables e below (T49.setTop (mkF m 76 #[iv p1, iv p2, rv b1, rv b19, un, un, un, un, un, un, un, un, un] [(.int (((p1.toUInt32 >>> ((7 : Int32) &&& 31).toUInt32).toInt32) &&& (1 : Int32))), (.int (1 : Int32)), (.ref b38), (.ref b38)])) K
  generalize he7 : (((p1.toUInt32 >>> ((7 : Int32) &&& 31).toUInt32).toInt32) &&& (1 : Int32)) = e7
  have be7 : e7 = 0 ∨ e7 = 1 := by rw [← he7]; exact own_01 _
  obtain ⟨T51, h51, X51, e51, W51, V51, st51⟩ := stZl X49 hx hZ hh49 Vw46 (x := e7) (own_nar be7) (j := (1 : Int32)) (i := 1) (by decide) (by decide) (show 1 < 3 by decide) (g := (mkF m 76 #[iv p1, iv p2, rv b1, rv b19, un, un, un, un, un, un, un, un, un] [(.int e7), (.int (1 : Int32)), (.ref b38), (.ref b38)])) rfl rfl (hb hby at_76)
  refine Wlk.of (fun _ k => st51 _ k) ?_
  have K52 : Keep h0 h51 [] := K47.wr W51 (Or.inr sz_b38)
  have N53 := Fr.snoc X51 N50 g_b38
  have Vw51 : Arl Z h51 b38 .boolean [(.int e6), (.int e7), (.int (0 : Int32))] := V51
  show Wlk p.tables e below (T51.setTop (mkF m 77 #[iv p1, iv p2, rv b1, rv b19, un, un, un, un, un, un, un, un, un] [(.ref b38)])) K
  refine Wlk.of (fun _ k => XS.dup X51.here hx rfl (hb hby at_77) rfl rfl k) ?_
  show Wlk p.tables e below (T51.setTop (mkF m 78 #[iv p1, iv p2, rv b1, rv b19, un, un, un, un, un, un, un, un, un] [(.ref b38), (.ref b38)])) K
  refine Wlk.of (fun _ k => XS.iconst X51.here hx rfl (hb hby at_78) k) ?_
  show Wlk p.tables e below (T51.setTop (mkF m 79 #[iv p1, iv p2, rv b1, rv b19, un, un, un, un, un, un, un, un, un] [(.int (2 : Int32)), (.ref b38), (.ref b38)])) K
  refine Wlk.of (fun _ k => XS.iloadN X51.here hx rfl (hb hby at_79) rfl k) ?_
  show Wlk p.tables e below (T51.setTop (mkF m 80 #[iv p1, iv p2, rv b1, rv b19, un, un, un, un, un, un, un, un, un] [(.int p1), (.int (2 : Int32)), (.ref b38), (.ref b38)])) K
  refine Wlk.of (fun _ k => XS.bipush X51.here hx rfl (hb hby at_80) k) ?_
  show Wlk p.tables e below (T51.setTop (mkF m 82 #[iv p1, iv p2, rv b1, rv b19, un, un, un, un, un, un, un, un, un] [(.int (8 : Int32)), (.int p1), (.int (2 : Int32)), (.ref b38), (.ref b38)])) K
  obtain ⟨v54, T54, L54, X54, q54, st54⟩ := Ctr.static (rmB l Z a0 hw p1 (8 : Int32) h51 n0 (Nat.le_trans Z0 K52.1) ) X51 hx hZ e51 hown (wd hw 1 rfl) (wd hw 2 rfl) (wd hw 3 rfl) (wd hw 4 rfl) (by decide) pd_147 (g := (mkF m 82 #[iv p1, iv p2, rv b1, rv b19, un, un, un, un, un, un, un, un, un] [(.int (8 : Int32)), (.int p1), (.int (2 : Int32)), (.ref b38), (.ref b38)])) rfl (by rw [hml]; rfl) (argsL := [(.int p1), (.int (8 : Int32))]) (rest := [(.int (2 : Int32)), (.ref b38), (.ref b38)]) rfl rfl rfl (W := 3) (by show 2 * 0 + _ ≤ _; exact Nat.le_of_eq rfl) (by decide) (by decide) (hb hby at_82) (by decide) (by decide)
  obtain ⟨rfl, N54q, hh54⟩ := q54
  have N55 := Fr.app N53 N54q
  refine Wlk.of (fun _ k => st54 _ k) ?_
  show Wlk p.tables e below (T54.setTop (mkF m 85 #[iv p1, iv p2, rv b1, rv b19, un, un, un, un, un, un, un, un, un] [(.int (((p1.toUInt32 >>> ((8 : Int32) &&& 31).toUInt32).toInt32) &&& (1 : Int32))), (.int (2 : Int32)), (.ref b38), (.ref b38)])) K
  generalize he8 : (((p1.toUInt32 >>> ((8 : Int32) &&& 31).toUInt32).toInt32) &&& (1 : Int32)) = e8
  have be8 : e8 = 0 ∨ e8 = 1 := by rw [← he8]; exact own_01 _
  obtain ⟨T56, h56, X56, e56, W56, V56, st56⟩ := stZl X54 hx hZ hh54 Vw51 (x := e8) (own_nar be8) (j := (2 : Int32)) (i := 2) (by decide) (by decide) (show 2 < 3 by decide) (g := (mkF m 85 #[iv p1, iv p2, rv b1, rv b19, un, un, un, un, un, un, un, un, un] [(.int e8), (.int (2 : Int32)), (.ref b38), (.ref b38)])) rfl rfl (hb hby at_85)
  refine Wlk.of (fun _ k => st56 _ k) ?_
  have K57 : Keep h0 h56 [] := K52.wr W56 (Or.inr sz_b38)
  have N58 := Fr.snoc X56 N55 g_b38
  have Vw56 : Arl Z h56 b38 .boolean [(.int e6), (.int e7), (.int e8)] := V56
  show Wlk p.tables e below (T56.setTop (mkF m 86 #[iv p1, iv p2, rv b1, rv b19, un, un, un, un, un, un, un, un, un] [(.ref b38)])) K
  refine Wlk.of (fun _ k => XS.astore X56.here hx rfl (hb hby at_86) rfl rfl (l' := #[iv p1, iv p2, rv b1, rv b19, rv b38, un, un, un, un, un, un, un, un]) rfl k) ?_
  show Wlk p.tables e below (T56.setTop (mkF m 88 #[iv p1, iv p2, rv b1, rv b19, rv b38, un, un, un, un, un, un, un, un] [])) K
  refine Wlk.of (fun _ k => XS.iloadN X56.here hx rfl (hb hby at_88) rfl k) ?_
  show Wlk p.tables e below (T56.setTop (mkF m 89 #[iv p1, iv p2, rv b1, rv b19, rv b38, un, un, un, un, un, un, un, un] [(.int p2)])) K
  refine Wlk.of (fun _ k => XS.iconst X56.here hx rfl (hb hby at_89) k) ?_
  show Wlk p.tables e below (T56.setTop (mkF m 90 #[iv p1, iv p2, rv b1, rv b19, rv b38, un, un, un, un, un, un, un, un] [(.int (0 : Int32)), (.int p2)])) K
  obtain ⟨v59, T59, L59, X59, q59, st59⟩ := Ctr.static (rmB l Z a0 hw p2 (0 : Int32) h56 n0 (Nat.le_trans Z0 K57.1) ) X56 hx hZ e56 hown (wd hw 1 rfl) (wd hw 2 rfl) (wd hw 3 rfl) (wd hw 4 rfl) (by decide) pd_147 (g := (mkF m 90 #[iv p1, iv p2, rv b1, rv b19, rv b38, un, un, un, un, un, un, un, un] [(.int (0 : Int32)), (.int p2)])) rfl (by rw [hml]; rfl) (argsL := [(.int p2), (.int (0 : Int32))]) (rest := []) rfl rfl rfl (W := 0) (by show 2 * 0 + _ ≤ _; exact Nat.le_of_eq rfl) (by decide) (by decide) (hb hby at_90) (by decide) (by decide)
  obtain ⟨rfl, N59q, hh59⟩ := q59
  have N60 := Fr.app N58 N59q
  refine Wlk.of (fun _ k => st59 _ k) ?_
  show Wlk p.tables e below (T59.setTop (mkF m 93 #[iv p1, iv p2, rv b1, rv b19, rv b38, un, un, un, un, un, un, un, un] [(.int (((p2.toUInt32 >>> ((0 : Int32) &&& 31).toUInt32).toInt32) &&& (1 : Int32)))])) K
  refine Wlk.of (fun _ k => XS.istore X59.here hx rfl (hb hby at_93) rfl (l' := #[iv p1, iv p2, rv b1, rv b19, rv b38, iv (((p2.toUInt32 >>> ((0 : Int32) &&& 31).toUInt32).toInt32) &&& (1 : Int32)), un, un, un, un, un, un, un]) rfl k) ?_
  show Wlk p.tables e below (T59.setTop (mkF m 95 #[iv p1, iv p2, rv b1, rv b19, rv b38, iv (((p2.toUInt32 >>> ((0 : Int32) &&& 31).toUInt32).toInt32) &&& (1 : Int32)), un, un, un, un, un, un, un] [])) K
  generalize hv61 : (((p2.toUInt32 >>> ((0 : Int32) &&& 31).toUInt32).toInt32) &&& (1 : Int32)) = v61
  refine Wlk.of (fun _ k => XS.iloadN X59.here hx rfl (hb hby at_95) rfl k) ?_
  show Wlk p.tables e below (T59.setTop (mkF m 96 #[iv p1, iv p2, rv b1, rv b19, rv b38, iv v61, un, un, un, un, un, un, un] [(.int p2)])) K
  refine Wlk.of (fun _ k => XS.iconst X59.here hx rfl (hb hby at_96) k) ?_
  show Wlk p.tables e below (T59.setTop (mkF m 97 #[iv p1, iv p2, rv b1, rv b19, rv b38, iv v61, un, un, un, un, un, un, un] [(.int (1 : Int32)), (.int p2)])) K
  obtain ⟨v62, T62, L62, X62, q62, st62⟩ := Ctr.static (rmB l Z a0 hw p2 (1 : Int32) h56 n0 (Nat.le_trans Z0 K57.1) ) X59 hx hZ hh59 hown (wd hw 1 rfl) (wd hw 2 rfl) (wd hw 3 rfl) (wd hw 4 rfl) (by decide) pd_147 (g := (mkF m 97 #[iv p1, iv p2, rv b1, rv b19, rv b38, iv v61, un, un, un, un, un, un, un] [(.int (1 : Int32)), (.int p2)])) rfl (by rw [hml]; rfl) (argsL := [(.int p2), (.int (1 : Int32))]) (rest := []) rfl rfl rfl (W := 0) (by show 2 * 0 + _ ≤ _; exact Nat.le_of_eq rfl) (by decide) (by decide) (hb hby at_97) (by decide) (by decide)
  obtain ⟨rfl, N62q, hh62⟩ := q62
  have N63 := Fr.app N60 N62q
  refine Wlk.of (fun _ k => st62 _ k) ?_
  show Wlk p.tables e below (T62.setTop (mkF m 100 #[iv p1, iv p2, rv b1, rv b19, rv b38, iv v61, un, un, un, un, un, un, un] [(.int (((p2.toUInt32 >>> ((1 : Int32) &&& 31).toUInt32).toInt32) &&& (1 : Int32)))])) K
  refine Wlk.of (fun _ k => XS.istore X62.here hx rfl (hb hby at_100) rfl (l' := #[iv p1, iv p2, rv b1, rv b19, rv b38, iv v61, iv (((p2.toUInt32 >>> ((1 : Int32) &&& 31).toUInt32).toInt32) &&& (1 : Int32)), un, un, un, un, un, un]) rfl k) ?_
  show Wlk p.tables e below (T62.setTop (mkF m 102 #[iv p1, iv p2, rv b1, rv b19, rv b38, iv v61, iv (((p2.toUInt32 >>> ((1 : Int32) &&& 31).toUInt32).toInt32) &&& (1 : Int32)), un, un, un, un, un, un] [])) K
  generalize hv64 : (((p2.toUInt32 >>> ((1 : Int32) &&& 31).toUInt32).toInt32) &&& (1 : Int32)) = v64
  refine Wlk.of (fun _ k => XS.iloadN X62.here hx rfl (hb hby at_102) rfl k) ?_
  show Wlk p.tables e below (T62.setTop (mkF m 103 #[iv p1, iv p2, rv b1, rv b19, rv b38, iv v61, iv v64, un, un, un, un, un, un] [(.int p2)])) K
  refine Wlk.of (fun _ k => XS.iconst X62.here hx rfl (hb hby at_103) k) ?_
  show Wlk p.tables e below (T62.setTop (mkF m 104 #[iv p1, iv p2, rv b1, rv b19, rv b38, iv v61, iv v64, un, un, un, un, un, un] [(.int (2 : Int32)), (.int p2)])) K
  obtain ⟨v65, T65, L65, X65, q65, st65⟩ := Ctr.static (rmB l Z a0 hw p2 (2 : Int32) h56 n0 (Nat.le_trans Z0 K57.1) ) X62 hx hZ hh62 hown (wd hw 1 rfl) (wd hw 2 rfl) (wd hw 3 rfl) (wd hw 4 rfl) (by decide) pd_147 (g := (mkF m 104 #[iv p1, iv p2, rv b1, rv b19, rv b38, iv v61, iv v64, un, un, un, un, un, un] [(.int (2 : Int32)), (.int p2)])) rfl (by rw [hml]; rfl) (argsL := [(.int p2), (.int (2 : Int32))]) (rest := []) rfl rfl rfl (W := 0) (by show 2 * 0 + _ ≤ _; exact Nat.le_of_eq rfl) (by decide) (by decide) (hb hby at_104) (by decide) (by decide)
  obtain ⟨rfl, N65q, hh65⟩ := q65
  have N66 := Fr.app N63 N65q
  refine Wlk.of (fun _ k => st65 _ k) ?_
  show Wlk p.tables e below (T65.setTop (mkF m 107 #[iv p1, iv p2, rv b1, rv b19, rv b38, iv v61, iv v64, un, un, un, un, un, un] [(.int (((p2.toUInt32 >>> ((2 : Int32) &&& 31).toUInt32).toInt32) &&& (1 : Int32)))])) K
  refine Wlk.of (fun _ k => XS.istore X65.here hx rfl (hb hby at_107) rfl (l' := #[iv p1, iv p2, rv b1, rv b19, rv b38, iv v61, iv v64, iv (((p2.toUInt32 >>> ((2 : Int32) &&& 31).toUInt32).toInt32) &&& (1 : Int32)), un, un, un, un, un]) rfl k) ?_
  show Wlk p.tables e below (T65.setTop (mkF m 109 #[iv p1, iv p2, rv b1, rv b19, rv b38, iv v61, iv v64, iv (((p2.toUInt32 >>> ((2 : Int32) &&& 31).toUInt32).toInt32) &&& (1 : Int32)), un, un, un, un, un] [])) K
  generalize hv67 : (((p2.toUInt32 >>> ((2 : Int32) &&& 31).toUInt32).toInt32) &&& (1 : Int32)) = v67
  obtain ⟨T68, h68, X68, e68, E68, A68, D68, -, st68⟩ := newO X65 hx hZ hown (wd hw 5 rfl) (wd hw 6 rfl) (wd hw 7 rfl) hh65 (g := (mkF m 109 #[iv p1, iv p2, rv b1, rv b19, rv b38, iv v61, iv v64, iv v67, un, un, un, un, un] [])) rfl (hb hby at_109) (by decide) (by decide)
  obtain ⟨b68, g68⟩ : ∃ z, z = h56.size := ⟨_, rfl⟩
  rw [← g68] at A68 D68 st68
  have f70 : Arl Z h56 b1 .boolean [(.int e0), (.int e1), (.int e2)] := ((((f40.ext E38).other W46 ne39).other W51 ne39).other W56 ne39)
  have ne69 : b1 ≠ b68 := Nat.ne_of_lt (Nat.lt_of_lt_of_le f70.lt (Nat.le_of_eq g68.symm))
  have f72 : Arl Z h56 b19 .boolean [(.int e3), (.int e4), (.int e5)] := ((((Vw35.ext E38).other W46 ne41).other W51 ne41).other W56 ne41)
  have ne71 : b19 ≠ b68 := Nat.ne_of_lt (Nat.lt_of_lt_of_le f72.lt (Nat.le_of_eq g68.symm))
  have ne73 : b38 ≠ b68 := Nat.ne_of_lt (Nat.lt_of_lt_of_le Vw56.lt (Nat.le_of_eq g68.symm))
  have sz_b68 : h0.size ≤ b68 := Nat.le_trans K57.1 (Nat.le_of_eq g68.symm)
  have g_b68 : n0 ≤ b68 := Nat.le_trans Z0 sz_b68
  have K75 : Keep h0 h68 [] := K57.ext E68
  have F_b68_satisfied : Fld Z h68 b68 "com/example/idealyze/idealyze/simulation/Tally" "satisfied" "[J" .null := D68 (Or.inr (wd hw 16 rfl)) (ty := (.array .long)) (by decide)
  have F_b68_together : Fld Z h68 b68 "com/example/idealyze/idealyze/simulation/Tally" "together" "[[J" .null := D68 (Or.inr (wd hw 20 rfl)) (ty := (.array (.array .long))) (by decide)
  have F_b68_paths : Fld Z h68 b68 "com/example/idealyze/idealyze/simulation/Tally" "paths" "J" (.long (0 : Int64)) := D68 (Or.inl (wd hw 27 rfl)) (ty := .long) (by decide)
  refine Wlk.of (fun _ k => st68 _ k) ?_
  show Wlk p.tables e below (T68.setTop (mkF m 112 #[iv p1, iv p2, rv b1, rv b19, rv b38, iv v61, iv v64, iv v67, un, un, un, un, un] [(.ref b68)])) K
  refine Wlk.of (fun _ k => XS.dup X68.here hx rfl (hb hby at_112) rfl rfl k) ?_
  show Wlk p.tables e below (T68.setTop (mkF m 113 #[iv p1, iv p2, rv b1, rv b19, rv b38, iv v61, iv v64, iv v67, un, un, un, un, un] [(.ref b68), (.ref b68)])) K
  refine Wlk.of (fun _ k => XS.iconst X68.here hx rfl (hb hby at_113) k) ?_
  show Wlk p.tables e below (T68.setTop (mkF m 114 #[iv p1, iv p2, rv b1, rv b19, rv b38, iv v61, iv v64, iv v67, un, un, un, un, un] [(.int (3 : Int32)), (.ref b68), (.ref b68)])) K
  obtain ⟨v76, T76, L76, X76, q76, st76⟩ := Ctr.special (rmI l Z a0 hw b68 h68 n0 (Nat.le_trans Z0 K75.1) A68 F_b68_satisfied F_b68_together F_b68_paths g_b68) X68 hx hZ e68 hown rfl (wd hw 8 rfl) (wd hw 9 rfl) (wd hw 7 rfl) (wd hw 10 rfl) (by decide) pd_148 (g := (mkF m 114 #[iv p1, iv p2, rv b1, rv b19, rv b38, iv v61, iv v64, iv v67, un, un, un, un, un] [(.int (3 : Int32)), (.ref b68), (.ref b68)])) rfl (by rw [hml]; rfl) (a := b68) (argsL := [(.int (3 : Int32))]) (rest := [(.ref b68)]) rfl rfl rfl (W := 1) (by show 2 * 0 + _ ≤ _; exact Nat.le_of_eq rfl) (by decide) (by decide) (hb hby at_114) (by decide) (by decide)
  obtain ⟨sat_76, tog_76, t0_76, t1_76, t2_76, rfl, N76q, K76q, p76_0, p76_1, p76_2, p76_3, p76_4, p76_5, p76_6, p76_7, p76_8, p76_9, p76_10, p76_11, p76_12, p76_13, p76_14, p76_15, p76_16, p76_17, p76_18, p76_19, p76_20, p76_21, p76_22⟩ := q76
  have N77 := Fr.app N66 N76q
  refine Wlk.of (fun _ k => st76 _ k) ?_
  have f79 : Arl Z h68 b1 .boolean [(.int e0), (.int e1), (.int e2)] := (f70.ext E68)
  have ne78 : b1 ≠ sat_76 := Nat.ne_of_lt (Nat.lt_of_lt_of_le f79.lt p76_0)
  have f81 : Arl Z h68 b19 .boolean [(.int e3), (.int e4), (.int e5)] := (f72.ext E68)
  have ne80 : b19 ≠ sat_76 := Nat.ne_of_lt (Nat.lt_of_lt_of_le f81.lt p76_0)
  have f83 : Arl Z h68 b38 .boolean [(.int e6), (.int e7), (.int e8)] := (Vw56.ext E68)
  have ne82 : b38 ≠ sat_76 := Nat.ne_of_lt (Nat.lt_of_lt_of_le f83.lt p76_0)
  have ne84 : b68 ≠ sat_76 := Nat.ne_of_lt (Nat.lt_of_lt_of_le A68.lt p76_0)
  have sz_sat_76 : h0.size ≤ sat_76 := Nat.le_trans K75.1 p76_0
  have g_sat_76 : n0 ≤ sat_76 := Nat.le_trans Z0 sz_sat_76
  have ne85 : b1 ≠ tog_76 := Nat.ne_of_lt (Nat.lt_of_lt_of_le f79.lt p76_1)
  have ne86 : b19 ≠ tog_76 := Nat.ne_of_lt (Nat.lt_of_lt_of_le f81.lt p76_1)
  have ne87 : b38 ≠ tog_76 := Nat.ne_of_lt (Nat.lt_of_lt_of_le f83.lt p76_1)
  have ne88 : b68 ≠ tog_76 := Nat.ne_of_lt (Nat.lt_of_lt_of_le A68.lt p76_1)
  have sz_tog_76 : h0.size ≤ tog_76 := Nat.le_trans K75.1 p76_1
  have g_tog_76 : n0 ≤ tog_76 := Nat.le_trans Z0 sz_tog_76
  have ne89 : b1 ≠ t0_76 := Nat.ne_of_lt (Nat.lt_of_lt_of_le f79.lt p76_2)
  have ne90 : b19 ≠ t0_76 := Nat.ne_of_lt (Nat.lt_of_lt_of_le f81.lt p76_2)
  have ne91 : b38 ≠ t0_76 := Nat.ne_of_lt (Nat.lt_of_lt_of_le f83.lt p76_2)
  have ne92 : b68 ≠ t0_76 := Nat.ne_of_lt (Nat.lt_of_lt_of_le A68.lt p76_2)
  have sz_t0_76 : h0.size ≤ t0_76 := Nat.le_trans K75.1 p76_2
  have g_t0_76 : n0 ≤ t0_76 := Nat.le_trans Z0 sz_t0_76
  have ne93 : b1 ≠ t1_76 := Nat.ne_of_lt (Nat.lt_of_lt_of_le f79.lt p76_3)
  have ne94 : b19 ≠ t1_76 := Nat.ne_of_lt (Nat.lt_of_lt_of_le f81.lt p76_3)
  have ne95 : b38 ≠ t1_76 := Nat.ne_of_lt (Nat.lt_of_lt_of_le f83.lt p76_3)
  have ne96 : b68 ≠ t1_76 := Nat.ne_of_lt (Nat.lt_of_lt_of_le A68.lt p76_3)
  have sz_t1_76 : h0.size ≤ t1_76 := Nat.le_trans K75.1 p76_3
  have g_t1_76 : n0 ≤ t1_76 := Nat.le_trans Z0 sz_t1_76
  have ne97 : b1 ≠ t2_76 := Nat.ne_of_lt (Nat.lt_of_lt_of_le f79.lt p76_4)
  have ne98 : b19 ≠ t2_76 := Nat.ne_of_lt (Nat.lt_of_lt_of_le f81.lt p76_4)
  have ne99 : b38 ≠ t2_76 := Nat.ne_of_lt (Nat.lt_of_lt_of_le f83.lt p76_4)
  have ne100 : b68 ≠ t2_76 := Nat.ne_of_lt (Nat.lt_of_lt_of_le A68.lt p76_4)
  have sz_t2_76 : h0.size ≤ t2_76 := Nat.le_trans K75.1 p76_4
  have g_t2_76 : n0 ≤ t2_76 := Nat.le_trans Z0 sz_t2_76
  have K101 : Keep h0 T76.heap [] := K75.trans K76q (allS (Or.inr sz_b68) all0)
  show Wlk p.tables e below (T76.setTop (mkF m 117 #[iv p1, iv p2, rv b1, rv b19, rv b38, iv v61, iv v64, iv v67, un, un, un, un, un] [(.ref b68)])) K
  refine Wlk.of (fun _ k => XS.astore X76.here hx rfl (hb hby at_117) rfl rfl (l' := #[iv p1, iv p2, rv b1, rv b19, rv b38, iv v61, iv v64, iv v67, rv b68, un, un, un, un]) rfl k) ?_
  show Wlk p.tables e below (T76.setTop (mkF m 119 #[iv p1, iv p2, rv b1, rv b19, rv b38, iv v61, iv v64, iv v67, rv b68, un, un, un, un] [])) K
  refine Wlk.of (fun _ k => XS.iload X76.here hx rfl (hb hby at_119) rfl k) ?_
  show Wlk p.tables e below (T76.setTop (mkF m 121 #[iv p1, iv p2, rv b1, rv b19, rv b38, iv v61, iv v64, iv v67, rv b68, un, un, un, un] [(.int v61)])) K
  have J102 : ∀ (T102 : State) (h102 : Heap) (ls102 : List Loc) (j102_0 : Int64) (j102_1 : Int64) (j102_2 : Int64) (j102_3 : Int64) (j102_4 : Int64) (j102_5 : Int64) (j102_6 : Int64) (j102_7 : Int64) (j102_8 : Int64) (j102_9 : Int64) (j102_10 : Int64) (j102_11 : Int64) (j102_12 : Int64), j102_0 = (if v61 = (0 : Int32) then (0 : Int64) else ((0 : Int64) + (1 : Int64))) → j102_1 = (if v61 = (0 : Int32) then (0 : Int64) else (if e0 = (0 : Int32) then (0 : Int64) else ((0 : Int64) + (1 : Int64)))) → j102_2 = (if v61 = (0 : Int32) then (0 : Int64) else (if e1 = (0 : Int32) then (0 : Int64) else ((0 : Int64) + (1 : Int64)))) → j102_3 = (if v61 = (0 : Int32) then (0 : Int64) else (if e2 = (0 : Int32) then (0 : Int64) else ((0 : Int64) + (1 : Int64)))) → Stand p l e room_1 s m #[(.int p1), (.int p2)] below meth c T102 ls102 9 27 → T102.heap = h102 → Fr n0 ls102 → Keep h0 h102 [] → Arl Z h102 b1 .boolean [(.int e0), (.int e1), (.int e2)] → Arl Z h102 b19 .boolean [(.int e3), (.int e4), (.int e5)] → Arl Z h102 b38 .boolean [(.int e6), (.int e7), (.int e8)] → Exa Z h102 b68 "com/example/idealyze/idealyze/simulation/Tally" → Fld Z h102 b68 "com/example/idealyze/idealyze/simulation/Tally" "satisfied" "[J" (.ref sat_76) → Fld Z h102 b68 "com/example/idealyze/idealyze/simulation/Tally" "together" "[[J" (.ref tog_76) → Fld Z h102 b68 "com/example/idealyze/idealyze/simulation/Tally" "paths" "J" (.long j102_0) → Arl Z h102 sat_76 .long [(.long j102_1), (.long j102_2), (.long j102_3)] → Arl Z h102 tog_76 (.array .long) [(.ref t0_76), (.ref t1_76), (.ref t2_76)] → Arl Z h102 t0_76 .long [(.long j102_4), (.long j102_5), (.long j102_6)] → Arl Z h102 t1_76 .long [(.long j102_7), (.long j102_8), (.long j102_9)] → Arl Z h102 t2_76 .long [(.long j102_10), (.long j102_11), (.long j102_12)] → Wlk p.tables e below (T102.setTop (mkF m 130 #[iv p1, iv p2, rv b1, rv b19, rv b38, iv v61, iv v64, iv v67, rv b68, un, un, un, un] [])) K := by
    intro T102 h102 ls102 j102_0 j102_1 j102_2 j102_3 j102_4 j102_5 j102_6 j102_7 j102_8 j102_9 j102_10 j102_11 j102_12 hj102_0 hj102_1 hj102_2 hj102_3 X102 e102 N102 K102 z102_0 z102_1 z102_2 z102_3 z102_4 z102_5 z102_6 z102_7 z102_8 z102_9 z102_10 z102_11
    refine Wlk.of (fun _ k => XS.iload X102.here hx rfl (hb hby at_130) rfl k) ?_
    show Wlk p.tables e below (T102.setTop (mkF m 132 #[iv p1, iv p2, rv b1, rv b19, rv b38, iv v61, iv v64, iv v67, rv b68, un, un, un, un] [(.int v64)])) K
    have J103 : ∀ (T103 : State) (h103 : Heap) (ls103 : List Loc) (j103_0 : Int64) (j103_1 : Int64) (j103_2 : Int64) (j103_3 : Int64) (j103_4 : Int64) (j103_5 : Int64) (j103_6 : Int64) (j103_7 : Int64) (j103_8 : Int64) (j103_9 : Int64) (j103_10 : Int64) (j103_11 : Int64) (j103_12 : Int64), j103_0 = (if v64 = (0 : Int32) then j102_0 else (j102_0 + (1 : Int64))) → j103_1 = (if v64 = (0 : Int32) then j102_1 else (if e3 = (0 : Int32) then j102_1 else (j102_1 + (1 : Int64)))) → j103_2 = (if v64 = (0 : Int32) then j102_2 else (if e4 = (0 : Int32) then j102_2 else (j102_2 + (1 : Int64)))) → j103_3 = (if v64 = (0 : Int32) then j102_3 else (if e5 = (0 : Int32) then j102_3 else (j102_3 + (1 : Int64)))) → Stand p l e room_1 s m #[(.int p1), (.int p2)] below meth c T103 ls103 9 27 → T103.heap = h103 → Fr n0 ls103 → Keep h0 h103 [] → Arl Z h103 b1 .boolean [(.int e0), (.int e1), (.int e2)] → Arl Z h103 b19 .boolean [(.int e3), (.int e4), (.int e5)] → Arl Z h103 b38 .boolean [(.int e6), (.int e7), (.int e8)] → Exa Z h103 b68 "com/example/idealyze/idealyze/simulation/Tally" → Fld Z h103 b68 "com/example/idealyze/idealyze/simulation/Tally" "satisfied" "[J" (.ref sat_76) → Fld Z h103 b68 "com/example/idealyze/idealyze/simulation/Tally" "together" "[[J" (.ref tog_76) → Fld Z h103 b68 "com/example/idealyze/idealyze/simulation/Tally" "paths" "J" (.long j103_0) → Arl Z h103 sat_76 .long [(.long j103_1), (.long j103_2), (.long j103_3)] → Arl Z h103 tog_76 (.array .long) [(.ref t0_76), (.ref t1_76), (.ref t2_76)] → Arl Z h103 t0_76 .long [(.long j103_4), (.long j103_5), (.long j103_6)] → Arl Z h103 t1_76 .long [(.long j103_7), (.long j103_8), (.long j103_9)] → Arl Z h103 t2_76 .long [(.long j103_10), (.long j103_11), (.long j103_12)] → Wlk p.tables e below (T103.setTop (mkF m 141 #[iv p1, iv p2, rv b1, rv b19, rv b38, iv v61, iv v64, iv v67, rv b68, un, un, un, un] [])) K := by
      intro T103 h103 ls103 j103_0 j103_1 j103_2 j103_3 j103_4 j103_5 j103_6 j103_7 j103_8 j103_9 j103_10 j103_11 j103_12 hj103_0 hj103_1 hj103_2 hj103_3 X103 e103 N103 K103 z103_0 z103_1 z103_2 z103_3 z103_4 z103_5 z103_6 z103_7 z103_8 z103_9 z103_10 z103_11
      refine Wlk.of (fun _ k => XS.iload X103.here hx rfl (hb hby at_141) rfl k) ?_
      show Wlk p.tables e below (T103.setTop (mkF m 143 #[iv p1, iv p2, rv b1, rv b19, rv b38, iv v61, iv v64, iv v67, rv b68, un, un, un, un] [(.int v67)])) K
      have J104 : ∀ (T104 : State) (h104 : Heap) (ls104 : List Loc) (j104_0 : Int64) (j104_1 : Int64) (j104_2 : Int64) (j104_3 : Int64) (j104_4 : Int64) (j104_5 : Int64) (j104_6 : Int64) (j104_7 : Int64) (j104_8 : Int64) (j104_9 : Int64) (j104_10 : Int64) (j104_11 : Int64) (j104_12 : Int64), j104_0 = (if v67 = (0 : Int32) then j103_0 else (j103_0 + (1 : Int64))) → j104_1 = (if v67 = (0 : Int32) then j103_1 else (if e6 = (0 : Int32) then j103_1 else (j103_1 + (1 : Int64)))) → j104_2 = (if v67 = (0 : Int32) then j103_2 else (if e7 = (0 : Int32) then j103_2 else (j103_2 + (1 : Int64)))) → j104_3 = (if v67 = (0 : Int32) then j103_3 else (if e8 = (0 : Int32) then j103_3 else (j103_3 + (1 : Int64)))) → Stand p l e room_1 s m #[(.int p1), (.int p2)] below meth c T104 ls104 9 27 → T104.heap = h104 → Fr n0 ls104 → Keep h0 h104 [] → Arl Z h104 b1 .boolean [(.int e0), (.int e1), (.int e2)] → Arl Z h104 b19 .boolean [(.int e3), (.int e4), (.int e5)] → Arl Z h104 b38 .boolean [(.int e6), (.int e7), (.int e8)] → Exa Z h104 b68 "com/example/idealyze/idealyze/simulation/Tally" → Fld Z h104 b68 "com/example/idealyze/idealyze/simulation/Tally" "satisfied" "[J" (.ref sat_76) → Fld Z h104 b68 "com/example/idealyze/idealyze/simulation/Tally" "together" "[[J" (.ref tog_76) → Fld Z h104 b68 "com/example/idealyze/idealyze/simulation/Tally" "paths" "J" (.long j104_0) → Arl Z h104 sat_76 .long [(.long j104_1), (.long j104_2), (.long j104_3)] → Arl Z h104 tog_76 (.array .long) [(.ref t0_76), (.ref t1_76), (.ref t2_76)] → Arl Z h104 t0_76 .long [(.long j104_4), (.long j104_5), (.long j104_6)] → Arl Z h104 t1_76 .long [(.long j104_7), (.long j104_8), (.long j104_9)] → Arl Z h104 t2_76 .long [(.long j104_10), (.long j104_11), (.long j104_12)] → Wlk p.tables e below (T104.setTop (mkF m 153 #[iv p1, iv p2, rv b1, rv b19, rv b38, iv v61, iv v64, iv v67, rv b68, un, un, un, un] [])) K := by
        intro T104 h104 ls104 j104_0 j104_1 j104_2 j104_3 j104_4 j104_5 j104_6 j104_7 j104_8 j104_9 j104_10 j104_11 j104_12 hj104_0 hj104_1 hj104_2 hj104_3 X104 e104 N104 K104 z104_0 z104_1 z104_2 z104_3 z104_4 z104_5 z104_6 z104_7 z104_8 z104_9 z104_10 z104_11
        refine Wlk.of (fun _ k => XS.iload X104.here hx rfl (hb hby at_153) rfl k) ?_
        show Wlk p.tables e below (T104.setTop (mkF m 155 #[iv p1, iv p2, rv b1, rv b19, rv b38, iv v61, iv v64, iv v67, rv b68, un, un, un, un] [(.int v61)])) K
        have J105 : ∀ (T105 : State), Stand p l e room_1 s m #[(.int p1), (.int p2)] below meth c T105 ls104 9 27 → T105.heap = h104 → ∀ (j105_0 : Int32), j105_0 = (if v61 = (0 : Int32) then (0 : Int32) else (1 : Int32)) → Wlk p.tables e below (T105.setTop (mkF m 163 #[iv p1, iv p2, rv b1, rv b19, rv b38, iv v61, iv v64, iv v67, rv b68, un, un, un, un] [(.int j105_0)])) K := by
          intro T105 X105 e105 j105_0 hj105_0
          refine Wlk.of (fun _ k => XS.iload X105.here hx rfl (hb hby at_163) rfl k) ?_
          show Wlk p.tables e below (T105.setTop (mkF m 165 #[iv p1, iv p2, rv b1, rv b19, rv b38, iv v61, iv v64, iv v67, rv b68, un, un, un, un] [(.int v64), (.int j105_0)])) K
          have J106 : ∀ (T106 : State), Stand p l e room_1 s m #[(.int p1), (.int p2)] below meth c T106 ls104 9 27 → T106.heap = h104 → ∀ (j106_0 : Int32), j106_0 = (if v64 = (0 : Int32) then (0 : Int32) else (1 : Int32)) → Wlk p.tables e below (T106.setTop (mkF m 173 #[iv p1, iv p2, rv b1, rv b19, rv b38, iv v61, iv v64, iv v67, rv b68, un, un, un, un] [(.int j106_0), (.int j105_0)])) K := by
            intro T106 X106 e106 j106_0 hj106_0
            refine Wlk.of (fun _ k => XS.iadd X106.here hx rfl (hb hby at_173) rfl k) ?_
            show Wlk p.tables e below (T106.setTop (mkF m 174 #[iv p1, iv p2, rv b1, rv b19, rv b38, iv v61, iv v64, iv v67, rv b68, un, un, un, un] [(.int (j105_0 + j106_0))])) K
            refine Wlk.of (fun _ k => XS.iload X106.here hx rfl (hb hby at_174) rfl k) ?_
            show Wlk p.tables e below (T106.setTop (mkF m 176 #[iv p1, iv p2, rv b1, rv b19, rv b38, iv v61, iv v64, iv v67, rv b68, un, un, un, un] [(.int v67), (.int (j105_0 + j106_0))])) K
            have J107 : ∀ (T107 : State), Stand p l e room_1 s m #[(.int p1), (.int p2)] below meth c T107 ls104 9 27 → T107.heap = h104 → ∀ (j107_0 : Int32), j107_0 = (if v67 = (0 : Int32) then (0 : Int32) else (1 : Int32)) → Wlk p.tables e below (T107.setTop (mkF m 184 #[iv p1, iv p2, rv b1, rv b19, rv b38, iv v61, iv v64, iv v67, rv b68, un, un, un, un] [(.int j107_0), (.int (j105_0 + j106_0))])) K := by
              intro T107 X107 e107 j107_0 hj107_0
              refine Wlk.of (fun _ k => XS.iadd X107.here hx rfl (hb hby at_184) rfl k) ?_
              show Wlk p.tables e below (T107.setTop (mkF m 185 #[iv p1, iv p2, rv b1, rv b19, rv b38, iv v61, iv v64, iv v67, rv b68, un, un, un, un] [(.int ((j105_0 + j106_0) + j107_0))])) K
              refine Wlk.of (fun _ k => XS.istore X107.here hx rfl (hb hby at_185) rfl (l' := #[iv p1, iv p2, rv b1, rv b19, rv b38, iv v61, iv v64, iv v67, rv b68, iv ((j105_0 + j106_0) + j107_0), un, un, un]) rfl k) ?_
              show Wlk p.tables e below (T107.setTop (mkF m 187 #[iv p1, iv p2, rv b1, rv b19, rv b38, iv v61, iv v64, iv v67, rv b68, iv ((j105_0 + j106_0) + j107_0), un, un, un] [])) K
              generalize hv108 : ((j105_0 + j106_0) + j107_0) = v108
              refine Wlk.of (fun _ k => XS.iload X107.here hx rfl (hb hby at_187) rfl k) ?_
              show Wlk p.tables e below (T107.setTop (mkF m 189 #[iv p1, iv p2, rv b1, rv b19, rv b38, iv v61, iv v64, iv v67, rv b68, iv v108, un, un, un] [(.int v61)])) K
              have J109 : ∀ (T109 : State) (h109 : Heap) (ls109 : List Loc) (j109_0 : Int32), j109_0 = (if v61 = (0 : Int32) then (0 : Int32) else e0) → Stand p l e room_1 s m #[(.int p1), (.int p2)] below meth c T109 ls109 9 27 → T109.heap = h109 → Fr n0 ls109 → Keep h0 h109 [] → Arl Z h109 b1 .boolean [(.int e0), (.int e1), (.int e2)] → Arl Z h109 b19 .boolean [(.int e3), (.int e4), (.int e5)] → Arl Z h109 b38 .boolean [(.int e6), (.int e7), (.int e8)] → Exa Z h109 b68 "com/example/idealyze/idealyze/simulation/Tally" → Fld Z h109 b68 "com/example/idealyze/idealyze/simulation/Tally" "satisfied" "[J" (.ref sat_76) → Fld Z h109 b68 "com/example/idealyze/idealyze/simulation/Tally" "together" "[[J" (.ref tog_76) → Fld Z h109 b68 "com/example/idealyze/idealyze/simulation/Tally" "paths" "J" (.long j104_0) → Arl Z h109 sat_76 .long [(.long j104_1), (.long j104_2), (.long j104_3)] → Arl Z h109 tog_76 (.array .long) [(.ref t0_76), (.ref t1_76), (.ref t2_76)] → Arl Z h109 t0_76 .long [(.long j104_4), (.long j104_5), (.long j104_6)] → Arl Z h109 t1_76 .long [(.long j104_7), (.long j104_8), (.long j104_9)] → Arl Z h109 t2_76 .long [(.long j104_10), (.long j104_11), (.long j104_12)] → Wlk p.tables e below (T109.setTop (mkF m 201 #[iv p1, iv p2, rv b1, rv b19, rv b38, iv v61, iv v64, iv v67, rv b68, iv v108, un, un, un] [(.int j109_0)])) K := by
                intro T109 h109 ls109 j109_0 hj109_0 X109 e109 N109 K109 z109_0 z109_1 z109_2 z109_3 z109_4 z109_5 z109_6 z109_7 z109_8 z109_9 z109_10 z109_11
                refine Wlk.of (fun _ k => XS.iload X109.here hx rfl (hb hby at_201) rfl k) ?_
                show Wlk p.tables e below (T109.setTop (mkF m 203 #[iv p1, iv p2, rv b1, rv b19, rv b38, iv v61, iv v64, iv v67, rv b68, iv v108, un, un, un] [(.int v64), (.int j109_0)])) K
                have J110 : ∀ (T110 : State) (h110 : Heap) (ls110 : List Loc) (j110_0 : Int32), j110_0 = (if v64 = (0 : Int32) then (0 : Int32) else e3) → Stand p l e room_1 s m #[(.int p1), (.int p2)] below meth c T110 ls110 9 27 → T110.heap = h110 → Fr n0 ls110 → Keep h0 h110 [] → Arl Z h110 b1 .boolean [(.int e0), (.int e1), (.int e2)] → Arl Z h110 b19 .boolean [(.int e3), (.int e4), (.int e5)] → Arl Z h110 b38 .boolean [(.int e6), (.int e7), (.int e8)] → Exa Z h110 b68 "com/example/idealyze/idealyze/simulation/Tally" → Fld Z h110 b68 "com/example/idealyze/idealyze/simulation/Tally" "satisfied" "[J" (.ref sat_76) → Fld Z h110 b68 "com/example/idealyze/idealyze/simulation/Tally" "together" "[[J" (.ref tog_76) → Fld Z h110 b68 "com/example/idealyze/idealyze/simulation/Tally" "paths" "J" (.long j104_0) → Arl Z h110 sat_76 .long [(.long j104_1), (.long j104_2), (.long j104_3)] → Arl Z h110 tog_76 (.array .long) [(.ref t0_76), (.ref t1_76), (.ref t2_76)] → Arl Z h110 t0_76 .long [(.long j104_4), (.long j104_5), (.long j104_6)] → Arl Z h110 t1_76 .long [(.long j104_7), (.long j104_8), (.long j104_9)] → Arl Z h110 t2_76 .long [(.long j104_10), (.long j104_11), (.long j104_12)] → Wlk p.tables e below (T110.setTop (mkF m 215 #[iv p1, iv p2, rv b1, rv b19, rv b38, iv v61, iv v64, iv v67, rv b68, iv v108, un, un, un] [(.int j110_0), (.int j109_0)])) K := by
                  intro T110 h110 ls110 j110_0 hj110_0 X110 e110 N110 K110 z110_0 z110_1 z110_2 z110_3 z110_4 z110_5 z110_6 z110_7 z110_8 z110_9 z110_10 z110_11
                  refine Wlk.of (fun _ k => XS.iadd X110.here hx rfl (hb hby at_215) rfl k) ?_
                  show Wlk p.tables e below (T110.setTop (mkF m 216 #[iv p1, iv p2, rv b1, rv b19, rv b38, iv v61, iv v64, iv v67, rv b68, iv v108, un, un, un] [(.int (j109_0 + j110_0))])) K
                  refine Wlk.of (fun _ k => XS.iload X110.here hx rfl (hb hby at_216) rfl k) ?_
                  show Wlk p.tables e below (T110.setTop (mkF m 218 #[iv p1, iv p2, rv b1, rv b19, rv b38, iv v61, iv v64, iv v67, rv b68, iv v108, un, un, un] [(.int v67), (.int (j109_0 + j110_0))])) K
                  have J111 : ∀ (T111 : State) (h111 : Heap) (ls111 : List Loc) (j111_0 : Int32), j111_0 = (if v67 = (0 : Int32) then (0 : Int32) else e6) → Stand p l e room_1 s m #[(.int p1), (.int p2)] below meth c T111 ls111 9 27 → T111.heap = h111 → Fr n0 ls111 → Keep h0 h111 [] → Arl Z h111 b1 .boolean [(.int e0), (.int e1), (.int e2)] → Arl Z h111 b19 .boolean [(.int e3), (.int e4), (.int e5)] → Arl Z h111 b38 .boolean [(.int e6), (.int e7), (.int e8)] → Exa Z h111 b68 "com/example/idealyze/idealyze/simulation/Tally" → Fld Z h111 b68 "com/example/idealyze/idealyze/simulation/Tally" "satisfied" "[J" (.ref sat_76) → Fld Z h111 b68 "com/example/idealyze/idealyze/simulation/Tally" "together" "[[J" (.ref tog_76) → Fld Z h111 b68 "com/example/idealyze/idealyze/simulation/Tally" "paths" "J" (.long j104_0) → Arl Z h111 sat_76 .long [(.long j104_1), (.long j104_2), (.long j104_3)] → Arl Z h111 tog_76 (.array .long) [(.ref t0_76), (.ref t1_76), (.ref t2_76)] → Arl Z h111 t0_76 .long [(.long j104_4), (.long j104_5), (.long j104_6)] → Arl Z h111 t1_76 .long [(.long j104_7), (.long j104_8), (.long j104_9)] → Arl Z h111 t2_76 .long [(.long j104_10), (.long j104_11), (.long j104_12)] → Wlk p.tables e below (T111.setTop (mkF m 231 #[iv p1, iv p2, rv b1, rv b19, rv b38, iv v61, iv v64, iv v67, rv b68, iv v108, un, un, un] [(.int j111_0), (.int (j109_0 + j110_0))])) K := by
                    intro T111 h111 ls111 j111_0 hj111_0 X111 e111 N111 K111 z111_0 z111_1 z111_2 z111_3 z111_4 z111_5 z111_6 z111_7 z111_8 z111_9 z111_10 z111_11
                    refine Wlk.of (fun _ k => XS.iadd X111.here hx rfl (hb hby at_231) rfl k) ?_
                    show Wlk p.tables e below (T111.setTop (mkF m 232 #[iv p1, iv p2, rv b1, rv b19, rv b38, iv v61, iv v64, iv v67, rv b68, iv v108, un, un, un] [(.int ((j109_0 + j110_0) + j111_0))])) K
                    refine Wlk.of (fun _ k => XS.istore X111.here hx rfl (hb hby at_232) rfl (l' := #[iv p1, iv p2, rv b1, rv b19, rv b38, iv v61, iv v64, iv v67, rv b68, iv v108, iv ((j109_0 + j110_0) + j111_0), un, un]) rfl k) ?_
                    show Wlk p.tables e below (T111.setTop (mkF m 234 #[iv p1, iv p2, rv b1, rv b19, rv b38, iv v61, iv v64, iv v67, rv b68, iv v108, iv ((j109_0 + j110_0) + j111_0), un, un] [])) K
                    generalize hv112 : ((j109_0 + j110_0) + j111_0) = v112
                    refine Wlk.of (fun _ k => XS.iload X111.here hx rfl (hb hby at_234) rfl k) ?_
                    show Wlk p.tables e below (T111.setTop (mkF m 236 #[iv p1, iv p2, rv b1, rv b19, rv b38, iv v61, iv v64, iv v67, rv b68, iv v108, iv v112, un, un] [(.int v61)])) K
                    have J113 : ∀ (T113 : State) (h113 : Heap) (ls113 : List Loc) (j113_0 : Int32), j113_0 = (if v61 = (0 : Int32) then (0 : Int32) else e1) → Stand p l e room_1 s m #[(.int p1), (.int p2)] below meth c T113 ls113 9 27 → T113.heap = h113 → Fr n0 ls113 → Keep h0 h113 [] → Arl Z h113 b1 .boolean [(.int e0), (.int e1), (.int e2)] → Arl Z h113 b19 .boolean [(.int e3), (.int e4), (.int e5)] → Arl Z h113 b38 .boolean [(.int e6), (.int e7), (.int e8)] → Exa Z h113 b68 "com/example/idealyze/idealyze/simulation/Tally" → Fld Z h113 b68 "com/example/idealyze/idealyze/simulation/Tally" "satisfied" "[J" (.ref sat_76) → Fld Z h113 b68 "com/example/idealyze/idealyze/simulation/Tally" "together" "[[J" (.ref tog_76) → Fld Z h113 b68 "com/example/idealyze/idealyze/simulation/Tally" "paths" "J" (.long j104_0) → Arl Z h113 sat_76 .long [(.long j104_1), (.long j104_2), (.long j104_3)] → Arl Z h113 tog_76 (.array .long) [(.ref t0_76), (.ref t1_76), (.ref t2_76)] → Arl Z h113 t0_76 .long [(.long j104_4), (.long j104_5), (.long j104_6)] → Arl Z h113 t1_76 .long [(.long j104_7), (.long j104_8), (.long j104_9)] → Arl Z h113 t2_76 .long [(.long j104_10), (.long j104_11), (.long j104_12)] → Wlk p.tables e below (T113.setTop (mkF m 248 #[iv p1, iv p2, rv b1, rv b19, rv b38, iv v61, iv v64, iv v67, rv b68, iv v108, iv v112, un, un] [(.int j113_0)])) K := by
                      intro T113 h113 ls113 j113_0 hj113_0 X113 e113 N113 K113 z113_0 z113_1 z113_2 z113_3 z113_4 z113_5 z113_6 z113_7 z113_8 z113_9 z113_10 z113_11
                      refine Wlk.of (fun _ k => XS.iload X113.here hx rfl (hb hby at_248) rfl k) ?_
                      show Wlk p.tables e below (T113.setTop (mkF m 250 #[iv p1, iv p2, rv b1, rv b19, rv b38, iv v61, iv v64, iv v67, rv b68, iv v108, iv v112, un, un] [(.int v64), (.int j113_0)])) K
                      have J114 : ∀ (T114 : State) (h114 : Heap) (ls114 : List Loc) (j114_0 : Int32), j114_0 = (if v64 = (0 : Int32) then (0 : Int32) else e4) → Stand p l e room_1 s m #[(.int p1), (.int p2)] below meth c T114 ls114 9 27 → T114.heap = h114 → Fr n0 ls114 → Keep h0 h114 [] → Arl Z h114 b1 .boolean [(.int e0), (.int e1), (.int e2)] → Arl Z h114 b19 .boolean [(.int e3), (.int e4), (.int e5)] → Arl Z h114 b38 .boolean [(.int e6), (.int e7), (.int e8)] → Exa Z h114 b68 "com/example/idealyze/idealyze/simulation/Tally" → Fld Z h114 b68 "com/example/idealyze/idealyze/simulation/Tally" "satisfied" "[J" (.ref sat_76) → Fld Z h114 b68 "com/example/idealyze/idealyze/simulation/Tally" "together" "[[J" (.ref tog_76) → Fld Z h114 b68 "com/example/idealyze/idealyze/simulation/Tally" "paths" "J" (.long j104_0) → Arl Z h114 sat_76 .long [(.long j104_1), (.long j104_2), (.long j104_3)] → Arl Z h114 tog_76 (.array .long) [(.ref t0_76), (.ref t1_76), (.ref t2_76)] → Arl Z h114 t0_76 .long [(.long j104_4), (.long j104_5), (.long j104_6)] → Arl Z h114 t1_76 .long [(.long j104_7), (.long j104_8), (.long j104_9)] → Arl Z h114 t2_76 .long [(.long j104_10), (.long j104_11), (.long j104_12)] → Wlk p.tables e below (T114.setTop (mkF m 262 #[iv p1, iv p2, rv b1, rv b19, rv b38, iv v61, iv v64, iv v67, rv b68, iv v108, iv v112, un, un] [(.int j114_0), (.int j113_0)])) K := by
                        intro T114 h114 ls114 j114_0 hj114_0 X114 e114 N114 K114 z114_0 z114_1 z114_2 z114_3 z114_4 z114_5 z114_6 z114_7 z114_8 z114_9 z114_10 z114_11
                        refine Wlk.of (fun _ k => XS.iadd X114.here hx rfl (hb hby at_262) rfl k) ?_
                        show Wlk p.tables e below (T114.setTop (mkF m 263 #[iv p1, iv p2, rv b1, rv b19, rv b38, iv v61, iv v64, iv v67, rv b68, iv v108, iv v112, un, un] [(.int (j113_0 + j114_0))])) K
                        refine Wlk.of (fun _ k => XS.iload X114.here hx rfl (hb hby at_263) rfl k) ?_
                        show Wlk p.tables e below (T114.setTop (mkF m 265 #[iv p1, iv p2, rv b1, rv b19, rv b38, iv v61, iv v64, iv v67, rv b68, iv v108, iv v112, un, un] [(.int v67), (.int (j113_0 + j114_0))])) K
                        have J115 : ∀ (T115 : State) (h115 : Heap) (ls115 : List Loc) (j115_0 : Int32), j115_0 = (if v67 = (0 : Int32) then (0 : Int32) else e7) → Stand p l e room_1 s m #[(.int p1), (.int p2)] below meth c T115 ls115 9 27 → T115.heap = h115 → Fr n0 ls115 → Keep h0 h115 [] → Arl Z h115 b1 .boolean [(.int e0), (.int e1), (.int e2)] → Arl Z h115 b19 .boolean [(.int e3), (.int e4), (.int e5)] → Arl Z h115 b38 .boolean [(.int e6), (.int e7), (.int e8)] → Exa Z h115 b68 "com/example/idealyze/idealyze/simulation/Tally" → Fld Z h115 b68 "com/example/idealyze/idealyze/simulation/Tally" "satisfied" "[J" (.ref sat_76) → Fld Z h115 b68 "com/example/idealyze/idealyze/simulation/Tally" "together" "[[J" (.ref tog_76) → Fld Z h115 b68 "com/example/idealyze/idealyze/simulation/Tally" "paths" "J" (.long j104_0) → Arl Z h115 sat_76 .long [(.long j104_1), (.long j104_2), (.long j104_3)] → Arl Z h115 tog_76 (.array .long) [(.ref t0_76), (.ref t1_76), (.ref t2_76)] → Arl Z h115 t0_76 .long [(.long j104_4), (.long j104_5), (.long j104_6)] → Arl Z h115 t1_76 .long [(.long j104_7), (.long j104_8), (.long j104_9)] → Arl Z h115 t2_76 .long [(.long j104_10), (.long j104_11), (.long j104_12)] → Wlk p.tables e below (T115.setTop (mkF m 278 #[iv p1, iv p2, rv b1, rv b19, rv b38, iv v61, iv v64, iv v67, rv b68, iv v108, iv v112, un, un] [(.int j115_0), (.int (j113_0 + j114_0))])) K := by
                          intro T115 h115 ls115 j115_0 hj115_0 X115 e115 N115 K115 z115_0 z115_1 z115_2 z115_3 z115_4 z115_5 z115_6 z115_7 z115_8 z115_9 z115_10 z115_11
                          refine Wlk.of (fun _ k => XS.iadd X115.here hx rfl (hb hby at_278) rfl k) ?_
                          show Wlk p.tables e below (T115.setTop (mkF m 279 #[iv p1, iv p2, rv b1, rv b19, rv b38, iv v61, iv v64, iv v67, rv b68, iv v108, iv v112, un, un] [(.int ((j113_0 + j114_0) + j115_0))])) K
                          refine Wlk.of (fun _ k => XS.istore X115.here hx rfl (hb hby at_279) rfl (l' := #[iv p1, iv p2, rv b1, rv b19, rv b38, iv v61, iv v64, iv v67, rv b68, iv v108, iv v112, iv ((j113_0 + j114_0) + j115_0), un]) rfl k) ?_
                          show Wlk p.tables e below (T115.setTop (mkF m 281 #[iv p1, iv p2, rv b1, rv b19, rv b38, iv v61, iv v64, iv v67, rv b68, iv v108, iv v112, iv ((j113_0 + j114_0) + j115_0), un] [])) K
                          generalize hv116 : ((j113_0 + j114_0) + j115_0) = v116
                          refine Wlk.of (fun _ k => XS.iload X115.here hx rfl (hb hby at_281) rfl k) ?_
                          show Wlk p.tables e below (T115.setTop (mkF m 283 #[iv p1, iv p2, rv b1, rv b19, rv b38, iv v61, iv v64, iv v67, rv b68, iv v108, iv v112, iv v116, un] [(.int v61)])) K
                          have J117 : ∀ (T117 : State) (h117 : Heap) (ls117 : List Loc) (j117_0 : Int32), j117_0 = (if v61 = (0 : Int32) then (0 : Int32) else e2) → Stand p l e room_1 s m #[(.int p1), (.int p2)] below meth c T117 ls117 9 27 → T117.heap = h117 → Fr n0 ls117 → Keep h0 h117 [] → Arl Z h117 b1 .boolean [(.int e0), (.int e1), (.int e2)] → Arl Z h117 b19 .boolean [(.int e3), (.int e4), (.int e5)] → Arl Z h117 b38 .boolean [(.int e6), (.int e7), (.int e8)] → Exa Z h117 b68 "com/example/idealyze/idealyze/simulation/Tally" → Fld Z h117 b68 "com/example/idealyze/idealyze/simulation/Tally" "satisfied" "[J" (.ref sat_76) → Fld Z h117 b68 "com/example/idealyze/idealyze/simulation/Tally" "together" "[[J" (.ref tog_76) → Fld Z h117 b68 "com/example/idealyze/idealyze/simulation/Tally" "paths" "J" (.long j104_0) → Arl Z h117 sat_76 .long [(.long j104_1), (.long j104_2), (.long j104_3)] → Arl Z h117 tog_76 (.array .long) [(.ref t0_76), (.ref t1_76), (.ref t2_76)] → Arl Z h117 t0_76 .long [(.long j104_4), (.long j104_5), (.long j104_6)] → Arl Z h117 t1_76 .long [(.long j104_7), (.long j104_8), (.long j104_9)] → Arl Z h117 t2_76 .long [(.long j104_10), (.long j104_11), (.long j104_12)] → Wlk p.tables e below (T117.setTop (mkF m 295 #[iv p1, iv p2, rv b1, rv b19, rv b38, iv v61, iv v64, iv v67, rv b68, iv v108, iv v112, iv v116, un] [(.int j117_0)])) K := by
                            intro T117 h117 ls117 j117_0 hj117_0 X117 e117 N117 K117 z117_0 z117_1 z117_2 z117_3 z117_4 z117_5 z117_6 z117_7 z117_8 z117_9 z117_10 z117_11
                            refine Wlk.of (fun _ k => XS.iload X117.here hx rfl (hb hby at_295) rfl k) ?_
                            show Wlk p.tables e below (T117.setTop (mkF m 297 #[iv p1, iv p2, rv b1, rv b19, rv b38, iv v61, iv v64, iv v67, rv b68, iv v108, iv v112, iv v116, un] [(.int v64), (.int j117_0)])) K
                            have J118 : ∀ (T118 : State) (h118 : Heap) (ls118 : List Loc) (j118_0 : Int32), j118_0 = (if v64 = (0 : Int32) then (0 : Int32) else e5) → Stand p l e room_1 s m #[(.int p1), (.int p2)] below meth c T118 ls118 9 27 → T118.heap = h118 → Fr n0 ls118 → Keep h0 h118 [] → Arl Z h118 b1 .boolean [(.int e0), (.int e1), (.int e2)] → Arl Z h118 b19 .boolean [(.int e3), (.int e4), (.int e5)] → Arl Z h118 b38 .boolean [(.int e6), (.int e7), (.int e8)] → Exa Z h118 b68 "com/example/idealyze/idealyze/simulation/Tally" → Fld Z h118 b68 "com/example/idealyze/idealyze/simulation/Tally" "satisfied" "[J" (.ref sat_76) → Fld Z h118 b68 "com/example/idealyze/idealyze/simulation/Tally" "together" "[[J" (.ref tog_76) → Fld Z h118 b68 "com/example/idealyze/idealyze/simulation/Tally" "paths" "J" (.long j104_0) → Arl Z h118 sat_76 .long [(.long j104_1), (.long j104_2), (.long j104_3)] → Arl Z h118 tog_76 (.array .long) [(.ref t0_76), (.ref t1_76), (.ref t2_76)] → Arl Z h118 t0_76 .long [(.long j104_4), (.long j104_5), (.long j104_6)] → Arl Z h118 t1_76 .long [(.long j104_7), (.long j104_8), (.long j104_9)] → Arl Z h118 t2_76 .long [(.long j104_10), (.long j104_11), (.long j104_12)] → Wlk p.tables e below (T118.setTop (mkF m 309 #[iv p1, iv p2, rv b1, rv b19, rv b38, iv v61, iv v64, iv v67, rv b68, iv v108, iv v112, iv v116, un] [(.int j118_0), (.int j117_0)])) K := by
                              intro T118 h118 ls118 j118_0 hj118_0 X118 e118 N118 K118 z118_0 z118_1 z118_2 z118_3 z118_4 z118_5 z118_6 z118_7 z118_8 z118_9 z118_10 z118_11
                              refine Wlk.of (fun _ k => XS.iadd X118.here hx rfl (hb hby at_309) rfl k) ?_
                              show Wlk p.tables e below (T118.setTop (mkF m 310 #[iv p1, iv p2, rv b1, rv b19, rv b38, iv v61, iv v64, iv v67, rv b68, iv v108, iv v112, iv v116, un] [(.int (j117_0 + j118_0))])) K
                              refine Wlk.of (fun _ k => XS.iload X118.here hx rfl (hb hby at_310) rfl k) ?_
                              show Wlk p.tables e below (T118.setTop (mkF m 312 #[iv p1, iv p2, rv b1, rv b19, rv b38, iv v61, iv v64, iv v67, rv b68, iv v108, iv v112, iv v116, un] [(.int v67), (.int (j117_0 + j118_0))])) K
                              have J119 : ∀ (T119 : State) (h119 : Heap) (ls119 : List Loc) (j119_0 : Int32), j119_0 = (if v67 = (0 : Int32) then (0 : Int32) else e8) → Stand p l e room_1 s m #[(.int p1), (.int p2)] below meth c T119 ls119 9 27 → T119.heap = h119 → Fr n0 ls119 → Keep h0 h119 [] → Arl Z h119 b1 .boolean [(.int e0), (.int e1), (.int e2)] → Arl Z h119 b19 .boolean [(.int e3), (.int e4), (.int e5)] → Arl Z h119 b38 .boolean [(.int e6), (.int e7), (.int e8)] → Exa Z h119 b68 "com/example/idealyze/idealyze/simulation/Tally" → Fld Z h119 b68 "com/example/idealyze/idealyze/simulation/Tally" "satisfied" "[J" (.ref sat_76) → Fld Z h119 b68 "com/example/idealyze/idealyze/simulation/Tally" "together" "[[J" (.ref tog_76) → Fld Z h119 b68 "com/example/idealyze/idealyze/simulation/Tally" "paths" "J" (.long j104_0) → Arl Z h119 sat_76 .long [(.long j104_1), (.long j104_2), (.long j104_3)] → Arl Z h119 tog_76 (.array .long) [(.ref t0_76), (.ref t1_76), (.ref t2_76)] → Arl Z h119 t0_76 .long [(.long j104_4), (.long j104_5), (.long j104_6)] → Arl Z h119 t1_76 .long [(.long j104_7), (.long j104_8), (.long j104_9)] → Arl Z h119 t2_76 .long [(.long j104_10), (.long j104_11), (.long j104_12)] → Wlk p.tables e below (T119.setTop (mkF m 325 #[iv p1, iv p2, rv b1, rv b19, rv b38, iv v61, iv v64, iv v67, rv b68, iv v108, iv v112, iv v116, un] [(.int j119_0), (.int (j117_0 + j118_0))])) K := by
                                intro T119 h119 ls119 j119_0 hj119_0 X119 e119 N119 K119 z119_0 z119_1 z119_2 z119_3 z119_4 z119_5 z119_6 z119_7 z119_8 z119_9 z119_10 z119_11
                                refine Wlk.of (fun _ k => XS.iadd X119.here hx rfl (hb hby at_325) rfl k) ?_
                                show Wlk p.tables e below (T119.setTop (mkF m 326 #[iv p1, iv p2, rv b1, rv b19, rv b38, iv v61, iv v64, iv v67, rv b68, iv v108, iv v112, iv v116, un] [(.int ((j117_0 + j118_0) + j119_0))])) K
                                refine Wlk.of (fun _ k => XS.istore X119.here hx rfl (hb hby at_326) rfl (l' := #[iv p1, iv p2, rv b1, rv b19, rv b38, iv v61, iv v64, iv v67, rv b68, iv v108, iv v112, iv v116, iv ((j117_0 + j118_0) + j119_0)]) rfl k) ?_
                                show Wlk p.tables e below (T119.setTop (mkF m 328 #[iv p1, iv p2, rv b1, rv b19, rv b38, iv v61, iv v64, iv v67, rv b68, iv v108, iv v112, iv v116, iv ((j117_0 + j118_0) + j119_0)] [])) K
                                generalize hv120 : ((j117_0 + j118_0) + j119_0) = v120
                                refine Wlk.of (fun _ k => XS.aload X119.here hx rfl (hb hby at_328) rfl rfl k) ?_
                                show Wlk p.tables e below (T119.setTop (mkF m 330 #[iv p1, iv p2, rv b1, rv b19, rv b38, iv v61, iv v64, iv v67, rv b68, iv v108, iv v112, iv v116, iv v120] [(.ref b68)])) K
                                obtain ⟨v121, T121, L121, X121, q121, st121⟩ := Ctr.virtual (y := (⟨"com/example/idealyze/idealyze/simulation/Tally", "paths", "()J"⟩ : MethodName)) (rmP l Z a0 hw b68 j104_0 h119 n0 (Nat.le_trans Z0 K119.1) z119_6) X119 hx hZ e119 hown (wd hw 31 rfl) (wd hw 32 rfl) (notFace_of_selects (args := #[]) (mvT hZ (wd hw 34 rfl))) (wd hw 34 rfl) (wd hw 33 rfl) (wd hw 7 rfl) (wd hw 35 rfl) (by decide) z119_3 pd_151 (g := (mkF m 330 #[iv p1, iv p2, rv b1, rv b19, rv b38, iv v61, iv v64, iv v67, rv b68, iv v108, iv v112, iv v116, iv v120] [(.ref b68)])) rfl (by rw [hml]; rfl) (argsL := []) (rest := []) rfl rfl rfl (W := 0) (by show 2 * 0 + _ ≤ _; exact Nat.le_of_eq rfl) (by decide) (by decide) (hb hby at_330) (by decide) (by decide)
                                obtain ⟨rfl, N121q, hh121⟩ := q121
                                have N122 := Fr.app N119 N121q
                                refine Wlk.of (fun _ k => st121 _ k) ?_
                                show Wlk p.tables e below (T121.setTop (mkF m 333 #[iv p1, iv p2, rv b1, rv b19, rv b38, iv v61, iv v64, iv v67, rv b68, iv v108, iv v112, iv v116, iv v120] [(.long j104_0)])) K
                                refine Wlk.of (fun _ k => XS.iload X121.here hx rfl (hb hby at_333) rfl k) ?_
                                show Wlk p.tables e below (T121.setTop (mkF m 335 #[iv p1, iv p2, rv b1, rv b19, rv b38, iv v61, iv v64, iv v67, rv b68, iv v108, iv v112, iv v116, iv v120] [(.int v108), (.long j104_0)])) K
                                refine Wlk.of (fun _ k => XS.i2l X121.here hx rfl (hb hby at_335) rfl k) ?_
                                show Wlk p.tables e below (T121.setTop (mkF m 336 #[iv p1, iv p2, rv b1, rv b19, rv b38, iv v61, iv v64, iv v67, rv b68, iv v108, iv v112, iv v116, iv v120] [(.long (v108.toInt64)), (.long j104_0)])) K
                                refine Wlk.of (fun _ k => XS.lcmp X121.here hx rfl (hb hby at_336) rfl k) ?_
                                show Wlk p.tables e below (T121.setTop (mkF m 337 #[iv p1, iv p2, rv b1, rv b19, rv b38, iv v61, iv v64, iv v67, rv b68, iv v108, iv v112, iv v116, iv v120] [(.int (lcmpW j104_0 (v108.toInt64)))])) K
                                refine Wlk.of (fun _ k => XS.ifNo X121.here hx rfl (hb hby at_337) rfl ((if0 _ _).trans (teq ((lw_eq _ _).mpr (own_paths hj102_0 hj103_0 hj104_0 hj105_0 hj106_0 hj107_0 hv108))).2) k) ?_
                                show Wlk p.tables e below (T121.setTop (mkF m 340 #[iv p1, iv p2, rv b1, rv b19, rv b38, iv v61, iv v64, iv v67, rv b68, iv v108, iv v112, iv v116, iv v120] [])) K
                                refine Wlk.of (fun _ k => XS.aload X121.here hx rfl (hb hby at_340) rfl rfl k) ?_
                                show Wlk p.tables e below (T121.setTop (mkF m 342 #[iv p1, iv p2, rv b1, rv b19, rv b38, iv v61, iv v64, iv v67, rv b68, iv v108, iv v112, iv v116, iv v120] [(.ref b68)])) K
                                refine Wlk.of (fun _ k => XS.iconst X121.here hx rfl (hb hby at_342) k) ?_
                                show Wlk p.tables e below (T121.setTop (mkF m 343 #[iv p1, iv p2, rv b1, rv b19, rv b38, iv v61, iv v64, iv v67, rv b68, iv v108, iv v112, iv v116, iv v120] [(.int (0 : Int32)), (.ref b68)])) K
                                obtain ⟨v123, T123, L123, X123, q123, st123⟩ := Ctr.virtual (y := (⟨"com/example/idealyze/idealyze/simulation/Tally", "fraction", "(I)D"⟩ : MethodName)) (rmF0 l Z a0 hw b68 sat_76 j104_0 j104_1 j104_2 j104_3 h119 n0 (Nat.le_trans Z0 K119.1) z119_6 z119_4 z119_7) X121 hx hZ hh121 hown (wd hw 36 rfl) (wd hw 37 rfl) (notFace_of_selects (args := #[]) (mvT hZ (wd hw 39 rfl))) (wd hw 39 rfl) (wd hw 38 rfl) (wd hw 7 rfl) (wd hw 40 rfl) (by decide) z119_3 pd_152 (g := (mkF m 343 #[iv p1, iv p2, rv b1, rv b19, rv b38, iv v61, iv v64, iv v67, rv b68, iv v108, iv v112, iv v116, iv v120] [(.int (0 : Int32)), (.ref b68)])) rfl (by rw [hml]; rfl) (argsL := [(.int (0 : Int32))]) (rest := []) rfl rfl rfl (W := 0) (by show 2 * 0 + _ ≤ _; exact Nat.le_of_eq rfl) (by decide) (by decide) (hb hby at_343) (by decide) (by decide)
                                obtain ⟨rfl, N123q, hh123⟩ := q123
                                have N124 := Fr.app N122 N123q
                                refine Wlk.of (fun _ k => st123 _ k) ?_
                                show Wlk p.tables e below (T123.setTop (mkF m 346 #[iv p1, iv p2, rv b1, rv b19, rv b38, iv v61, iv v64, iv v67, rv b68, iv v108, iv v112, iv v116, iv v120] [(.double (if j104_0 = (0 : Int64) then FP.dconst0 else (FP.ddiv (FP.l2d j104_1) (FP.l2d j104_0))))])) K
                                refine Wlk.of (fun _ k => XS.iload X123.here hx rfl (hb hby at_346) rfl k) ?_
                                show Wlk p.tables e below (T123.setTop (mkF m 348 #[iv p1, iv p2, rv b1, rv b19, rv b38, iv v61, iv v64, iv v67, rv b68, iv v108, iv v112, iv v116, iv v120] [(.int v108), (.double (if j104_0 = (0 : Int64) then FP.dconst0 else (FP.ddiv (FP.l2d j104_1) (FP.l2d j104_0))))])) K
                                refine Wlk.of (fun _ k => XS.iload X123.here hx rfl (hb hby at_348) rfl k) ?_
                                show Wlk p.tables e below (T123.setTop (mkF m 350 #[iv p1, iv p2, rv b1, rv b19, rv b38, iv v61, iv v64, iv v67, rv b68, iv v108, iv v112, iv v116, iv v120] [(.int v112), (.int v108), (.double (if j104_0 = (0 : Int64) then FP.dconst0 else (FP.ddiv (FP.l2d j104_1) (FP.l2d j104_0))))])) K
                                obtain ⟨v125, T125, L125, X125, q125, st125⟩ := Ctr.static (rmC l Z a0 hw v108 v112 h119 n0 (Nat.le_trans Z0 K119.1) ) X123 hx hZ hh123 hown (wd hw 41 rfl) (wd hw 42 rfl) (wd hw 3 rfl) (wd hw 43 rfl) (by decide) pd_153 (g := (mkF m 350 #[iv p1, iv p2, rv b1, rv b19, rv b38, iv v61, iv v64, iv v67, rv b68, iv v108, iv v112, iv v116, iv v120] [(.int v112), (.int v108), (.double (if j104_0 = (0 : Int64) then FP.dconst0 else (FP.ddiv (FP.l2d j104_1) (FP.l2d j104_0))))])) rfl (by rw [hml]; rfl) (argsL := [(.int v108), (.int v112)]) (rest := [(.double (if j104_0 = (0 : Int64) then FP.dconst0 else (FP.ddiv (FP.l2d j104_1) (FP.l2d j104_0))))]) rfl rfl rfl (W := 2) (by show 2 * 0 + _ ≤ _; exact Nat.le_of_eq rfl) (by decide) (by decide) (hb hby at_350) (by decide) (by decide)
                                obtain ⟨rfl, N125q, hh125⟩ := q125
                                have N126 := Fr.app N124 N125q
                                refine Wlk.of (fun _ k => st125 _ k) ?_
                                show Wlk p.tables e below (T125.setTop (mkF m 353 #[iv p1, iv p2, rv b1, rv b19, rv b38, iv v61, iv v64, iv v67, rv b68, iv v108, iv v112, iv v116, iv v120] [(.double (if v108 = (0 : Int32) then FP.dconst0 else (FP.ddiv (FP.i2d v112) (FP.i2d v108)))), (.double (if j104_0 = (0 : Int64) then FP.dconst0 else (FP.ddiv (FP.l2d j104_1) (FP.l2d j104_0))))])) K
                                refine Wlk.of (fun _ k => XS.dcmpS X125.here hx rfl (hb hby at_353) rfl rfl k) ?_
                                show Wlk p.tables e below (T125.setTop (mkF m 354 #[iv p1, iv p2, rv b1, rv b19, rv b38, iv v61, iv v64, iv v67, rv b68, iv v108, iv v112, iv v116, iv v120] [(.int (cmpValue (FP.dcmp (if j104_0 = (0 : Int64) then FP.dconst0 else (FP.ddiv (FP.l2d j104_1) (FP.l2d j104_0))) (if v108 = (0 : Int32) then FP.dconst0 else (FP.ddiv (FP.i2d v112) (FP.i2d v108)))) .l))])) K
                                refine Wlk.of (fun _ k => XS.ifNo X125.here hx rfl (hb hby at_354) rfl ((if0 _ _).trans (teq (own_frac (own_paths hj102_0 hj103_0 hj104_0 hj105_0 hj106_0 hj107_0 hv108) (own_cnt be0 be3 be6 hj102_1 hj103_1 hj104_1 hj109_0 hj110_0 hj111_0 hv112) : (cmpValue (FP.dcmp (if j104_0 = (0 : Int64) then FP.dconst0 else (FP.ddiv (FP.l2d j104_1) (FP.l2d j104_0))) (if v108 = (0 : Int32) then FP.dconst0 else (FP.ddiv (FP.i2d v112) (FP.i2d v108)))) .l) = (0 : Int32))).2) k) ?_
                                show Wlk p.tables e below (T125.setTop (mkF m 357 #[iv p1, iv p2, rv b1, rv b19, rv b38, iv v61, iv v64, iv v67, rv b68, iv v108, iv v112, iv v116, iv v120] [])) K
                                refine Wlk.of (fun _ k => XS.aload X125.here hx rfl (hb hby at_357) rfl rfl k) ?_
                                show Wlk p.tables e below (T125.setTop (mkF m 359 #[iv p1, iv p2, rv b1, rv b19, rv b38, iv v61, iv v64, iv v67, rv b68, iv v108, iv v112, iv v116, iv v120] [(.ref b68)])) K
                                refine Wlk.of (fun _ k => XS.iconst X125.here hx rfl (hb hby at_359) k) ?_
                                show Wlk p.tables e below (T125.setTop (mkF m 360 #[iv p1, iv p2, rv b1, rv b19, rv b38, iv v61, iv v64, iv v67, rv b68, iv v108, iv v112, iv v116, iv v120] [(.int (1 : Int32)), (.ref b68)])) K
                                obtain ⟨v127, T127, L127, X127, q127, st127⟩ := Ctr.virtual (y := (⟨"com/example/idealyze/idealyze/simulation/Tally", "fraction", "(I)D"⟩ : MethodName)) (rmF1 l Z a0 hw b68 sat_76 j104_0 j104_1 j104_2 j104_3 h119 n0 (Nat.le_trans Z0 K119.1) z119_6 z119_4 z119_7) X125 hx hZ hh125 hown (wd hw 36 rfl) (wd hw 37 rfl) (notFace_of_selects (args := #[]) (mvT hZ (wd hw 39 rfl))) (wd hw 39 rfl) (wd hw 38 rfl) (wd hw 7 rfl) (wd hw 40 rfl) (by decide) z119_3 pd_152 (g := (mkF m 360 #[iv p1, iv p2, rv b1, rv b19, rv b38, iv v61, iv v64, iv v67, rv b68, iv v108, iv v112, iv v116, iv v120] [(.int (1 : Int32)), (.ref b68)])) rfl (by rw [hml]; rfl) (argsL := [(.int (1 : Int32))]) (rest := []) rfl rfl rfl (W := 0) (by show 2 * 0 + _ ≤ _; exact Nat.le_of_eq rfl) (by decide) (by decide) (hb hby at_360) (by decide) (by decide)
                                obtain ⟨rfl, N127q, hh127⟩ := q127
                                have N128 := Fr.app N126 N127q
                                refine Wlk.of (fun _ k => st127 _ k) ?_
                                show Wlk p.tables e below (T127.setTop (mkF m 363 #[iv p1, iv p2, rv b1, rv b19, rv b38, iv v61, iv v64, iv v67, rv b68, iv v108, iv v112, iv v116, iv v120] [(.double (if j104_0 = (0 : Int64) then FP.dconst0 else (FP.ddiv (FP.l2d j104_2) (FP.l2d j104_0))))])) K
                                refine Wlk.of (fun _ k => XS.iload X127.here hx rfl (hb hby at_363) rfl k) ?_
                                show Wlk p.tables e below (T127.setTop (mkF m 365 #[iv p1, iv p2, rv b1, rv b19, rv b38, iv v61, iv v64, iv v67, rv b68, iv v108, iv v112, iv v116, iv v120] [(.int v108), (.double (if j104_0 = (0 : Int64) then FP.dconst0 else (FP.ddiv (FP.l2d j104_2) (FP.l2d j104_0))))])) K
                                refine Wlk.of (fun _ k => XS.iload X127.here hx rfl (hb hby at_365) rfl k) ?_
                                show Wlk p.tables e below (T127.setTop (mkF m 367 #[iv p1, iv p2, rv b1, rv b19, rv b38, iv v61, iv v64, iv v67, rv b68, iv v108, iv v112, iv v116, iv v120] [(.int v116), (.int v108), (.double (if j104_0 = (0 : Int64) then FP.dconst0 else (FP.ddiv (FP.l2d j104_2) (FP.l2d j104_0))))])) K
                                obtain ⟨v129, T129, L129, X129, q129, st129⟩ := Ctr.static (rmC l Z a0 hw v108 v116 h119 n0 (Nat.le_trans Z0 K119.1) ) X127 hx hZ hh127 hown (wd hw 41 rfl) (wd hw 42 rfl) (wd hw 3 rfl) (wd hw 43 rfl) (by decide) pd_153 (g := (mkF m 367 #[iv p1, iv p2, rv b1, rv b19, rv b38, iv v61, iv v64, iv v67, rv b68, iv v108, iv v112, iv v116, iv v120] [(.int v116), (.int v108), (.double (if j104_0 = (0 : Int64) then FP.dconst0 else (FP.ddiv (FP.l2d j104_2) (FP.l2d j104_0))))])) rfl (by rw [hml]; rfl) (argsL := [(.int v108), (.int v116)]) (rest := [(.double (if j104_0 = (0 : Int64) then FP.dconst0 else (FP.ddiv (FP.l2d j104_2) (FP.l2d j104_0))))]) rfl rfl rfl (W := 2) (by show 2 * 0 + _ ≤ _; exact Nat.le_of_eq rfl) (by decide) (by decide) (hb hby at_367) (by decide) (by decide)
                                obtain ⟨rfl, N129q, hh129⟩ := q129
                                have N130 := Fr.app N128 N129q
                                refine Wlk.of (fun _ k => st129 _ k) ?_
                                show Wlk p.tables e below (T129.setTop (mkF m 370 #[iv p1, iv p2, rv b1, rv b19, rv b38, iv v61, iv v64, iv v67, rv b68, iv v108, iv v112, iv v116, iv v120] [(.double (if v108 = (0 : Int32) then FP.dconst0 else (FP.ddiv (FP.i2d v116) (FP.i2d v108)))), (.double (if j104_0 = (0 : Int64) then FP.dconst0 else (FP.ddiv (FP.l2d j104_2) (FP.l2d j104_0))))])) K
                                refine Wlk.of (fun _ k => XS.dcmpS X129.here hx rfl (hb hby at_370) rfl rfl k) ?_
                                show Wlk p.tables e below (T129.setTop (mkF m 371 #[iv p1, iv p2, rv b1, rv b19, rv b38, iv v61, iv v64, iv v67, rv b68, iv v108, iv v112, iv v116, iv v120] [(.int (cmpValue (FP.dcmp (if j104_0 = (0 : Int64) then FP.dconst0 else (FP.ddiv (FP.l2d j104_2) (FP.l2d j104_0))) (if v108 = (0 : Int32) then FP.dconst0 else (FP.ddiv (FP.i2d v116) (FP.i2d v108)))) .l))])) K
                                refine Wlk.of (fun _ k => XS.ifNo X129.here hx rfl (hb hby at_371) rfl ((if0 _ _).trans (teq (own_frac (own_paths hj102_0 hj103_0 hj104_0 hj105_0 hj106_0 hj107_0 hv108) (own_cnt be1 be4 be7 hj102_2 hj103_2 hj104_2 hj113_0 hj114_0 hj115_0 hv116) : (cmpValue (FP.dcmp (if j104_0 = (0 : Int64) then FP.dconst0 else (FP.ddiv (FP.l2d j104_2) (FP.l2d j104_0))) (if v108 = (0 : Int32) then FP.dconst0 else (FP.ddiv (FP.i2d v116) (FP.i2d v108)))) .l) = (0 : Int32))).2) k) ?_
                                show Wlk p.tables e below (T129.setTop (mkF m 374 #[iv p1, iv p2, rv b1, rv b19, rv b38, iv v61, iv v64, iv v67, rv b68, iv v108, iv v112, iv v116, iv v120] [])) K
                                refine Wlk.of (fun _ k => XS.aload X129.here hx rfl (hb hby at_374) rfl rfl k) ?_
                                show Wlk p.tables e below (T129.setTop (mkF m 376 #[iv p1, iv p2, rv b1, rv b19, rv b38, iv v61, iv v64, iv v67, rv b68, iv v108, iv v112, iv v116, iv v120] [(.ref b68)])) K
                                refine Wlk.of (fun _ k => XS.iconst X129.here hx rfl (hb hby at_376) k) ?_
                                show Wlk p.tables e below (T129.setTop (mkF m 377 #[iv p1, iv p2, rv b1, rv b19, rv b38, iv v61, iv v64, iv v67, rv b68, iv v108, iv v112, iv v116, iv v120] [(.int (2 : Int32)), (.ref b68)])) K
                                obtain ⟨v131, T131, L131, X131, q131, st131⟩ := Ctr.virtual (y := (⟨"com/example/idealyze/idealyze/simulation/Tally", "fraction", "(I)D"⟩ : MethodName)) (rmF2 l Z a0 hw b68 sat_76 j104_0 j104_1 j104_2 j104_3 h119 n0 (Nat.le_trans Z0 K119.1) z119_6 z119_4 z119_7) X129 hx hZ hh129 hown (wd hw 36 rfl) (wd hw 37 rfl) (notFace_of_selects (args := #[]) (mvT hZ (wd hw 39 rfl))) (wd hw 39 rfl) (wd hw 38 rfl) (wd hw 7 rfl) (wd hw 40 rfl) (by decide) z119_3 pd_152 (g := (mkF m 377 #[iv p1, iv p2, rv b1, rv b19, rv b38, iv v61, iv v64, iv v67, rv b68, iv v108, iv v112, iv v116, iv v120] [(.int (2 : Int32)), (.ref b68)])) rfl (by rw [hml]; rfl) (argsL := [(.int (2 : Int32))]) (rest := []) rfl rfl rfl (W := 0) (by show 2 * 0 + _ ≤ _; exact Nat.le_of_eq rfl) (by decide) (by decide) (hb hby at_377) (by decide) (by decide)
                                obtain ⟨rfl, N131q, hh131⟩ := q131
                                have N132 := Fr.app N130 N131q
                                refine Wlk.of (fun _ k => st131 _ k) ?_
                                show Wlk p.tables e below (T131.setTop (mkF m 380 #[iv p1, iv p2, rv b1, rv b19, rv b38, iv v61, iv v64, iv v67, rv b68, iv v108, iv v112, iv v116, iv v120] [(.double (if j104_0 = (0 : Int64) then FP.dconst0 else (FP.ddiv (FP.l2d j104_3) (FP.l2d j104_0))))])) K
                                refine Wlk.of (fun _ k => XS.iload X131.here hx rfl (hb hby at_380) rfl k) ?_
                                show Wlk p.tables e below (T131.setTop (mkF m 382 #[iv p1, iv p2, rv b1, rv b19, rv b38, iv v61, iv v64, iv v67, rv b68, iv v108, iv v112, iv v116, iv v120] [(.int v108), (.double (if j104_0 = (0 : Int64) then FP.dconst0 else (FP.ddiv (FP.l2d j104_3) (FP.l2d j104_0))))])) K
                                refine Wlk.of (fun _ k => XS.iload X131.here hx rfl (hb hby at_382) rfl k) ?_
                                show Wlk p.tables e below (T131.setTop (mkF m 384 #[iv p1, iv p2, rv b1, rv b19, rv b38, iv v61, iv v64, iv v67, rv b68, iv v108, iv v112, iv v116, iv v120] [(.int v120), (.int v108), (.double (if j104_0 = (0 : Int64) then FP.dconst0 else (FP.ddiv (FP.l2d j104_3) (FP.l2d j104_0))))])) K
                                obtain ⟨v133, T133, L133, X133, q133, st133⟩ := Ctr.static (rmC l Z a0 hw v108 v120 h119 n0 (Nat.le_trans Z0 K119.1) ) X131 hx hZ hh131 hown (wd hw 41 rfl) (wd hw 42 rfl) (wd hw 3 rfl) (wd hw 43 rfl) (by decide) pd_153 (g := (mkF m 384 #[iv p1, iv p2, rv b1, rv b19, rv b38, iv v61, iv v64, iv v67, rv b68, iv v108, iv v112, iv v116, iv v120] [(.int v120), (.int v108), (.double (if j104_0 = (0 : Int64) then FP.dconst0 else (FP.ddiv (FP.l2d j104_3) (FP.l2d j104_0))))])) rfl (by rw [hml]; rfl) (argsL := [(.int v108), (.int v120)]) (rest := [(.double (if j104_0 = (0 : Int64) then FP.dconst0 else (FP.ddiv (FP.l2d j104_3) (FP.l2d j104_0))))]) rfl rfl rfl (W := 2) (by show 2 * 0 + _ ≤ _; exact Nat.le_of_eq rfl) (by decide) (by decide) (hb hby at_384) (by decide) (by decide)
                                obtain ⟨rfl, N133q, hh133⟩ := q133
                                have N134 := Fr.app N132 N133q
                                refine Wlk.of (fun _ k => st133 _ k) ?_
                                show Wlk p.tables e below (T133.setTop (mkF m 387 #[iv p1, iv p2, rv b1, rv b19, rv b38, iv v61, iv v64, iv v67, rv b68, iv v108, iv v112, iv v116, iv v120] [(.double (if v108 = (0 : Int32) then FP.dconst0 else (FP.ddiv (FP.i2d v120) (FP.i2d v108)))), (.double (if j104_0 = (0 : Int64) then FP.dconst0 else (FP.ddiv (FP.l2d j104_3) (FP.l2d j104_0))))])) K
                                refine Wlk.of (fun _ k => XS.dcmpS X133.here hx rfl (hb hby at_387) rfl rfl k) ?_
                                show Wlk p.tables e below (T133.setTop (mkF m 388 #[iv p1, iv p2, rv b1, rv b19, rv b38, iv v61, iv v64, iv v67, rv b68, iv v108, iv v112, iv v116, iv v120] [(.int (cmpValue (FP.dcmp (if j104_0 = (0 : Int64) then FP.dconst0 else (FP.ddiv (FP.l2d j104_3) (FP.l2d j104_0))) (if v108 = (0 : Int32) then FP.dconst0 else (FP.ddiv (FP.i2d v120) (FP.i2d v108)))) .l))])) K
                                refine Wlk.of (fun _ k => XS.ifNo X133.here hx rfl (hb hby at_388) rfl ((if0 _ _).trans (teq (own_frac (own_paths hj102_0 hj103_0 hj104_0 hj105_0 hj106_0 hj107_0 hv108) (own_cnt be2 be5 be8 hj102_3 hj103_3 hj104_3 hj117_0 hj118_0 hj119_0 hv120) : (cmpValue (FP.dcmp (if j104_0 = (0 : Int64) then FP.dconst0 else (FP.ddiv (FP.l2d j104_3) (FP.l2d j104_0))) (if v108 = (0 : Int32) then FP.dconst0 else (FP.ddiv (FP.i2d v120) (FP.i2d v108)))) .l) = (0 : Int32))).2) k) ?_
                                show Wlk p.tables e below (T133.setTop (mkF m 391 #[iv p1, iv p2, rv b1, rv b19, rv b38, iv v61, iv v64, iv v67, rv b68, iv v108, iv v112, iv v116, iv v120] [])) K
                                refine Wlk.of (fun _ k => XS.iconst X133.here hx rfl (hb hby at_391) k) ?_
                                show Wlk p.tables e below (T133.setTop (mkF m 392 #[iv p1, iv p2, rv b1, rv b19, rv b38, iv v61, iv v64, iv v67, rv b68, iv v108, iv v112, iv v116, iv v120] [(.int (1 : Int32))])) K
                                refine Wlk.of (fun _ k => XS.goto X133.here hx rfl (pc0 := 392) (pc' := 396) rfl (hb hby at_392) (by decide) (by decide) k) ?_
                                show Wlk p.tables e below (T133.setTop (mkF m 396 #[iv p1, iv p2, rv b1, rv b19, rv b38, iv v61, iv v64, iv v67, rv b68, iv v108, iv v112, iv v116, iv v120] [(.int (1 : Int32))])) K
                                refine hK (some (.int (1 : Int32))) X133 (fun q => by cases q) (fun fs hr => retN X133 hx (t := .boolean) hret (by simp) (hb hby at_396) hr) ?_ (by decide) (by decide)
                                rw [show T133.heap = h119 from hh133]
                                exact ⟨rfl, N134⟩
                              by_cases hc135 : v67 = (0 : Int32)
                              · refine Wlk.of (fun _ k => XS.ifYes X118.here hx rfl (pc0 := 312) (pc' := 324) rfl (hb hby at_312) rfl ((if0 _ _).trans (teq hc135).1) (by decide) (by decide) k) ?_
                                show Wlk p.tables e below (T118.setTop (mkF m 324 #[iv p1, iv p2, rv b1, rv b19, rv b38, iv v61, iv v64, iv v67, rv b68, iv v108, iv v112, iv v116, un] [(.int (j117_0 + j118_0))])) K
                                refine Wlk.of (fun _ k => XS.iconst X118.here hx rfl (hb hby at_324) k) ?_
                                show Wlk p.tables e below (T118.setTop (mkF m 325 #[iv p1, iv p2, rv b1, rv b19, rv b38, iv v61, iv v64, iv v67, rv b68, iv v108, iv v112, iv v116, un] [(.int (0 : Int32)), (.int (j117_0 + j118_0))])) K
                                exact J119 _ _ _ (0 : Int32) (by rw [if_pos hc135]) (X118.more (by decide) (by decide)) e118 N118 K118 z118_0 z118_1 z118_2 z118_3 z118_4 z118_5 z118_6 z118_7 z118_8 z118_9 z118_10 z118_11
                              · refine Wlk.of (fun _ k => XS.ifNo X118.here hx rfl (hb hby at_312) rfl ((if0 _ _).trans (feq hc135).1) k) ?_
                                show Wlk p.tables e below (T118.setTop (mkF m 315 #[iv p1, iv p2, rv b1, rv b19, rv b38, iv v61, iv v64, iv v67, rv b68, iv v108, iv v112, iv v116, un] [(.int (j117_0 + j118_0))])) K
                                refine Wlk.of (fun _ k => XS.iloadN X118.here hx rfl (hb hby at_315) rfl k) ?_
                                show Wlk p.tables e below (T118.setTop (mkF m 316 #[iv p1, iv p2, rv b1, rv b19, rv b38, iv v61, iv v64, iv v67, rv b68, iv v108, iv v112, iv v116, un] [(.int p1), (.int (j117_0 + j118_0))])) K
                                refine Wlk.of (fun _ k => XS.bipush X118.here hx rfl (hb hby at_316) k) ?_
                                show Wlk p.tables e below (T118.setTop (mkF m 318 #[iv p1, iv p2, rv b1, rv b19, rv b38, iv v61, iv v64, iv v67, rv b68, iv v108, iv v112, iv v116, un] [(.int (8 : Int32)), (.int p1), (.int (j117_0 + j118_0))])) K
                                obtain ⟨v136, T136, L136, X136, q136, st136⟩ := Ctr.static (rmO l Z a0 hw p1 (8 : Int32) h118 n0 (Nat.le_trans Z0 K118.1) ) X118 hx hZ e118 hown (wd hw 28 rfl) (wd hw 29 rfl) (wd hw 3 rfl) (wd hw 30 rfl) (by decide) pd_150 (g := (mkF m 318 #[iv p1, iv p2, rv b1, rv b19, rv b38, iv v61, iv v64, iv v67, rv b68, iv v108, iv v112, iv v116, un] [(.int (8 : Int32)), (.int p1), (.int (j117_0 + j118_0))])) rfl (by rw [hml]; rfl) (argsL := [(.int p1), (.int (8 : Int32))]) (rest := [(.int (j117_0 + j118_0))]) rfl rfl rfl (W := 1) (by show 2 * 0 + _ ≤ _; exact Nat.le_of_eq rfl) (by decide) (by decide) (hb hby at_318) (by decide) (by decide)
                                obtain ⟨rfl, N136q, hh136⟩ := q136
                                have N137 := Fr.app N118 N136q
                                refine Wlk.of (fun _ k => st136 _ k) ?_
                                show Wlk p.tables e below (T136.setTop (mkF m 321 #[iv p1, iv p2, rv b1, rv b19, rv b38, iv v61, iv v64, iv v67, rv b68, iv v108, iv v112, iv v116, un] [(.int (((p1.toUInt32 >>> ((8 : Int32) &&& 31).toUInt32).toInt32) &&& (1 : Int32))), (.int (j117_0 + j118_0))])) K
                                rw [he8]
                                refine Wlk.of (fun _ k => XS.goto X136.here hx rfl (pc0 := 321) (pc' := 325) rfl (hb hby at_321) (by decide) (by decide) k) ?_
                                show Wlk p.tables e below (T136.setTop (mkF m 325 #[iv p1, iv p2, rv b1, rv b19, rv b38, iv v61, iv v64, iv v67, rv b68, iv v108, iv v112, iv v116, un] [(.int e8), (.int (j117_0 + j118_0))])) K
                                exact J119 _ _ _ e8 (by rw [if_neg hc135]) (X136.more (by decide) (by decide)) hh136 N137 K118 z118_0 z118_1 z118_2 z118_3 z118_4 z118_5 z118_6 z118_7 z118_8 z118_9 z118_10 z118_11
                            by_cases hc138 : v64 = (0 : Int32)
                            · refine Wlk.of (fun _ k => XS.ifYes X117.here hx rfl (pc0 := 297) (pc' := 308) rfl (hb hby at_297) rfl ((if0 _ _).trans (teq hc138).1) (by decide) (by decide) k) ?_
                              show Wlk p.tables e below (T117.setTop (mkF m 308 #[iv p1, iv p2, rv b1, rv b19, rv b38, iv v61, iv v64, iv v67, rv b68, iv v108, iv v112, iv v116, un] [(.int j117_0)])) K
                              refine Wlk.of (fun _ k => XS.iconst X117.here hx rfl (hb hby at_308) k) ?_
                              show Wlk p.tables e below (T117.setTop (mkF m 309 #[iv p1, iv p2, rv b1, rv b19, rv b38, iv v61, iv v64, iv v67, rv b68, iv v108, iv v112, iv v116, un] [(.int (0 : Int32)), (.int j117_0)])) K
                              exact J118 _ _ _ (0 : Int32) (by rw [if_pos hc138]) (X117.more (by decide) (by decide)) e117 N117 K117 z117_0 z117_1 z117_2 z117_3 z117_4 z117_5 z117_6 z117_7 z117_8 z117_9 z117_10 z117_11
                            · refine Wlk.of (fun _ k => XS.ifNo X117.here hx rfl (hb hby at_297) rfl ((if0 _ _).trans (feq hc138).1) k) ?_
                              show Wlk p.tables e below (T117.setTop (mkF m 300 #[iv p1, iv p2, rv b1, rv b19, rv b38, iv v61, iv v64, iv v67, rv b68, iv v108, iv v112, iv v116, un] [(.int j117_0)])) K
                              refine Wlk.of (fun _ k => XS.iloadN X117.here hx rfl (hb hby at_300) rfl k) ?_
                              show Wlk p.tables e below (T117.setTop (mkF m 301 #[iv p1, iv p2, rv b1, rv b19, rv b38, iv v61, iv v64, iv v67, rv b68, iv v108, iv v112, iv v116, un] [(.int p1), (.int j117_0)])) K
                              refine Wlk.of (fun _ k => XS.iconst X117.here hx rfl (hb hby at_301) k) ?_
                              show Wlk p.tables e below (T117.setTop (mkF m 302 #[iv p1, iv p2, rv b1, rv b19, rv b38, iv v61, iv v64, iv v67, rv b68, iv v108, iv v112, iv v116, un] [(.int (5 : Int32)), (.int p1), (.int j117_0)])) K
                              obtain ⟨v139, T139, L139, X139, q139, st139⟩ := Ctr.static (rmO l Z a0 hw p1 (5 : Int32) h117 n0 (Nat.le_trans Z0 K117.1) ) X117 hx hZ e117 hown (wd hw 28 rfl) (wd hw 29 rfl) (wd hw 3 rfl) (wd hw 30 rfl) (by decide) pd_150 (g := (mkF m 302 #[iv p1, iv p2, rv b1, rv b19, rv b38, iv v61, iv v64, iv v67, rv b68, iv v108, iv v112, iv v116, un] [(.int (5 : Int32)), (.int p1), (.int j117_0)])) rfl (by rw [hml]; rfl) (argsL := [(.int p1), (.int (5 : Int32))]) (rest := [(.int j117_0)]) rfl rfl rfl (W := 1) (by show 2 * 0 + _ ≤ _; exact Nat.le_of_eq rfl) (by decide) (by decide) (hb hby at_302) (by decide) (by decide)
                              obtain ⟨rfl, N139q, hh139⟩ := q139
                              have N140 := Fr.app N117 N139q
                              refine Wlk.of (fun _ k => st139 _ k) ?_
                              show Wlk p.tables e below (T139.setTop (mkF m 305 #[iv p1, iv p2, rv b1, rv b19, rv b38, iv v61, iv v64, iv v67, rv b68, iv v108, iv v112, iv v116, un] [(.int (((p1.toUInt32 >>> ((5 : Int32) &&& 31).toUInt32).toInt32) &&& (1 : Int32))), (.int j117_0)])) K
                              rw [he5]
                              refine Wlk.of (fun _ k => XS.goto X139.here hx rfl (pc0 := 305) (pc' := 309) rfl (hb hby at_305) (by decide) (by decide) k) ?_
                              show Wlk p.tables e below (T139.setTop (mkF m 309 #[iv p1, iv p2, rv b1, rv b19, rv b38, iv v61, iv v64, iv v67, rv b68, iv v108, iv v112, iv v116, un] [(.int e5), (.int j117_0)])) K
                              exact J118 _ _ _ e5 (by rw [if_neg hc138]) (X139.more (by decide) (by decide)) hh139 N140 K117 z117_0 z117_1 z117_2 z117_3 z117_4 z117_5 z117_6 z117_7 z117_8 z117_9 z117_10 z117_11
                          by_cases hc141 : v61 = (0 : Int32)
                          · refine Wlk.of (fun _ k => XS.ifYes X115.here hx rfl (pc0 := 283) (pc' := 294) rfl (hb hby at_283) rfl ((if0 _ _).trans (teq hc141).1) (by decide) (by decide) k) ?_
                            show Wlk p.tables e below (T115.setTop (mkF m 294 #[iv p1, iv p2, rv b1, rv b19, rv b38, iv v61, iv v64, iv v67, rv b68, iv v108, iv v112, iv v116, un] [])) K
                            refine Wlk.of (fun _ k => XS.iconst X115.here hx rfl (hb hby at_294) k) ?_
                            show Wlk p.tables e below (T115.setTop (mkF m 295 #[iv p1, iv p2, rv b1, rv b19, rv b38, iv v61, iv v64, iv v67, rv b68, iv v108, iv v112, iv v116, un] [(.int (0 : Int32))])) K
                            exact J117 _ _ _ (0 : Int32) (by rw [if_pos hc141]) (X115.more (by decide) (by decide)) e115 N115 K115 z115_0 z115_1 z115_2 z115_3 z115_4 z115_5 z115_6 z115_7 z115_8 z115_9 z115_10 z115_11
                          · refine Wlk.of (fun _ k => XS.ifNo X115.here hx rfl (hb hby at_283) rfl ((if0 _ _).trans (feq hc141).1) k) ?_
                            show Wlk p.tables e below (T115.setTop (mkF m 286 #[iv p1, iv p2, rv b1, rv b19, rv b38, iv v61, iv v64, iv v67, rv b68, iv v108, iv v112, iv v116, un] [])) K
                            refine Wlk.of (fun _ k => XS.iloadN X115.here hx rfl (hb hby at_286) rfl k) ?_
                            show Wlk p.tables e below (T115.setTop (mkF m 287 #[iv p1, iv p2, rv b1, rv b19, rv b38, iv v61, iv v64, iv v67, rv b68, iv v108, iv v112, iv v116, un] [(.int p1)])) K
                            refine Wlk.of (fun _ k => XS.iconst X115.here hx rfl (hb hby at_287) k) ?_
                            show Wlk p.tables e below (T115.setTop (mkF m 288 #[iv p1, iv p2, rv b1, rv b19, rv b38, iv v61, iv v64, iv v67, rv b68, iv v108, iv v112, iv v116, un] [(.int (2 : Int32)), (.int p1)])) K
                            obtain ⟨v142, T142, L142, X142, q142, st142⟩ := Ctr.static (rmO l Z a0 hw p1 (2 : Int32) h115 n0 (Nat.le_trans Z0 K115.1) ) X115 hx hZ e115 hown (wd hw 28 rfl) (wd hw 29 rfl) (wd hw 3 rfl) (wd hw 30 rfl) (by decide) pd_150 (g := (mkF m 288 #[iv p1, iv p2, rv b1, rv b19, rv b38, iv v61, iv v64, iv v67, rv b68, iv v108, iv v112, iv v116, un] [(.int (2 : Int32)), (.int p1)])) rfl (by rw [hml]; rfl) (argsL := [(.int p1), (.int (2 : Int32))]) (rest := []) rfl rfl rfl (W := 0) (by show 2 * 0 + _ ≤ _; exact Nat.le_of_eq rfl) (by decide) (by decide) (hb hby at_288) (by decide) (by decide)
                            obtain ⟨rfl, N142q, hh142⟩ := q142
                            have N143 := Fr.app N115 N142q
                            refine Wlk.of (fun _ k => st142 _ k) ?_
                            show Wlk p.tables e below (T142.setTop (mkF m 291 #[iv p1, iv p2, rv b1, rv b19, rv b38, iv v61, iv v64, iv v67, rv b68, iv v108, iv v112, iv v116, un] [(.int (((p1.toUInt32 >>> ((2 : Int32) &&& 31).toUInt32).toInt32) &&& (1 : Int32)))])) K
                            rw [he2]
                            refine Wlk.of (fun _ k => XS.goto X142.here hx rfl (pc0 := 291) (pc' := 295) rfl (hb hby at_291) (by decide) (by decide) k) ?_
                            show Wlk p.tables e below (T142.setTop (mkF m 295 #[iv p1, iv p2, rv b1, rv b19, rv b38, iv v61, iv v64, iv v67, rv b68, iv v108, iv v112, iv v116, un] [(.int e2)])) K
                            exact J117 _ _ _ e2 (by rw [if_neg hc141]) (X142.more (by decide) (by decide)) hh142 N143 K115 z115_0 z115_1 z115_2 z115_3 z115_4 z115_5 z115_6 z115_7 z115_8 z115_9 z115_10 z115_11
                        by_cases hc144 : v67 = (0 : Int32)
                        · refine Wlk.of (fun _ k => XS.ifYes X114.here hx rfl (pc0 := 265) (pc' := 277) rfl (hb hby at_265) rfl ((if0 _ _).trans (teq hc144).1) (by decide) (by decide) k) ?_
                          show Wlk p.tables e below (T114.setTop (mkF m 277 #[iv p1, iv p2, rv b1, rv b19, rv b38, iv v61, iv v64, iv v67, rv b68, iv v108, iv v112, un, un] [(.int (j113_0 + j114_0))])) K
                          refine Wlk.of (fun _ k => XS.iconst X114.here hx rfl (hb hby at_277) k) ?_
                          show Wlk p.tables e below (T114.setTop (mkF m 278 #[iv p1, iv p2, rv b1, rv b19, rv b38, iv v61, iv v64, iv v67, rv b68, iv v108, iv v112, un, un] [(.int (0 : Int32)), (.int (j113_0 + j114_0))])) K
                          exact J115 _ _ _ (0 : Int32) (by rw [if_pos hc144]) (X114.more (by decide) (by decide)) e114 N114 K114 z114_0 z114_1 z114_2 z114_3 z114_4 z114_5 z114_6 z114_7 z114_8 z114_9 z114_10 z114_11
                        · refine Wlk.of (fun _ k => XS.ifNo X114.here hx rfl (hb hby at_265) rfl ((if0 _ _).trans (feq hc144).1) k) ?_
                          show Wlk p.tables e below (T114.setTop (mkF m 268 #[iv p1, iv p2, rv b1, rv b19, rv b38, iv v61, iv v64, iv v67, rv b68, iv v108, iv v112, un, un] [(.int (j113_0 + j114_0))])) K
                          refine Wlk.of (fun _ k => XS.iloadN X114.here hx rfl (hb hby at_268) rfl k) ?_
                          show Wlk p.tables e below (T114.setTop (mkF m 269 #[iv p1, iv p2, rv b1, rv b19, rv b38, iv v61, iv v64, iv v67, rv b68, iv v108, iv v112, un, un] [(.int p1), (.int (j113_0 + j114_0))])) K
                          refine Wlk.of (fun _ k => XS.bipush X114.here hx rfl (hb hby at_269) k) ?_
                          show Wlk p.tables e below (T114.setTop (mkF m 271 #[iv p1, iv p2, rv b1, rv b19, rv b38, iv v61, iv v64, iv v67, rv b68, iv v108, iv v112, un, un] [(.int (7 : Int32)), (.int p1), (.int (j113_0 + j114_0))])) K
                          obtain ⟨v145, T145, L145, X145, q145, st145⟩ := Ctr.static (rmO l Z a0 hw p1 (7 : Int32) h114 n0 (Nat.le_trans Z0 K114.1) ) X114 hx hZ e114 hown (wd hw 28 rfl) (wd hw 29 rfl) (wd hw 3 rfl) (wd hw 30 rfl) (by decide) pd_150 (g := (mkF m 271 #[iv p1, iv p2, rv b1, rv b19, rv b38, iv v61, iv v64, iv v67, rv b68, iv v108, iv v112, un, un] [(.int (7 : Int32)), (.int p1), (.int (j113_0 + j114_0))])) rfl (by rw [hml]; rfl) (argsL := [(.int p1), (.int (7 : Int32))]) (rest := [(.int (j113_0 + j114_0))]) rfl rfl rfl (W := 1) (by show 2 * 0 + _ ≤ _; exact Nat.le_of_eq rfl) (by decide) (by decide) (hb hby at_271) (by decide) (by decide)
                          obtain ⟨rfl, N145q, hh145⟩ := q145
                          have N146 := Fr.app N114 N145q
                          refine Wlk.of (fun _ k => st145 _ k) ?_
                          show Wlk p.tables e below (T145.setTop (mkF m 274 #[iv p1, iv p2, rv b1, rv b19, rv b38, iv v61, iv v64, iv v67, rv b68, iv v108, iv v112, un, un] [(.int (((p1.toUInt32 >>> ((7 : Int32) &&& 31).toUInt32).toInt32) &&& (1 : Int32))), (.int (j113_0 + j114_0))])) K
                          rw [he7]
                          refine Wlk.of (fun _ k => XS.goto X145.here hx rfl (pc0 := 274) (pc' := 278) rfl (hb hby at_274) (by decide) (by decide) k) ?_
                          show Wlk p.tables e below (T145.setTop (mkF m 278 #[iv p1, iv p2, rv b1, rv b19, rv b38, iv v61, iv v64, iv v67, rv b68, iv v108, iv v112, un, un] [(.int e7), (.int (j113_0 + j114_0))])) K
                          exact J115 _ _ _ e7 (by rw [if_neg hc144]) (X145.more (by decide) (by decide)) hh145 N146 K114 z114_0 z114_1 z114_2 z114_3 z114_4 z114_5 z114_6 z114_7 z114_8 z114_9 z114_10 z114_11
                      by_cases hc147 : v64 = (0 : Int32)
                      · refine Wlk.of (fun _ k => XS.ifYes X113.here hx rfl (pc0 := 250) (pc' := 261) rfl (hb hby at_250) rfl ((if0 _ _).trans (teq hc147).1) (by decide) (by decide) k) ?_
                        show Wlk p.tables e below (T113.setTop (mkF m 261 #[iv p1, iv p2, rv b1, rv b19, rv b38, iv v61, iv v64, iv v67, rv b68, iv v108, iv v112, un, un] [(.int j113_0)])) K
                        refine Wlk.of (fun _ k => XS.iconst X113.here hx rfl (hb hby at_261) k) ?_
                        show Wlk p.tables e below (T113.setTop (mkF m 262 #[iv p1, iv p2, rv b1, rv b19, rv b38, iv v61, iv v64, iv v67, rv b68, iv v108, iv v112, un, un] [(.int (0 : Int32)), (.int j113_0)])) K
                        exact J114 _ _ _ (0 : Int32) (by rw [if_pos hc147]) (X113.more (by decide) (by decide)) e113 N113 K113 z113_0 z113_1 z113_2 z113_3 z113_4 z113_5 z113_6 z113_7 z113_8 z113_9 z113_10 z113_11
                      · refine Wlk.of (fun _ k => XS.ifNo X113.here hx rfl (hb hby at_250) rfl ((if0 _ _).trans (feq hc147).1) k) ?_
                        show Wlk p.tables e below (T113.setTop (mkF m 253 #[iv p1, iv p2, rv b1, rv b19, rv b38, iv v61, iv v64, iv v67, rv b68, iv v108, iv v112, un, un] [(.int j113_0)])) K
                        refine Wlk.of (fun _ k => XS.iloadN X113.here hx rfl (hb hby at_253) rfl k) ?_
                        show Wlk p.tables e below (T113.setTop (mkF m 254 #[iv p1, iv p2, rv b1, rv b19, rv b38, iv v61, iv v64, iv v67, rv b68, iv v108, iv v112, un, un] [(.int p1), (.int j113_0)])) K
                        refine Wlk.of (fun _ k => XS.iconst X113.here hx rfl (hb hby at_254) k) ?_
                        show Wlk p.tables e below (T113.setTop (mkF m 255 #[iv p1, iv p2, rv b1, rv b19, rv b38, iv v61, iv v64, iv v67, rv b68, iv v108, iv v112, un, un] [(.int (4 : Int32)), (.int p1), (.int j113_0)])) K
                        obtain ⟨v148, T148, L148, X148, q148, st148⟩ := Ctr.static (rmO l Z a0 hw p1 (4 : Int32) h113 n0 (Nat.le_trans Z0 K113.1) ) X113 hx hZ e113 hown (wd hw 28 rfl) (wd hw 29 rfl) (wd hw 3 rfl) (wd hw 30 rfl) (by decide) pd_150 (g := (mkF m 255 #[iv p1, iv p2, rv b1, rv b19, rv b38, iv v61, iv v64, iv v67, rv b68, iv v108, iv v112, un, un] [(.int (4 : Int32)), (.int p1), (.int j113_0)])) rfl (by rw [hml]; rfl) (argsL := [(.int p1), (.int (4 : Int32))]) (rest := [(.int j113_0)]) rfl rfl rfl (W := 1) (by show 2 * 0 + _ ≤ _; exact Nat.le_of_eq rfl) (by decide) (by decide) (hb hby at_255) (by decide) (by decide)
                        obtain ⟨rfl, N148q, hh148⟩ := q148
                        have N149 := Fr.app N113 N148q
                        refine Wlk.of (fun _ k => st148 _ k) ?_
                        show Wlk p.tables e below (T148.setTop (mkF m 258 #[iv p1, iv p2, rv b1, rv b19, rv b38, iv v61, iv v64, iv v67, rv b68, iv v108, iv v112, un, un] [(.int (((p1.toUInt32 >>> ((4 : Int32) &&& 31).toUInt32).toInt32) &&& (1 : Int32))), (.int j113_0)])) K
                        rw [he4]
                        refine Wlk.of (fun _ k => XS.goto X148.here hx rfl (pc0 := 258) (pc' := 262) rfl (hb hby at_258) (by decide) (by decide) k) ?_
                        show Wlk p.tables e below (T148.setTop (mkF m 262 #[iv p1, iv p2, rv b1, rv b19, rv b38, iv v61, iv v64, iv v67, rv b68, iv v108, iv v112, un, un] [(.int e4), (.int j113_0)])) K
                        exact J114 _ _ _ e4 (by rw [if_neg hc147]) (X148.more (by decide) (by decide)) hh148 N149 K113 z113_0 z113_1 z113_2 z113_3 z113_4 z113_5 z113_6 z113_7 z113_8 z113_9 z113_10 z113_11
                    by_cases hc150 : v61 = (0 : Int32)
                    · refine Wlk.of (fun _ k => XS.ifYes X111.here hx rfl (pc0 := 236) (pc' := 247) rfl (hb hby at_236) rfl ((if0 _ _).trans (teq hc150).1) (by decide) (by decide) k) ?_
                      show Wlk p.tables e below (T111.setTop (mkF m 247 #[iv p1, iv p2, rv b1, rv b19, rv b38, iv v61, iv v64, iv v67, rv b68, iv v108, iv v112, un, un] [])) K
                      refine Wlk.of (fun _ k => XS.iconst X111.here hx rfl (hb hby at_247) k) ?_
                      show Wlk p.tables e below (T111.setTop (mkF m 248 #[iv p1, iv p2, rv b1, rv b19, rv b38, iv v61, iv v64, iv v67, rv b68, iv v108, iv v112, un, un] [(.int (0 : Int32))])) K
                      exact J113 _ _ _ (0 : Int32) (by rw [if_pos hc150]) (X111.more (by decide) (by decide)) e111 N111 K111 z111_0 z111_1 z111_2 z111_3 z111_4 z111_5 z111_6 z111_7 z111_8 z111_9 z111_10 z111_11
                    · refine Wlk.of (fun _ k => XS.ifNo X111.here hx rfl (hb hby at_236) rfl ((if0 _ _).trans (feq hc150).1) k) ?_
                      show Wlk p.tables e below (T111.setTop (mkF m 239 #[iv p1, iv p2, rv b1, rv b19, rv b38, iv v61, iv v64, iv v67, rv b68, iv v108, iv v112, un, un] [])) K
                      refine Wlk.of (fun _ k => XS.iloadN X111.here hx rfl (hb hby at_239) rfl k) ?_
                      show Wlk p.tables e below (T111.setTop (mkF m 240 #[iv p1, iv p2, rv b1, rv b19, rv b38, iv v61, iv v64, iv v67, rv b68, iv v108, iv v112, un, un] [(.int p1)])) K
                      refine Wlk.of (fun _ k => XS.iconst X111.here hx rfl (hb hby at_240) k) ?_
                      show Wlk p.tables e below (T111.setTop (mkF m 241 #[iv p1, iv p2, rv b1, rv b19, rv b38, iv v61, iv v64, iv v67, rv b68, iv v108, iv v112, un, un] [(.int (1 : Int32)), (.int p1)])) K
                      obtain ⟨v151, T151, L151, X151, q151, st151⟩ := Ctr.static (rmO l Z a0 hw p1 (1 : Int32) h111 n0 (Nat.le_trans Z0 K111.1) ) X111 hx hZ e111 hown (wd hw 28 rfl) (wd hw 29 rfl) (wd hw 3 rfl) (wd hw 30 rfl) (by decide) pd_150 (g := (mkF m 241 #[iv p1, iv p2, rv b1, rv b19, rv b38, iv v61, iv v64, iv v67, rv b68, iv v108, iv v112, un, un] [(.int (1 : Int32)), (.int p1)])) rfl (by rw [hml]; rfl) (argsL := [(.int p1), (.int (1 : Int32))]) (rest := []) rfl rfl rfl (W := 0) (by show 2 * 0 + _ ≤ _; exact Nat.le_of_eq rfl) (by decide) (by decide) (hb hby at_241) (by decide) (by decide)
                      obtain ⟨rfl, N151q, hh151⟩ := q151
                      have N152 := Fr.app N111 N151q
                      refine Wlk.of (fun _ k => st151 _ k) ?_
                      show Wlk p.tables e below (T151.setTop (mkF m 244 #[iv p1, iv p2, rv b1, rv b19, rv b38, iv v61, iv v64, iv v67, rv b68, iv v108, iv v112, un, un] [(.int (((p1.toUInt32 >>> ((1 : Int32) &&& 31).toUInt32).toInt32) &&& (1 : Int32)))])) K
                      rw [he1]
                      refine Wlk.of (fun _ k => XS.goto X151.here hx rfl (pc0 := 244) (pc' := 248) rfl (hb hby at_244) (by decide) (by decide) k) ?_
                      show Wlk p.tables e below (T151.setTop (mkF m 248 #[iv p1, iv p2, rv b1, rv b19, rv b38, iv v61, iv v64, iv v67, rv b68, iv v108, iv v112, un, un] [(.int e1)])) K
                      exact J113 _ _ _ e1 (by rw [if_neg hc150]) (X151.more (by decide) (by decide)) hh151 N152 K111 z111_0 z111_1 z111_2 z111_3 z111_4 z111_5 z111_6 z111_7 z111_8 z111_9 z111_10 z111_11
                  by_cases hc153 : v67 = (0 : Int32)
                  · refine Wlk.of (fun _ k => XS.ifYes X110.here hx rfl (pc0 := 218) (pc' := 230) rfl (hb hby at_218) rfl ((if0 _ _).trans (teq hc153).1) (by decide) (by decide) k) ?_
                    show Wlk p.tables e below (T110.setTop (mkF m 230 #[iv p1, iv p2, rv b1, rv b19, rv b38, iv v61, iv v64, iv v67, rv b68, iv v108, un, un, un] [(.int (j109_0 + j110_0))])) K
                    refine Wlk.of (fun _ k => XS.iconst X110.here hx rfl (hb hby at_230) k) ?_
                    show Wlk p.tables e below (T110.setTop (mkF m 231 #[iv p1, iv p2, rv b1, rv b19, rv b38, iv v61, iv v64, iv v67, rv b68, iv v108, un, un, un] [(.int (0 : Int32)), (.int (j109_0 + j110_0))])) K
                    exact J111 _ _ _ (0 : Int32) (by rw [if_pos hc153]) (X110.more (by decide) (by decide)) e110 N110 K110 z110_0 z110_1 z110_2 z110_3 z110_4 z110_5 z110_6 z110_7 z110_8 z110_9 z110_10 z110_11
                  · refine Wlk.of (fun _ k => XS.ifNo X110.here hx rfl (hb hby at_218) rfl ((if0 _ _).trans (feq hc153).1) k) ?_
                    show Wlk p.tables e below (T110.setTop (mkF m 221 #[iv p1, iv p2, rv b1, rv b19, rv b38, iv v61, iv v64, iv v67, rv b68, iv v108, un, un, un] [(.int (j109_0 + j110_0))])) K
                    refine Wlk.of (fun _ k => XS.iloadN X110.here hx rfl (hb hby at_221) rfl k) ?_
                    show Wlk p.tables e below (T110.setTop (mkF m 222 #[iv p1, iv p2, rv b1, rv b19, rv b38, iv v61, iv v64, iv v67, rv b68, iv v108, un, un, un] [(.int p1), (.int (j109_0 + j110_0))])) K
                    refine Wlk.of (fun _ k => XS.bipush X110.here hx rfl (hb hby at_222) k) ?_
                    show Wlk p.tables e below (T110.setTop (mkF m 224 #[iv p1, iv p2, rv b1, rv b19, rv b38, iv v61, iv v64, iv v67, rv b68, iv v108, un, un, un] [(.int (6 : Int32)), (.int p1), (.int (j109_0 + j110_0))])) K
                    obtain ⟨v154, T154, L154, X154, q154, st154⟩ := Ctr.static (rmO l Z a0 hw p1 (6 : Int32) h110 n0 (Nat.le_trans Z0 K110.1) ) X110 hx hZ e110 hown (wd hw 28 rfl) (wd hw 29 rfl) (wd hw 3 rfl) (wd hw 30 rfl) (by decide) pd_150 (g := (mkF m 224 #[iv p1, iv p2, rv b1, rv b19, rv b38, iv v61, iv v64, iv v67, rv b68, iv v108, un, un, un] [(.int (6 : Int32)), (.int p1), (.int (j109_0 + j110_0))])) rfl (by rw [hml]; rfl) (argsL := [(.int p1), (.int (6 : Int32))]) (rest := [(.int (j109_0 + j110_0))]) rfl rfl rfl (W := 1) (by show 2 * 0 + _ ≤ _; exact Nat.le_of_eq rfl) (by decide) (by decide) (hb hby at_224) (by decide) (by decide)
                    obtain ⟨rfl, N154q, hh154⟩ := q154
                    have N155 := Fr.app N110 N154q
                    refine Wlk.of (fun _ k => st154 _ k) ?_
                    show Wlk p.tables e below (T154.setTop (mkF m 227 #[iv p1, iv p2, rv b1, rv b19, rv b38, iv v61, iv v64, iv v67, rv b68, iv v108, un, un, un] [(.int (((p1.toUInt32 >>> ((6 : Int32) &&& 31).toUInt32).toInt32) &&& (1 : Int32))), (.int (j109_0 + j110_0))])) K
                    rw [he6]
                    refine Wlk.of (fun _ k => XS.goto X154.here hx rfl (pc0 := 227) (pc' := 231) rfl (hb hby at_227) (by decide) (by decide) k) ?_
                    show Wlk p.tables e below (T154.setTop (mkF m 231 #[iv p1, iv p2, rv b1, rv b19, rv b38, iv v61, iv v64, iv v67, rv b68, iv v108, un, un, un] [(.int e6), (.int (j109_0 + j110_0))])) K
                    exact J111 _ _ _ e6 (by rw [if_neg hc153]) (X154.more (by decide) (by decide)) hh154 N155 K110 z110_0 z110_1 z110_2 z110_3 z110_4 z110_5 z110_6 z110_7 z110_8 z110_9 z110_10 z110_11
                by_cases hc156 : v64 = (0 : Int32)
                · refine Wlk.of (fun _ k => XS.ifYes X109.here hx rfl (pc0 := 203) (pc' := 214) rfl (hb hby at_203) rfl ((if0 _ _).trans (teq hc156).1) (by decide) (by decide) k) ?_
                  show Wlk p.tables e below (T109.setTop (mkF m 214 #[iv p1, iv p2, rv b1, rv b19, rv b38, iv v61, iv v64, iv v67, rv b68, iv v108, un, un, un] [(.int j109_0)])) K
                  refine Wlk.of (fun _ k => XS.iconst X109.here hx rfl (hb hby at_214) k) ?_
                  show Wlk p.tables e below (T109.setTop (mkF m 215 #[iv p1, iv p2, rv b1, rv b19, rv b38, iv v61, iv v64, iv v67, rv b68, iv v108, un, un, un] [(.int (0 : Int32)), (.int j109_0)])) K
                  exact J110 _ _ _ (0 : Int32) (by rw [if_pos hc156]) (X109.more (by decide) (by decide)) e109 N109 K109 z109_0 z109_1 z109_2 z109_3 z109_4 z109_5 z109_6 z109_7 z109_8 z109_9 z109_10 z109_11
                · refine Wlk.of (fun _ k => XS.ifNo X109.here hx rfl (hb hby at_203) rfl ((if0 _ _).trans (feq hc156).1) k) ?_
                  show Wlk p.tables e below (T109.setTop (mkF m 206 #[iv p1, iv p2, rv b1, rv b19, rv b38, iv v61, iv v64, iv v67, rv b68, iv v108, un, un, un] [(.int j109_0)])) K
                  refine Wlk.of (fun _ k => XS.iloadN X109.here hx rfl (hb hby at_206) rfl k) ?_
                  show Wlk p.tables e below (T109.setTop (mkF m 207 #[iv p1, iv p2, rv b1, rv b19, rv b38, iv v61, iv v64, iv v67, rv b68, iv v108, un, un, un] [(.int p1), (.int j109_0)])) K
                  refine Wlk.of (fun _ k => XS.iconst X109.here hx rfl (hb hby at_207) k) ?_
                  show Wlk p.tables e below (T109.setTop (mkF m 208 #[iv p1, iv p2, rv b1, rv b19, rv b38, iv v61, iv v64, iv v67, rv b68, iv v108, un, un, un] [(.int (3 : Int32)), (.int p1), (.int j109_0)])) K
                  obtain ⟨v157, T157, L157, X157, q157, st157⟩ := Ctr.static (rmO l Z a0 hw p1 (3 : Int32) h109 n0 (Nat.le_trans Z0 K109.1) ) X109 hx hZ e109 hown (wd hw 28 rfl) (wd hw 29 rfl) (wd hw 3 rfl) (wd hw 30 rfl) (by decide) pd_150 (g := (mkF m 208 #[iv p1, iv p2, rv b1, rv b19, rv b38, iv v61, iv v64, iv v67, rv b68, iv v108, un, un, un] [(.int (3 : Int32)), (.int p1), (.int j109_0)])) rfl (by rw [hml]; rfl) (argsL := [(.int p1), (.int (3 : Int32))]) (rest := [(.int j109_0)]) rfl rfl rfl (W := 1) (by show 2 * 0 + _ ≤ _; exact Nat.le_of_eq rfl) (by decide) (by decide) (hb hby at_208) (by decide) (by decide)
                  obtain ⟨rfl, N157q, hh157⟩ := q157
                  have N158 := Fr.app N109 N157q
                  refine Wlk.of (fun _ k => st157 _ k) ?_
                  show Wlk p.tables e below (T157.setTop (mkF m 211 #[iv p1, iv p2, rv b1, rv b19, rv b38, iv v61, iv v64, iv v67, rv b68, iv v108, un, un, un] [(.int (((p1.toUInt32 >>> ((3 : Int32) &&& 31).toUInt32).toInt32) &&& (1 : Int32))), (.int j109_0)])) K
                  rw [he3]
                  refine Wlk.of (fun _ k => XS.goto X157.here hx rfl (pc0 := 211) (pc' := 215) rfl (hb hby at_211) (by decide) (by decide) k) ?_
                  show Wlk p.tables e below (T157.setTop (mkF m 215 #[iv p1, iv p2, rv b1, rv b19, rv b38, iv v61, iv v64, iv v67, rv b68, iv v108, un, un, un] [(.int e3), (.int j109_0)])) K
                  exact J110 _ _ _ e3 (by rw [if_neg hc156]) (X157.more (by decide) (by decide)) hh157 N158 K109 z109_0 z109_1 z109_2 z109_3 z109_4 z109_5 z109_6 z109_7 z109_8 z109_9 z109_10 z109_11
              by_cases hc159 : v61 = (0 : Int32)
              · refine Wlk.of (fun _ k => XS.ifYes X107.here hx rfl (pc0 := 189) (pc' := 200) rfl (hb hby at_189) rfl ((if0 _ _).trans (teq hc159).1) (by decide) (by decide) k) ?_
                show Wlk p.tables e below (T107.setTop (mkF m 200 #[iv p1, iv p2, rv b1, rv b19, rv b38, iv v61, iv v64, iv v67, rv b68, iv v108, un, un, un] [])) K
                refine Wlk.of (fun _ k => XS.iconst X107.here hx rfl (hb hby at_200) k) ?_
                show Wlk p.tables e below (T107.setTop (mkF m 201 #[iv p1, iv p2, rv b1, rv b19, rv b38, iv v61, iv v64, iv v67, rv b68, iv v108, un, un, un] [(.int (0 : Int32))])) K
                exact J109 _ _ _ (0 : Int32) (by rw [if_pos hc159]) (X107.more (by decide) (by decide)) e107 N104 K104 z104_0 z104_1 z104_2 z104_3 z104_4 z104_5 z104_6 z104_7 z104_8 z104_9 z104_10 z104_11
              · refine Wlk.of (fun _ k => XS.ifNo X107.here hx rfl (hb hby at_189) rfl ((if0 _ _).trans (feq hc159).1) k) ?_
                show Wlk p.tables e below (T107.setTop (mkF m 192 #[iv p1, iv p2, rv b1, rv b19, rv b38, iv v61, iv v64, iv v67, rv b68, iv v108, un, un, un] [])) K
                refine Wlk.of (fun _ k => XS.iloadN X107.here hx rfl (hb hby at_192) rfl k) ?_
                show Wlk p.tables e below (T107.setTop (mkF m 193 #[iv p1, iv p2, rv b1, rv b19, rv b38, iv v61, iv v64, iv v67, rv b68, iv v108, un, un, un] [(.int p1)])) K
                refine Wlk.of (fun _ k => XS.iconst X107.here hx rfl (hb hby at_193) k) ?_
                show Wlk p.tables e below (T107.setTop (mkF m 194 #[iv p1, iv p2, rv b1, rv b19, rv b38, iv v61, iv v64, iv v67, rv b68, iv v108, un, un, un] [(.int (0 : Int32)), (.int p1)])) K
                obtain ⟨v160, T160, L160, X160, q160, st160⟩ := Ctr.static (rmO l Z a0 hw p1 (0 : Int32) h104 n0 (Nat.le_trans Z0 K104.1) ) X107 hx hZ e107 hown (wd hw 28 rfl) (wd hw 29 rfl) (wd hw 3 rfl) (wd hw 30 rfl) (by decide) pd_150 (g := (mkF m 194 #[iv p1, iv p2, rv b1, rv b19, rv b38, iv v61, iv v64, iv v67, rv b68, iv v108, un, un, un] [(.int (0 : Int32)), (.int p1)])) rfl (by rw [hml]; rfl) (argsL := [(.int p1), (.int (0 : Int32))]) (rest := []) rfl rfl rfl (W := 0) (by show 2 * 0 + _ ≤ _; exact Nat.le_of_eq rfl) (by decide) (by decide) (hb hby at_194) (by decide) (by decide)
                obtain ⟨rfl, N160q, hh160⟩ := q160
                have N161 := Fr.app N104 N160q
                refine Wlk.of (fun _ k => st160 _ k) ?_
                show Wlk p.tables e below (T160.setTop (mkF m 197 #[iv p1, iv p2, rv b1, rv b19, rv b38, iv v61, iv v64, iv v67, rv b68, iv v108, un, un, un] [(.int (((p1.toUInt32 >>> ((0 : Int32) &&& 31).toUInt32).toInt32) &&& (1 : Int32)))])) K
                rw [he0]
                refine Wlk.of (fun _ k => XS.goto X160.here hx rfl (pc0 := 197) (pc' := 201) rfl (hb hby at_197) (by decide) (by decide) k) ?_
                show Wlk p.tables e below (T160.setTop (mkF m 201 #[iv p1, iv p2, rv b1, rv b19, rv b38, iv v61, iv v64, iv v67, rv b68, iv v108, un, un, un] [(.int e0)])) K
                exact J109 _ _ _ e0 (by rw [if_neg hc159]) (X160.more (by decide) (by decide)) hh160 N161 K104 z104_0 z104_1 z104_2 z104_3 z104_4 z104_5 z104_6 z104_7 z104_8 z104_9 z104_10 z104_11
            by_cases hc162 : v67 = (0 : Int32)
            · refine Wlk.of (fun _ k => XS.ifYes X106.here hx rfl (pc0 := 176) (pc' := 183) rfl (hb hby at_176) rfl ((if0 _ _).trans (teq hc162).1) (by decide) (by decide) k) ?_
              show Wlk p.tables e below (T106.setTop (mkF m 183 #[iv p1, iv p2, rv b1, rv b19, rv b38, iv v61, iv v64, iv v67, rv b68, un, un, un, un] [(.int (j105_0 + j106_0))])) K
              refine Wlk.of (fun _ k => XS.iconst X106.here hx rfl (hb hby at_183) k) ?_
              show Wlk p.tables e below (T106.setTop (mkF m 184 #[iv p1, iv p2, rv b1, rv b19, rv b38, iv v61, iv v64, iv v67, rv b68, un, un, un, un] [(.int (0 : Int32)), (.int (j105_0 + j106_0))])) K
              exact J107 _ X106 e106 _ (by rw [if_pos hc162])
            · refine Wlk.of (fun _ k => XS.ifNo X106.here hx rfl (hb hby at_176) rfl ((if0 _ _).trans (feq hc162).1) k) ?_
              show Wlk p.tables e below (T106.setTop (mkF m 179 #[iv p1, iv p2, rv b1, rv b19, rv b38, iv v61, iv v64, iv v67, rv b68, un, un, un, un] [(.int (j105_0 + j106_0))])) K
              refine Wlk.of (fun _ k => XS.iconst X106.here hx rfl (hb hby at_179) k) ?_
              show Wlk p.tables e below (T106.setTop (mkF m 180 #[iv p1, iv p2, rv b1, rv b19, rv b38, iv v61, iv v64, iv v67, rv b68, un, un, un, un] [(.int (1 : Int32)), (.int (j105_0 + j106_0))])) K
              refine Wlk.of (fun _ k => XS.goto X106.here hx rfl (pc0 := 180) (pc' := 184) rfl (hb hby at_180) (by decide) (by decide) k) ?_
              show Wlk p.tables e below (T106.setTop (mkF m 184 #[iv p1, iv p2, rv b1, rv b19, rv b38, iv v61, iv v64, iv v67, rv b68, un, un, un, un] [(.int (1 : Int32)), (.int (j105_0 + j106_0))])) K
              exact J107 _ X106 e106 _ (by rw [if_neg hc162])
          by_cases hc163 : v64 = (0 : Int32)
          · refine Wlk.of (fun _ k => XS.ifYes X105.here hx rfl (pc0 := 165) (pc' := 172) rfl (hb hby at_165) rfl ((if0 _ _).trans (teq hc163).1) (by decide) (by decide) k) ?_
            show Wlk p.tables e below (T105.setTop (mkF m 172 #[iv p1, iv p2, rv b1, rv b19, rv b38, iv v61, iv v64, iv v67, rv b68, un, un, un, un] [(.int j105_0)])) K
            refine Wlk.of (fun _ k => XS.iconst X105.here hx rfl (hb hby at_172) k) ?_
            show Wlk p.tables e below (T105.setTop (mkF m 173 #[iv p1, iv p2, rv b1, rv b19, rv b38, iv v61, iv v64, iv v67, rv b68, un, un, un, un] [(.int (0 : Int32)), (.int j105_0)])) K
            exact J106 _ X105 e105 _ (by rw [if_pos hc163])
          · refine Wlk.of (fun _ k => XS.ifNo X105.here hx rfl (hb hby at_165) rfl ((if0 _ _).trans (feq hc163).1) k) ?_
            show Wlk p.tables e below (T105.setTop (mkF m 168 #[iv p1, iv p2, rv b1, rv b19, rv b38, iv v61, iv v64, iv v67, rv b68, un, un, un, un] [(.int j105_0)])) K
            refine Wlk.of (fun _ k => XS.iconst X105.here hx rfl (hb hby at_168) k) ?_
            show Wlk p.tables e below (T105.setTop (mkF m 169 #[iv p1, iv p2, rv b1, rv b19, rv b38, iv v61, iv v64, iv v67, rv b68, un, un, un, un] [(.int (1 : Int32)), (.int j105_0)])) K
            refine Wlk.of (fun _ k => XS.goto X105.here hx rfl (pc0 := 169) (pc' := 173) rfl (hb hby at_169) (by decide) (by decide) k) ?_
            show Wlk p.tables e below (T105.setTop (mkF m 173 #[iv p1, iv p2, rv b1, rv b19, rv b38, iv v61, iv v64, iv v67, rv b68, un, un, un, un] [(.int (1 : Int32)), (.int j105_0)])) K
            exact J106 _ X105 e105 _ (by rw [if_neg hc163])
        by_cases hc164 : v61 = (0 : Int32)
        · refine Wlk.of (fun _ k => XS.ifYes X104.here hx rfl (pc0 := 155) (pc' := 162) rfl (hb hby at_155) rfl ((if0 _ _).trans (teq hc164).1) (by decide) (by decide) k) ?_
          show Wlk p.tables e below (T104.setTop (mkF m 162 #[iv p1, iv p2, rv b1, rv b19, rv b38, iv v61, iv v64, iv v67, rv b68, un, un, un, un] [])) K
          refine Wlk.of (fun _ k => XS.iconst X104.here hx rfl (hb hby at_162) k) ?_
          show Wlk p.tables e below (T104.setTop (mkF m 163 #[iv p1, iv p2, rv b1, rv b19, rv b38, iv v61, iv v64, iv v67, rv b68, un, un, un, un] [(.int (0 : Int32))])) K
          exact J105 _ X104 e104 _ (by rw [if_pos hc164])
        · refine Wlk.of (fun _ k => XS.ifNo X104.here hx rfl (hb hby at_155) rfl ((if0 _ _).trans (feq hc164).1) k) ?_
          show Wlk p.tables e below (T104.setTop (mkF m 158 #[iv p1, iv p2, rv b1, rv b19, rv b38, iv v61, iv v64, iv v67, rv b68, un, un, un, un] [])) K
          refine Wlk.of (fun _ k => XS.iconst X104.here hx rfl (hb hby at_158) k) ?_
          show Wlk p.tables e below (T104.setTop (mkF m 159 #[iv p1, iv p2, rv b1, rv b19, rv b38, iv v61, iv v64, iv v67, rv b68, un, un, un, un] [(.int (1 : Int32))])) K
          refine Wlk.of (fun _ k => XS.goto X104.here hx rfl (pc0 := 159) (pc' := 163) rfl (hb hby at_159) (by decide) (by decide) k) ?_
          show Wlk p.tables e below (T104.setTop (mkF m 163 #[iv p1, iv p2, rv b1, rv b19, rv b38, iv v61, iv v64, iv v67, rv b68, un, un, un, un] [(.int (1 : Int32))])) K
          exact J105 _ X104 e104 _ (by rw [if_neg hc164])
      by_cases hc165 : v67 = (0 : Int32)
      · refine Wlk.of (fun _ k => XS.ifYes X103.here hx rfl (pc0 := 143) (pc' := 153) rfl (hb hby at_143) rfl ((if0 _ _).trans (teq hc165).1) (by decide) (by decide) k) ?_
        show Wlk p.tables e below (T103.setTop (mkF m 153 #[iv p1, iv p2, rv b1, rv b19, rv b38, iv v61, iv v64, iv v67, rv b68, un, un, un, un] [])) K
        exact J104 _ _ _ j103_0 j103_1 j103_2 j103_3 j103_4 j103_5 j103_6 j103_7 j103_8 j103_9 j103_10 j103_11 j103_12 (by rw [if_pos hc165]) (by rw [if_pos hc165]) (by rw [if_pos hc165]) (by rw [if_pos hc165]) (X103.more (by decide) (by decide)) e103 N103 K103 z103_0 z103_1 z103_2 z103_3 z103_4 z103_5 z103_6 z103_7 z103_8 z103_9 z103_10 z103_11
      · refine Wlk.of (fun _ k => XS.ifNo X103.here hx rfl (hb hby at_143) rfl ((if0 _ _).trans (feq hc165).1) k) ?_
        show Wlk p.tables e below (T103.setTop (mkF m 146 #[iv p1, iv p2, rv b1, rv b19, rv b38, iv v61, iv v64, iv v67, rv b68, un, un, un, un] [])) K
        refine Wlk.of (fun _ k => XS.aload X103.here hx rfl (hb hby at_146) rfl rfl k) ?_
        show Wlk p.tables e below (T103.setTop (mkF m 148 #[iv p1, iv p2, rv b1, rv b19, rv b38, iv v61, iv v64, iv v67, rv b68, un, un, un, un] [(.ref b68)])) K
        refine Wlk.of (fun _ k => XS.aload X103.here hx rfl (hb hby at_148) rfl rfl k) ?_
        show Wlk p.tables e below (T103.setTop (mkF m 150 #[iv p1, iv p2, rv b1, rv b19, rv b38, iv v61, iv v64, iv v67, rv b68, un, un, un, un] [(.ref b38), (.ref b68)])) K
        obtain ⟨v166, T166, L166, X166, q166, st166⟩ := Ctr.virtual (y := (⟨"com/example/idealyze/idealyze/simulation/Tally", "add", "([Z)V"⟩ : MethodName)) (rmA l Z a0 hw b68 b38 sat_76 tog_76 t0_76 t1_76 t2_76 j103_0 e6 e7 e8 j103_1 j103_2 j103_3 j103_4 j103_5 j103_6 j103_7 j103_8 j103_9 j103_10 j103_11 j103_12 h103 n0 (Nat.le_trans Z0 K103.1) z103_3 z103_4 z103_5 z103_6 z103_2 z103_7 z103_8 z103_9 z103_10 z103_11 ne73 ne82 ne87 ne91 ne95 ne99 ne84 ne88 ne92 ne96 ne100 p76_13 p76_14 p76_15 p76_16 p76_17 p76_18 p76_19 p76_20 p76_21 p76_22 g_b68 g_sat_76 g_t0_76 g_t1_76 g_t2_76) X103 hx hZ e103 hown (wd hw 21 rfl) (wd hw 22 rfl) (notFace_of_selects (args := #[]) (mvT hZ (wd hw 24 rfl))) (wd hw 24 rfl) (wd hw 23 rfl) (wd hw 7 rfl) (wd hw 25 rfl) (by decide) z103_3 pd_149 (g := (mkF m 150 #[iv p1, iv p2, rv b1, rv b19, rv b38, iv v61, iv v64, iv v67, rv b68, un, un, un, un] [(.ref b38), (.ref b68)])) rfl (by rw [hml]; rfl) (argsL := [(.ref b38)]) (rest := []) rfl rfl rfl (W := 0) (by show 2 * 0 + _ ≤ _; exact Nat.le_of_eq rfl) (by decide) (by decide) (hb hby at_150) (by decide) (by decide)
        obtain ⟨y00_166, y01_166, y02_166, y10_166, y11_166, y12_166, y20_166, y21_166, y22_166, rfl, N166q, K166q, p166_0, p166_1, p166_2, p166_3, p166_4, p166_5, p166_6⟩ := q166
        have N167 := Fr.app N103 N166q
        refine Wlk.of (fun _ k => st166 _ k) ?_
        have K168 : Keep h0 T166.heap [] := K103.trans K166q (allS (Or.inr sz_b68) (allS (Or.inr sz_sat_76) (allS (Or.inr sz_t0_76) (allS (Or.inr sz_t1_76) (allS (Or.inr sz_t2_76) all0)))))
        show Wlk p.tables e below (T166.setTop (mkF m 153 #[iv p1, iv p2, rv b1, rv b19, rv b38, iv v61, iv v64, iv v67, rv b68, un, un, un, un] [])) K
        have f169 : Arl Z T166.heap b1 .boolean [(.int e0), (.int e1), (.int e2)] := (z103_0.keep K166q (ninS ne69 (ninS ne78 (ninS ne89 (ninS ne93 (ninS ne97 nin0))))))
        have f170 : Arl Z T166.heap b19 .boolean [(.int e3), (.int e4), (.int e5)] := (z103_1.keep K166q (ninS ne71 (ninS ne80 (ninS ne90 (ninS ne94 (ninS ne98 nin0))))))
        have f171 : Arl Z T166.heap b38 .boolean [(.int e6), (.int e7), (.int e8)] := (z103_2.keep K166q (ninS ne73 (ninS ne82 (ninS ne91 (ninS ne95 (ninS ne99 nin0))))))
        have f172 : Exa Z T166.heap b68 "com/example/idealyze/idealyze/simulation/Tally" := (z103_3.keep K166q)
        have f173 : Arl Z T166.heap tog_76 (.array .long) [(.ref t0_76), (.ref t1_76), (.ref t2_76)] := (z103_8.keep K166q (ninS (Ne.symm ne88) (ninS (Ne.symm p76_13) (ninS p76_17 (ninS p76_18 (ninS p76_19 nin0))))))
        exact J104 _ _ _ (j103_0 + (1 : Int64)) (if e6 = (0 : Int32) then j103_1 else (j103_1 + (1 : Int64))) (if e7 = (0 : Int32) then j103_2 else (j103_2 + (1 : Int64))) (if e8 = (0 : Int32) then j103_3 else (j103_3 + (1 : Int64))) y00_166 y01_166 y02_166 y10_166 y11_166 y12_166 y20_166 y21_166 y22_166 (by rw [if_neg hc165]) (by rw [if_neg hc165]) (by rw [if_neg hc165]) (by rw [if_neg hc165]) (X166.more (by decide) (by decide)) rfl N167 K168 f169 f170 f171 f172 p166_0 p166_1 p166_2 p166_3 f173 p166_4 p166_5 p166_6
    by_cases hc174 : v64 = (0 : Int32)
    · refine Wlk.of (fun _ k => XS.ifYes X102.here hx rfl (pc0 := 132) (pc' := 141) rfl (hb hby at_132) rfl ((if0 _ _).trans (teq hc174).1) (by decide) (by decide) k) ?_
      show Wlk p.tables e below (T102.setTop (mkF m 141 #[iv p1, iv p2, rv b1, rv b19, rv b38, iv v61, iv v64, iv v67, rv b68, un, un, un, un] [])) K
      exact J103 _ _ _ j102_0 j102_1 j102_2 j102_3 j102_4 j102_5 j102_6 j102_7 j102_8 j102_9 j102_10 j102_11 j102_12 (by rw [if_pos hc174]) (by rw [if_pos hc174]) (by rw [if_pos hc174]) (by rw [if_pos hc174]) (X102.more (by decide) (by decide)) e102 N102 K102 z102_0 z102_1 z102_2 z102_3 z102_4 z102_5 z102_6 z102_7 z102_8 z102_9 z102_10 z102_11
    · refine Wlk.of (fun _ k => XS.ifNo X102.here hx rfl (hb hby at_132) rfl ((if0 _ _).trans (feq hc174).1) k) ?_
      show Wlk p.tables e below (T102.setTop (mkF m 135 #[iv p1, iv p2, rv b1, rv b19, rv b38, iv v61, iv v64, iv v67, rv b68, un, un, un, un] [])) K
      refine Wlk.of (fun _ k => XS.aload X102.here hx rfl (hb hby at_135) rfl rfl k) ?_
      show Wlk p.tables e below (T102.setTop (mkF m 137 #[iv p1, iv p2, rv b1, rv b19, rv b38, iv v61, iv v64, iv v67, rv b68, un, un, un, un] [(.ref b68)])) K
      refine Wlk.of (fun _ k => XS.aloadN X102.here hx rfl (hb hby at_137) rfl rfl k) ?_
      show Wlk p.tables e below (T102.setTop (mkF m 138 #[iv p1, iv p2, rv b1, rv b19, rv b38, iv v61, iv v64, iv v67, rv b68, un, un, un, un] [(.ref b19), (.ref b68)])) K
      obtain ⟨v175, T175, L175, X175, q175, st175⟩ := Ctr.virtual (y := (⟨"com/example/idealyze/idealyze/simulation/Tally", "add", "([Z)V"⟩ : MethodName)) (rmA l Z a0 hw b68 b19 sat_76 tog_76 t0_76 t1_76 t2_76 j102_0 e3 e4 e5 j102_1 j102_2 j102_3 j102_4 j102_5 j102_6 j102_7 j102_8 j102_9 j102_10 j102_11 j102_12 h102 n0 (Nat.le_trans Z0 K102.1) z102_3 z102_4 z102_5 z102_6 z102_1 z102_7 z102_8 z102_9 z102_10 z102_11 ne71 ne80 ne86 ne90 ne94 ne98 ne84 ne88 ne92 ne96 ne100 p76_13 p76_14 p76_15 p76_16 p76_17 p76_18 p76_19 p76_20 p76_21 p76_22 g_b68 g_sat_76 g_t0_76 g_t1_76 g_t2_76) X102 hx hZ e102 hown (wd hw 21 rfl) (wd hw 22 rfl) (notFace_of_selects (args := #[]) (mvT hZ (wd hw 24 rfl))) (wd hw 24 rfl) (wd hw 23 rfl) (wd hw 7 rfl) (wd hw 25 rfl) (by decide) z102_3 pd_149 (g := (mkF m 138 #[iv p1, iv p2, rv b1, rv b19, rv b38, iv v61, iv v64, iv v67, rv b68, un, un, un, un] [(.ref b19), (.ref b68)])) rfl (by rw [hml]; rfl) (argsL := [(.ref b19)]) (rest := []) rfl rfl rfl (W := 0) (by show 2 * 0 + _ ≤ _; exact Nat.le_of_eq rfl) (by decide) (by decide) (hb hby at_138) (by decide) (by decide)
      obtain ⟨y00_175, y01_175, y02_175, y10_175, y11_175, y12_175, y20_175, y21_175, y22_175, rfl, N175q, K175q, p175_0, p175_1, p175_2, p175_3, p175_4, p175_5, p175_6⟩ := q175
      have N176 := Fr.app N102 N175q
      refine Wlk.of (fun _ k => st175 _ k) ?_
      have K177 : Keep h0 T175.heap [] := K102.trans K175q (allS (Or.inr sz_b68) (allS (Or.inr sz_sat_76) (allS (Or.inr sz_t0_76) (allS (Or.inr sz_t1_76) (allS (Or.inr sz_t2_76) all0)))))
      show Wlk p.tables e below (T175.setTop (mkF m 141 #[iv p1, iv p2, rv b1, rv b19, rv b38, iv v61, iv v64, iv v67, rv b68, un, un, un, un] [])) K
      have f178 : Arl Z T175.heap b1 .boolean [(.int e0), (.int e1), (.int e2)] := (z102_0.keep K175q (ninS ne69 (ninS ne78 (ninS ne89 (ninS ne93 (ninS ne97 nin0))))))
      have f179 : Arl Z T175.heap b19 .boolean [(.int e3), (.int e4), (.int e5)] := (z102_1.keep K175q (ninS ne71 (ninS ne80 (ninS ne90 (ninS ne94 (ninS ne98 nin0))))))
      have f180 : Arl Z T175.heap b38 .boolean [(.int e6), (.int e7), (.int e8)] := (z102_2.keep K175q (ninS ne73 (ninS ne82 (ninS ne91 (ninS ne95 (ninS ne99 nin0))))))
      have f181 : Exa Z T175.heap b68 "com/example/idealyze/idealyze/simulation/Tally" := (z102_3.keep K175q)
      have f182 : Arl Z T175.heap tog_76 (.array .long) [(.ref t0_76), (.ref t1_76), (.ref t2_76)] := (z102_8.keep K175q (ninS (Ne.symm ne88) (ninS (Ne.symm p76_13) (ninS p76_17 (ninS p76_18 (ninS p76_19 nin0))))))
      exact J103 _ _ _ (j102_0 + (1 : Int64)) (if e3 = (0 : Int32) then j102_1 else (j102_1 + (1 : Int64))) (if e4 = (0 : Int32) then j102_2 else (j102_2 + (1 : Int64))) (if e5 = (0 : Int32) then j102_3 else (j102_3 + (1 : Int64))) y00_175 y01_175 y02_175 y10_175 y11_175 y12_175 y20_175 y21_175 y22_175 (by rw [if_neg hc174]) (by rw [if_neg hc174]) (by rw [if_neg hc174]) (by rw [if_neg hc174]) (X175.more (by decide) (by decide)) rfl N176 K177 f178 f179 f180 f181 p175_0 p175_1 p175_2 p175_3 f182 p175_4 p175_5 p175_6
  by_cases hc183 : v61 = (0 : Int32)
  · refine Wlk.of (fun _ k => XS.ifYes X76.here hx rfl (pc0 := 121) (pc' := 130) rfl (hb hby at_121) rfl ((if0 _ _).trans (teq hc183).1) (by decide) (by decide) k) ?_
    show Wlk p.tables e below (T76.setTop (mkF m 130 #[iv p1, iv p2, rv b1, rv b19, rv b38, iv v61, iv v64, iv v67, rv b68, un, un, un, un] [])) K
    have f184 : Arl Z T76.heap b1 .boolean [(.int e0), (.int e1), (.int e2)] := (f79.keep K76q (ninS ne69 nin0))
    have f185 : Arl Z T76.heap b19 .boolean [(.int e3), (.int e4), (.int e5)] := (f81.keep K76q (ninS ne71 nin0))
    have f186 : Arl Z T76.heap b38 .boolean [(.int e6), (.int e7), (.int e8)] := (f83.keep K76q (ninS ne73 nin0))
    have f187 : Exa Z T76.heap b68 "com/example/idealyze/idealyze/simulation/Tally" := (A68.keep K76q)
    exact J102 _ _ _ (0 : Int64) (0 : Int64) (0 : Int64) (0 : Int64) (0 : Int64) (0 : Int64) (0 : Int64) (0 : Int64) (0 : Int64) (0 : Int64) (0 : Int64) (0 : Int64) (0 : Int64) (by rw [if_pos hc183]) (by rw [if_pos hc183]) (by rw [if_pos hc183]) (by rw [if_pos hc183]) (X76.more (by decide) (by decide)) rfl N77 K101 f184 f185 f186 f187 p76_5 p76_6 p76_7 p76_8 p76_9 p76_10 p76_11 p76_12
  · refine Wlk.of (fun _ k => XS.ifNo X76.here hx rfl (hb hby at_121) rfl ((if0 _ _).trans (feq hc183).1) k) ?_
    show Wlk p.tables e below (T76.setTop (mkF m 124 #[iv p1, iv p2, rv b1, rv b19, rv b38, iv v61, iv v64, iv v67, rv b68, un, un, un, un] [])) K
    refine Wlk.of (fun _ k => XS.aload X76.here hx rfl (hb hby at_124) rfl rfl k) ?_
    show Wlk p.tables e below (T76.setTop (mkF m 126 #[iv p1, iv p2, rv b1, rv b19, rv b38, iv v61, iv v64, iv v67, rv b68, un, un, un, un] [(.ref b68)])) K
    refine Wlk.of (fun _ k => XS.aloadN X76.here hx rfl (hb hby at_126) rfl rfl k) ?_
    show Wlk p.tables e below (T76.setTop (mkF m 127 #[iv p1, iv p2, rv b1, rv b19, rv b38, iv v61, iv v64, iv v67, rv b68, un, un, un, un] [(.ref b1), (.ref b68)])) K
    have f188 : Exa Z T76.heap b68 "com/example/idealyze/idealyze/simulation/Tally" := (A68.keep K76q)
    have f189 : Arl Z T76.heap b1 .boolean [(.int e0), (.int e1), (.int e2)] := (f79.keep K76q (ninS ne69 nin0))
    obtain ⟨v190, T190, L190, X190, q190, st190⟩ := Ctr.virtual (y := (⟨"com/example/idealyze/idealyze/simulation/Tally", "add", "([Z)V"⟩ : MethodName)) (rmA l Z a0 hw b68 b1 sat_76 tog_76 t0_76 t1_76 t2_76 (0 : Int64) e0 e1 e2 (0 : Int64) (0 : Int64) (0 : Int64) (0 : Int64) (0 : Int64) (0 : Int64) (0 : Int64) (0 : Int64) (0 : Int64) (0 : Int64) (0 : Int64) (0 : Int64) T76.heap n0 (Nat.le_trans Z0 K101.1) f188 p76_5 p76_6 p76_7 f189 p76_8 p76_9 p76_10 p76_11 p76_12 ne69 ne78 ne85 ne89 ne93 ne97 ne84 ne88 ne92 ne96 ne100 p76_13 p76_14 p76_15 p76_16 p76_17 p76_18 p76_19 p76_20 p76_21 p76_22 g_b68 g_sat_76 g_t0_76 g_t1_76 g_t2_76) X76 hx hZ rfl hown (wd hw 21 rfl) (wd hw 22 rfl) (notFace_of_selects (args := #[]) (mvT hZ (wd hw 24 rfl))) (wd hw 24 rfl) (wd hw 23 rfl) (wd hw 7 rfl) (wd hw 25 rfl) (by decide) f188 pd_149 (g := (mkF m 127 #[iv p1, iv p2, rv b1, rv b19, rv b38, iv v61, iv v64, iv v67, rv b68, un, un, un, un] [(.ref b1), (.ref b68)])) rfl (by rw [hml]; rfl) (argsL := [(.ref b1)]) (rest := []) rfl rfl rfl (W := 0) (by show 2 * 0 + _ ≤ _; exact Nat.le_of_eq rfl) (by decide) (by decide) (hb hby at_127) (by decide) (by decide)
    obtain ⟨y00_190, y01_190, y02_190, y10_190, y11_190, y12_190, y20_190, y21_190, y22_190, rfl, N190q, K190q, p190_0, p190_1, p190_2, p190_3, p190_4, p190_5, p190_6⟩ := q190
    have N191 := Fr.app N77 N190q
    refine Wlk.of (fun _ k => st190 _ k) ?_
    have K192 : Keep h0 T190.heap [] := K101.trans K190q (allS (Or.inr sz_b68) (allS (Or.inr sz_sat_76) (allS (Or.inr sz_t0_76) (allS (Or.inr sz_t1_76) (allS (Or.inr sz_t2_76) all0)))))
    show Wlk p.tables e below (T190.setTop (mkF m 130 #[iv p1, iv p2, rv b1, rv b19, rv b38, iv v61, iv v64, iv v67, rv b68, un, un, un, un] [])) K
    have f193 : Arl Z T190.heap b1 .boolean [(.int e0), (.int e1), (.int e2)] := (f189.keep K190q (ninS ne69 (ninS ne78 (ninS ne89 (ninS ne93 (ninS ne97 nin0))))))
    have f194 : Arl Z T190.heap b19 .boolean [(.int e3), (.int e4), (.int e5)] := ((f81.keep K76q (ninS ne71 nin0)).keep K190q (ninS ne71 (ninS ne80 (ninS ne90 (ninS ne94 (ninS ne98 nin0))))))
    have f195 : Arl Z T190.heap b38 .boolean [(.int e6), (.int e7), (.int e8)] := ((f83.keep K76q (ninS ne73 nin0)).keep K190q (ninS ne73 (ninS ne82 (ninS ne91 (ninS ne95 (ninS ne99 nin0))))))
    have f196 : Exa Z T190.heap b68 "com/example/idealyze/idealyze/simulation/Tally" := (f188.keep K190q)
    have f197 : Arl Z T190.heap tog_76 (.array .long) [(.ref t0_76), (.ref t1_76), (.ref t2_76)] := (p76_9.keep K190q (ninS (Ne.symm ne88) (ninS (Ne.symm p76_13) (ninS p76_17 (ninS p76_18 (ninS p76_19 nin0))))))
    exact J102 _ _ _ ((0 : Int64) + (1 : Int64)) (if e0 = (0 : Int32) then (0 : Int64) else ((0 : Int64) + (1 : Int64))) (if e1 = (0 : Int32) then (0 : Int64) else ((0 : Int64) + (1 : Int64))) (if e2 = (0 : Int32) then (0 : Int64) else ((0 : Int64) + (1 : Int64))) y00_190 y01_190 y02_190 y10_190 y11_190 y12_190 y20_190 y21_190 y22_190 (by rw [if_neg hc183]) (by rw [if_neg hc183]) (by rw [if_neg hc183]) (by rw [if_neg hc183]) (X190.more (by decide) (by decide)) rfl N191 K192 f193 f194 f195 f196 p190_0 p190_1 p190_2 p190_3 f197 p190_4 p190_5 p190_6
set_option maxRecDepth 65536 in
set_option maxHeartbeats 40000000 in
theorem comes_1 {Post : Tables → Env → Array Value → State → Outcome → State → Prop} (hpost : ∀ tb e args s v u, (limb_1_1.after args s (.returned v) u = true ∧ limb_1_2.after args s (.returned v) u = true ∧ True) → FrameEnd s (.returned v) u (Jvm.fieldLocs frame_1_writes args s ++ Jvm.arrayLocs frame_1_arrays args s ++ Jvm.staticLocs frame_1_statics s) 32 128 → Post tb e args s (.returned v) u) :
    ArmFor flags0 classFile x code maxLocals ret World_1 tables_1 room_1 Calls_1 rest_1 Pre_1 Post := by
  intro l hfl _ _ p e ha hc hk s m args below hf hA hF happ hP
  obtain ⟨hcalls, hrest, hpre⟩ := hP
  obtain ⟨-, -, -, hnamed, -, -, -, hat⟩ := (Spec.applies_iff hf).mp happ
  obtain ⟨hg, hn⟩ := and_e (Cond.before_iff.mp (show (Jvm.Cond.and given_1 narrow_1).before args s = true from hpre))
  obtain ⟨g1, g2⟩ := and_e hg
  obtain ⟨g3, g4⟩ := and_e g2
  obtain ⟨w0, w1, rfl⟩ : ∃ w0 w1 : Value, args = #[w0, w1] := by
    have hs : args.size = 2 := by simpa [Cond.value, given_1] using g1
    obtain ⟨L⟩ := args
    match L, hs with
    | [w0, w1], _ => exact ⟨w0, w1, rfl⟩
  have hw := fun d (hd : d ∈ tables_1) => atoms_spec (ws := Jvm.Cond.code x code maxLocals ret :: tables_1) hat d (List.mem_cons_of_mem _ hd)
  have hfit : Fit s := fun {y c} hc i hi => by
    obtain ⟨ha, rfl⟩ := Array.getElem?_eq_some_iff.mp hc
    have q := List.all_eq_true.mp ((Array.all_eq_true_iff_forall_mem.mp hF) _ (Array.getElem_mem ha)) i (List.mem_range.mpr hi)
    simpa [Array.getElem?_eq_getElem hi] using q
  obtain ⟨i0, ei0⟩ := is_v g3
  obtain rfl : w0 = (.int i0) := Option.some.inj ei0
  obtain ⟨i1, ei1⟩ := is_v g4
  obtain rfl : w1 = (.int i1) := Option.some.inj ei1
  obtain ⟨n, o, h1, h2, h3, _, L, rfl, ⟨rfl, N⟩, hq⟩ := rm0 l s _ hw tables_1 i0 i1  s.heap s.heap.size (Nat.le_refl _)  p e ha hc hk s m _ below hf ((Spec.applies_iff_loose hf).mp happ).1 ⟨rfl, State.Warmed39.refl s, rfl⟩ trivial
  refine ⟨n, _, h1, h2, h3, hpost _ _ _ _ _ _ ⟨Cond.after_iff.mpr rfl, Cond.after_iff.mpr (eq_i res_at (Term.int_eval (1)) rfl), trivial⟩ ⟨hq.1, hq.2.1, (hq.2.2.sift fun y hy => Or.inr (N y hy)).mono (by decide) (by decide)⟩⟩
theorem main_1_1 : Claimed_1_1 := comes_1 fun _ _ _ _ _ _ h hF => ⟨h.1, hF⟩
theorem main_1_2 : Claimed_1_2 := comes_1 fun _ _ _ _ _ _ h hF => ⟨h.2.1, hF⟩
end Jvm.Pilot.@@N@@
namespace Jvm.Pilot.@@N@@
open Jvm Jvm.ClassFile Sem Op Lib Jvm.Free Jvm.Stand Jvm.Pilot.@@N@@.Jvm.D
/-! MADE BY PROGRAM (witnessworld.py) out of the Statement's table words and the real class files: 14 classes; the members and pool entries that the words name. The judged class is class 1, her method 4. -/
namespace start1
open Jvm.ClassFile
def u (s : String) : CpInfo := .utf8 (stringToUtf16 s)
/-- a pool by its gaps: so many unusable entries, then the entry; so many at the end -/
def gap : Nat → List CpInfo → List CpInfo
  | 0, r => r
  | n + 1, r => .unusable :: gap n r
def poolList (es : List (Nat × CpInfo)) (last : Nat) : List CpInfo := es.foldr (fun e r => gap e.1 (e.2 :: r)) (gap last [])
def pool (es : List (Nat × CpInfo)) (last : Nat) : Array CpInfo := ⟨poolList es last⟩
def fileOf (pool : Array CpInfo) (this : Nat) (attrs : Array Attribute := #[]) (ms : Array MethodInfo := #[]) (fl : Nat := 33) (sup : Nat := 0) (ifs : Array Nat := #[]) (fds : Array FieldInfo := #[]) : ClassFile where
  minorVersion := 0
  majorVersion := 65
  constantPool := pool
  accessFlags := fl
  thisClass := this
  superClass := sup
  interfaces := ifs
  fields := fds
  methods := ms
  attributes := attrs
def plain (name : String) (sup : Option ClassId) : Class where
  name := name
  kind := .ordinary
  loader := none
  accessFlags := 33
  super := sup
  interfaces := #[]
  cf := none
  fields := #[]
  methods := #[]
  instanceTypes := #[]
  staticTypes := #[]
  resolved := #[]
  callSites := []
  init := .initialized
  statics := none
  mirror := none

def pool0 : Array CpInfo := pool [(5, u "<init>"), (0, u "()V"), (1, .class_ 10), (1, u "java/lang/Object")] 113

def k0c0 : Code := { maxStack := 0, maxLocals := 1, code := object_method_1_code, exceptionTable := #[], attributes := #[] }
def k0m0 : Method := { name := "<init>", desc := "()V", sig := { parameters := [], returnType := none }, accessFlags := 1, code := some k0c0 }
/-- java/lang/Object -/
def k0 : Class := { plain "java/lang/Object" none with
  accessFlags := 33
  interfaces := #[]
  cf := some (fileOf pool0 8 #[] #[{ accessFlags := 1, nameIndex := 5, descriptorIndex := 6, attributes := #[] }] 33 0 #[] #[])
  fields := #[]
  methods := #[k0m0]
  instanceTypes := #[]
  staticTypes := #[]
  resolved := Array.replicate 124 none
  statics := none }

def pool1 : Array CpInfo := pool [(2, .class_ 4), (1, u "java/lang/Object"), (0, u "<init>"), (0, u "()V"), (0, .methodref 8 9), (0, .class_ 10), (0, .nameAndType 11 12), (0, u "com/example/idealyze/idealyze/simulation/TallyAddPinLaw"), (0, u "bit"), (0, u "(II)Z"), (0, .class_ 14), (0, u "com/example/idealyze/idealyze/simulation/Tally"), (0, .methodref 13 16), (0, .nameAndType 5 17), (0, u "(I)V"), (0, .methodref 13 19), (0, .nameAndType 20 21), (0, u "add"), (0, u "([Z)V"), (0, .methodref 8 23), (0, .nameAndType 24 25), (0, u "one"), (0, u "(II)I"), (0, .methodref 13 27), (0, .nameAndType 28 29), (0, u "paths"), (0, u "()J"), (0, .methodref 13 31), (0, .nameAndType 32 33), (0, u "fraction"), (0, u "(I)D"), (0, .methodref 8 35), (0, .nameAndType 36 37), (0, u "frac"), (0, u "(II)D"), (3, u "law")] 4

def k1m0 : Method := { name := "<init>", desc := "()V", sig := { parameters := [], returnType := none }, accessFlags := 1, code := none }
def k1c1 : Code := { maxStack := 2, maxLocals := 2, code := method_2_code, exceptionTable := #[], attributes := #[] }
def k1m1 : Method := { name := "bit", desc := "(II)Z", sig := { parameters := [.int, .int], returnType := some .boolean }, accessFlags := 10, code := some k1c1 }
def k1c2 : Code := { maxStack := 2, maxLocals := 2, code := method_3_code, exceptionTable := #[], attributes := #[] }
def k1m2 : Method := { name := "one", desc := "(II)I", sig := { parameters := [.int, .int], returnType := some .int }, accessFlags := 10, code := some k1c2 }
def k1c3 : Code := { maxStack := 4, maxLocals := 2, code := method_4_code, exceptionTable := #[], attributes := #[] }
def k1m3 : Method := { name := "frac", desc := "(II)D", sig := { parameters := [.int, .int], returnType := some .double }, accessFlags := 10, code := some k1c3 }
def k1c4 : Code := { maxStack := 5, maxLocals := 13, code := code, exceptionTable := #[], attributes := #[] }
def k1m4 : Method := { name := "law", desc := "(II)Z", sig := { parameters := [.int, .int], returnType := some .boolean }, accessFlags := 9, code := some k1c4 }
/-- com/example/idealyze/idealyze/simulation/TallyAddPinLaw -/
def k1 : Class := { plain "com/example/idealyze/idealyze/simulation/TallyAddPinLaw" (some 0) with
  accessFlags := 49
  interfaces := #[]
  cf := some (fileOf pool1 8 #[] #[{ accessFlags := 1, nameIndex := 5, descriptorIndex := 6, attributes := #[] }, { accessFlags := 10, nameIndex := 11, descriptorIndex := 12, attributes := #[] }, { accessFlags := 10, nameIndex := 24, descriptorIndex := 25, attributes := #[] }, { accessFlags := 10, nameIndex := 36, descriptorIndex := 37, attributes := #[] }, { accessFlags := 9, nameIndex := 41, descriptorIndex := 12, attributes := #[] }] 49 2 #[] #[])
  fields := #[]
  methods := #[k1m0, k1m1, k1m2, k1m3, k1m4]
  instanceTypes := #[]
  staticTypes := #[]
  resolved := Array.replicate 46 none
  statics := none }

def pool2 : Array CpInfo := pool [(1, .methodref 2 3), (0, .class_ 4), (0, .nameAndType 5 6), (0, u "java/lang/Object"), (0, u "<init>"), (0, u "()V"), (0, .fieldref 8 9), (0, .class_ 10), (0, .nameAndType 11 12), (0, u "com/example/idealyze/idealyze/simulation/Tally"), (0, u "satisfied"), (0, u "[J"), (0, .class_ 14), (0, u "[[J"), (0, .fieldref 8 16), (0, .nameAndType 17 14), (0, u "together"), (0, .fieldref 8 19), (0, .nameAndType 20 21), (0, u "paths"), (0, u "J"), (2, u "fraction"), (0, u "(I)D"), (0, .class_ 27), (0, u "com/example/idealyze/idealyze/simulation/Tally$Interval"), (49, u "(I)V"), (2, u "add"), (0, u "([Z)V"), (4, u "()J")] 9

def k2c0 : Code := { maxStack := 3, maxLocals := 2, code := prog_163_method_1_code, exceptionTable := #[], attributes := #[] }
def k2m0 : Method := { name := "<init>", desc := "(I)V", sig := { parameters := [.int], returnType := none }, accessFlags := 0, code := some k2c0 }
def k2c1 : Code := { maxStack := 6, maxLocals := 4, code := prog_163_method_2_code, exceptionTable := #[], attributes := #[] }
def k2m1 : Method := { name := "add", desc := "([Z)V", sig := { parameters := [(.array .boolean)], returnType := none }, accessFlags := 0, code := some k2c1 }
def k2c2 : Code := { maxStack := 2, maxLocals := 1, code := prog_163_method_3_code, exceptionTable := #[], attributes := #[] }
def k2m2 : Method := { name := "paths", desc := "()J", sig := { parameters := [], returnType := some .long }, accessFlags := 1, code := some k2c2 }
def k2c3 : Code := { maxStack := 4, maxLocals := 2, code := prog_163_method_4_code, exceptionTable := #[], attributes := #[] }
def k2m3 : Method := { name := "fraction", desc := "(I)D", sig := { parameters := [.int], returnType := some .double }, accessFlags := 1, code := some k2c3 }
/-- com/example/idealyze/idealyze/simulation/Tally -/
def k2 : Class := { plain "com/example/idealyze/idealyze/simulation/Tally" (some 0) with
  accessFlags := 33
  interfaces := #[]
  cf := some (fileOf pool2 8 #[.nestMembers #[26]] #[{ accessFlags := 0, nameIndex := 5, descriptorIndex := 77, attributes := #[] }, { accessFlags := 0, nameIndex := 80, descriptorIndex := 81, attributes := #[] }, { accessFlags := 1, nameIndex := 20, descriptorIndex := 86, attributes := #[] }, { accessFlags := 1, nameIndex := 24, descriptorIndex := 25, attributes := #[] }] 33 2 #[] #[{ accessFlags := 18, nameIndex := 11, descriptorIndex := 12, attributes := #[] }, { accessFlags := 18, nameIndex := 17, descriptorIndex := 14, attributes := #[] }, { accessFlags := 2, nameIndex := 20, descriptorIndex := 21, attributes := #[] }])
  fields := #[{ name := "satisfied", type := (.array .long), accessFlags := 18, slot := 0, constantValue := 0 }, { name := "together", type := (.array (.array .long)), accessFlags := 18, slot := 1, constantValue := 0 }, { name := "paths", type := .long, accessFlags := 2, slot := 2, constantValue := 0 }]
  methods := #[k2m0, k2m1, k2m2, k2m3]
  instanceTypes := #[(.array .long), (.array (.array .long)), .long]
  staticTypes := #[]
  resolved := Array.replicate 96 none
  statics := none }

def pool3 : Array CpInfo := pool [(1, u "java/lang/Cloneable"), (0, .class_ 1), (0, u "java/lang/Object"), (0, .class_ 3)] 3

/-- java/lang/Cloneable -/
def k3 : Class := { plain "java/lang/Cloneable" (some 0) with
  accessFlags := 1537
  interfaces := #[]
  cf := some (fileOf pool3 2 #[] #[] 1537 4 #[] #[])
  fields := #[]
  methods := #[]
  instanceTypes := #[]
  staticTypes := #[]
  resolved := Array.replicate 8 none
  statics := none }

def pool4 : Array CpInfo := pool [(1, u "java/io/Serializable"), (0, .class_ 1), (0, u "java/lang/Object"), (0, .class_ 3)] 3

/-- java/io/Serializable -/
def k4 : Class := { plain "java/io/Serializable" (some 0) with
  accessFlags := 1537
  interfaces := #[]
  cf := some (fileOf pool4 2 #[] #[] 1537 4 #[] #[])
  fields := #[]
  methods := #[]
  instanceTypes := #[]
  staticTypes := #[]
  resolved := Array.replicate 8 none
  statics := none }

/-- the primitive boolean -/
def k5 : Class := { plain "boolean" none with kind := .primitive 'Z', accessFlags := 0x411 }
/-- [Z -/
def k6 : Class := { plain "[Z" (some 0) with kind := .array 5 .boolean, interfaces := #[3, 4], accessFlags := 1041 }

/-- the primitive byte -/
def k7 : Class := { plain "byte" none with kind := .primitive 'B', accessFlags := 0x411 }
/-- [B -/
def k8 : Class := { plain "[B" (some 0) with kind := .array 7 .byte, interfaces := #[3, 4], accessFlags := 1041 }

/-- the primitive int -/
def k9 : Class := { plain "int" none with kind := .primitive 'I', accessFlags := 0x411 }
/-- [I -/
def k10 : Class := { plain "[I" (some 0) with kind := .array 9 .int, interfaces := #[3, 4], accessFlags := 1041 }

/-- the primitive long -/
def k11 : Class := { plain "long" none with kind := .primitive 'J', accessFlags := 0x411 }
/-- [J -/
def k12 : Class := { plain "[J" (some 0) with kind := .array 11 .long, interfaces := #[3, 4], accessFlags := 1041 }

def k13 : Class := { plain "[[J" (some 0) with kind := .array 12 (.array .long), interfaces := #[3, 4], accessFlags := 1041 }

def heap : Heap := #[]
def classes : Array Class := #[k0, k1, k2, k3, k4, k5, k6, k7, k8, k9, k10, k11, k12, k13]
def interned : List (Array UInt16 × Addr) := []
def slotsUsed : Nat := 0
def theMethod : MethodId := ⟨1, 4⟩
def args0 : Array Value := #[.int 5, .int 3]
def aboutOver (below : List Frame) : State where
  vm := { classes := classes, interned := interned.toArray }
  heap := heap
  slotsUsed := slotsUsed
  threads := #[{ frames := .invoking theMethod args0 :: below }]
def below0 : List Frame := [.native { method := ⟨0, 0⟩, args := #[] }]
def about1 : State := aboutOver below0
def p0 : Program := .bare "" "" ""
def e0 : Env := launch0.env 0 0 0
theorem w_frames : about1.frames = Frame.invoking theMethod args0 :: below0 := rfl
set_option maxRecDepth 65536 in
theorem w_args : argsFit about1.vm theMethod args0 = true := by decide +kernel
set_option maxRecDepth 65536 in
theorem w_heap : heapFits about1 = true := by decide +kernel
set_option maxRecDepth 65536 in
theorem w_runnable : about1.curStatus? = some .runnable := by decide +kernel
set_option maxRecDepth 65536 in
theorem w_alone : about1.alone = true := by decide +kernel
set_option maxRecDepth 65536 in
theorem w_named : about1.methodNamed? x = some theMethod := by decide +kernel
set_option maxRecDepth 65536 in
theorem w_hears : about1.hears theMethod below0 = true := by decide +kernel
set_option maxRecDepth 65536 in
theorem w_ripe : about1.ripe theMethod args0 below0 = true := by decide +kernel
theorem w_running : about1.status = .running := rfl
set_option maxRecDepth 65536 in
theorem w_room : about1.hasRoom e0.platform room_1 = true :=
  launch0.hasRoom_least _ room_1 (by decide +kernel) (by decide +kernel) (by decide +kernel) (by decide +kernel) (by decide +kernel) (by decide +kernel)
theorem allAtoms_all (ts : List Jvm.Cond) (a : Array Jvm.Value) (st : Jvm.State) : (allAtoms ts).before a st = ts.all (fun c => c.before a st) := by
  induction ts with
  | nil => rfl
  | cons c t ih =>
    show (Jvm.Cond.and c (allAtoms t)).before a st = _
    rw [Jvm.Cond.before_and, ih, List.all_cons]
def words1 : List Jvm.Cond := Jvm.Cond.code x code maxLocals ret :: tables_1
/-- a 'code' word, met by the world's own term for the bytes: nothing is compared byte by byte -/
theorem code_word {y : MethodName} {bytes : ByteArray} {mx : Nat} {rt : Option FieldType} {a : Array Value} {s : State} {m : MethodId} {meth : Method} {c : Code} (h1 : s.methodNamed? y = some m) (h2 : s.vm.method? m = some meth) (h3 : meth.code = some c) (h4 : c.code = bytes)
    (h5 : (c.maxLocals == mx && c.exceptionTable.isEmpty && decide (c.maxStack ≤ mostOperands) && decide (meth.sig.returnType = rt) && !meth.locks && decide (parseMethodDescriptor y.desc = some meth.sig)) = true) : (Jvm.Cond.code y bytes mx rt).before a s = true := by
  simp only [Bool.and_eq_true, beq_iff_eq, Bool.not_eq_true', decide_eq_true_eq] at h5
  obtain ⟨⟨⟨⟨⟨g1, g2⟩, g3⟩, g4⟩, g5⟩, g6⟩ := h5
  simp [Cond.before, Cond.holds, Cond.value, h1, h2, h3, h4, g1, g2, g3, g4, g5, g6]
def isCode : Jvm.Cond → Bool
  | .code _ _ _ _ => true
  | _ => false
theorem all_split {L : List Jvm.Cond} {P : Jvm.Cond → Bool} (h1 : L.all (fun c => isCode c || P c) = true) (h2 : ∀ c ∈ L.filter isCode, P c = true) : L.all P = true := by
  refine List.all_eq_true.mpr fun c hc => ?_
  have h := List.all_eq_true.mp h1 c hc
  rcases Bool.eq_false_or_eq_true (isCode c) with hi | hi
  · exact h2 c (List.mem_filter.mpr ⟨hc, hi⟩)
  · simpa [hi] using h
set_option maxRecDepth 65536 in
theorem w_c0 : (Jvm.Cond.code x code maxLocals ret).before args0 about1 = true := code_word (m := ⟨1, 4⟩) (meth := k1m4) (c := k1c4) (by decide +kernel) rfl rfl rfl (by decide +kernel)
set_option maxRecDepth 65536 in
theorem w_c1 : (Jvm.Cond.code ({ cls := "com/example/idealyze/idealyze/simulation/TallyAddPinLaw", name := "bit", desc := "(II)Z" } : Jvm.MethodName) method_2_code (2 : Nat) (Option.some Jvm.ClassFile.FieldType.boolean)).before args0 about1 = true := code_word (m := ⟨1, 1⟩) (meth := k1m1) (c := k1c1) (by decide +kernel) rfl rfl rfl (by decide +kernel)
set_option maxRecDepth 65536 in
theorem w_c2 : (Jvm.Cond.code ({ cls := "com/example/idealyze/idealyze/simulation/Tally", name := "<init>", desc := "(I)V" } : Jvm.MethodName) prog_163_method_1_code (2 : Nat) (Option.none : Option Jvm.ClassFile.FieldType)).before args0 about1 = true := code_word (m := ⟨2, 0⟩) (meth := k2m0) (c := k2c0) (by decide +kernel) rfl rfl rfl (by decide +kernel)
set_option maxRecDepth 65536 in
theorem w_c3 : (Jvm.Cond.code ({ cls := "java/lang/Object", name := "<init>", desc := "()V" } : Jvm.MethodName) object_method_1_code (1 : Nat) (Option.none : Option Jvm.ClassFile.FieldType)).before args0 about1 = true := code_word (m := ⟨0, 0⟩) (meth := k0m0) (c := k0c0) (by decide +kernel) rfl rfl rfl (by decide +kernel)
set_option maxRecDepth 65536 in
theorem w_c4 : (Jvm.Cond.code ({ cls := "com/example/idealyze/idealyze/simulation/Tally", name := "add", desc := "([Z)V" } : Jvm.MethodName) prog_163_method_2_code (4 : Nat) (Option.none : Option Jvm.ClassFile.FieldType)).before args0 about1 = true := code_word (m := ⟨2, 1⟩) (meth := k2m1) (c := k2c1) (by decide +kernel) rfl rfl rfl (by decide +kernel)
set_option maxRecDepth 65536 in
theorem w_c5 : (Jvm.Cond.code ({ cls := "com/example/idealyze/idealyze/simulation/TallyAddPinLaw", name := "one", desc := "(II)I" } : Jvm.MethodName) method_3_code (2 : Nat) (Option.some Jvm.ClassFile.FieldType.int)).before args0 about1 = true := code_word (m := ⟨1, 2⟩) (meth := k1m2) (c := k1c2) (by decide +kernel) rfl rfl rfl (by decide +kernel)
set_option maxRecDepth 65536 in
theorem w_c6 : (Jvm.Cond.code ({ cls := "com/example/idealyze/idealyze/simulation/Tally", name := "paths", desc := "()J" } : Jvm.MethodName) prog_163_method_3_code (1 : Nat) (Option.some Jvm.ClassFile.FieldType.long)).before args0 about1 = true := code_word (m := ⟨2, 2⟩) (meth := k2m2) (c := k2c2) (by decide +kernel) rfl rfl rfl (by decide +kernel)
set_option maxRecDepth 65536 in
theorem w_c7 : (Jvm.Cond.code ({ cls := "com/example/idealyze/idealyze/simulation/Tally", name := "fraction", desc := "(I)D" } : Jvm.MethodName) prog_163_method_4_code (2 : Nat) (Option.some Jvm.ClassFile.FieldType.double)).before args0 about1 = true := code_word (m := ⟨2, 3⟩) (meth := k2m3) (c := k2c3) (by decide +kernel) rfl rfl rfl (by decide +kernel)
set_option maxRecDepth 65536 in
theorem w_c8 : (Jvm.Cond.code ({ cls := "com/example/idealyze/idealyze/simulation/TallyAddPinLaw", name := "frac", desc := "(II)D" } : Jvm.MethodName) method_4_code (2 : Nat) (Option.some Jvm.ClassFile.FieldType.double)).before args0 about1 = true := code_word (m := ⟨1, 3⟩) (meth := k1m3) (c := k1c3) (by decide +kernel) rfl rfl rfl (by decide +kernel)
def codes1 : List Jvm.Cond := [Jvm.Cond.code x code maxLocals ret, Jvm.Cond.code ({ cls := "com/example/idealyze/idealyze/simulation/TallyAddPinLaw", name := "bit", desc := "(II)Z" } : Jvm.MethodName) method_2_code (2 : Nat) (Option.some Jvm.ClassFile.FieldType.boolean), Jvm.Cond.code ({ cls := "com/example/idealyze/idealyze/simulation/Tally", name := "<init>", desc := "(I)V" } : Jvm.MethodName) prog_163_method_1_code (2 : Nat) (Option.none : Option Jvm.ClassFile.FieldType), Jvm.Cond.code ({ cls := "java/lang/Object", name := "<init>", desc := "()V" } : Jvm.MethodName) object_method_1_code (1 : Nat) (Option.none : Option Jvm.ClassFile.FieldType), Jvm.Cond.code ({ cls := "com/example/idealyze/idealyze/simulation/Tally", name := "add", desc := "([Z)V" } : Jvm.MethodName) prog_163_method_2_code (4 : Nat) (Option.none : Option Jvm.ClassFile.FieldType), Jvm.Cond.code ({ cls := "com/example/idealyze/idealyze/simulation/TallyAddPinLaw", name := "one", desc := "(II)I" } : Jvm.MethodName) method_3_code (2 : Nat) (Option.some Jvm.ClassFile.FieldType.int), Jvm.Cond.code ({ cls := "com/example/idealyze/idealyze/simulation/Tally", name := "paths", desc := "()J" } : Jvm.MethodName) prog_163_method_3_code (1 : Nat) (Option.some Jvm.ClassFile.FieldType.long), Jvm.Cond.code ({ cls := "com/example/idealyze/idealyze/simulation/Tally", name := "fraction", desc := "(I)D" } : Jvm.MethodName) prog_163_method_4_code (2 : Nat) (Option.some Jvm.ClassFile.FieldType.double), Jvm.Cond.code ({ cls := "com/example/idealyze/idealyze/simulation/TallyAddPinLaw", name := "frac", desc := "(II)D" } : Jvm.MethodName) method_4_code (2 : Nat) (Option.some Jvm.ClassFile.FieldType.double)]
set_option maxRecDepth 65536 in
theorem codes_eq : words1.filter isCode = codes1 := rfl
theorem w_codes : ∀ c ∈ words1.filter isCode, c.before args0 about1 = true := by
  rw [codes_eq]
  intro c hc
  simp only [codes1, List.mem_cons, List.not_mem_nil, or_false] at hc
  rcases hc with rfl | rfl | rfl | rfl | rfl | rfl | rfl | rfl | rfl
  · exact w_c0
  · exact w_c1
  · exact w_c2
  · exact w_c3
  · exact w_c4
  · exact w_c5
  · exact w_c6
  · exact w_c7
  · exact w_c8
set_option maxRecDepth 65536 in
theorem w_t1 : (words1.take 24).all (fun c => isCode c || c.before args0 about1) = true := by decide +kernel
set_option maxRecDepth 65536 in
theorem w_t2 : (words1.drop 24).all (fun c => isCode c || c.before args0 about1) = true := by decide +kernel
theorem w_tables : (allAtoms (Jvm.Cond.code x code maxLocals ret :: tables_1)).before args0 about1 = true := by
  rw [allAtoms_all]
  show words1.all (fun c => c.before args0 about1) = true
  refine all_split ?_ w_codes
  rw [← List.take_append_drop 24 words1, List.all_append, w_t1, w_t2]
  rfl
set_option maxRecDepth 65536 in
theorem w_case : (Jvm.Cond.and given_1 narrow_1).before args0 about1 = true := by decide +kernel
theorem w_applies : (headSpec (Jvm.Cond.code x code maxLocals ret :: tables_1) room_1).applies x e0.platform about1 = true :=
  (Spec.applies_iff w_frames).mpr ⟨w_running, w_runnable, w_alone, w_named, w_hears, w_ripe, w_room, w_tables⟩
theorem atStart : AtStart classFile x code maxLocals ret World_1 tables_1 room_1 Calls_1 rest_1 Pre_1 launch0 p0 e0 about1 theMethod args0 below0 :=
  ⟨lists_1, trivial, launch0.admits_env _ _ _, launch0.least_env, fairChoices_fair.cas, fairChoices_fair.clock, w_frames, w_args, w_heap, w_applies, trivial, trivial, w_case⟩
end start1
theorem witness_1 : WitnessClaimed_1 := ⟨start1.p0, start1.e0, start1.about1, start1.theMethod, start1.args0, start1.below0, start1.atStart⟩
end Jvm.Pilot.@@N@@
