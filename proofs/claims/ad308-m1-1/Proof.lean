import JvmDerived
import JvmDerived.Pilot.@@N@@Statement
import JvmDerived.Pilot.@@N@@Code
set_option linter.unusedVariables false
set_option linter.unusedSimpArgs false
namespace Jvm.OwnKit
theorem and64 (x m : Int64) (hm : 0 ≤ m.toInt) : 0 ≤ (x &&& m).toInt ∧ (x &&& m).toInt ≤ m.toInt := by
  have h : (x &&& m).toBitVec.toNat ≤ m.toBitVec.toNat := by rw [Int64.toBitVec_and, BitVec.toNat_and]; exact Nat.and_le_right
  have e : ∀ y : Int64, y.toInt = y.toBitVec.toInt := fun _ => rfl
  rw [e] at hm ⊢
  rw [e m]
  rw [BitVec.toInt_eq_toNat_cond] at hm ⊢
  rw [BitVec.toInt_eq_toNat_cond]
  have l1 := m.toBitVec.isLt
  have l2 := (x &&& m).toBitVec.isLt
  split at hm <;> split <;> omega
theorem and32 (x m : Int32) (hm : 0 ≤ m.toInt) : 0 ≤ (x &&& m).toInt ∧ (x &&& m).toInt ≤ m.toInt := by
  have h : (x &&& m).toBitVec.toNat ≤ m.toBitVec.toNat := by rw [Int32.toBitVec_and, BitVec.toNat_and]; exact Nat.and_le_right
  have e : ∀ y : Int32, y.toInt = y.toBitVec.toInt := fun _ => rfl
  rw [e] at hm ⊢
  rw [e m]
  rw [BitVec.toInt_eq_toNat_cond] at hm ⊢
  rw [BitVec.toInt_eq_toNat_cond]
  have l1 := m.toBitVec.isLt
  have l2 := (x &&& m).toBitVec.isLt
  split at hm <;> split <;> omega
end Jvm.OwnKit
namespace Jvm.OwnKit
open Sem ClassFile Op Lib Jvm.Stand Jvm.Free Jvm.LawKit Jvm.RoadKit
abbrev jv (x : Int64) : Slot := .val (.long x)
abbrev dv (x : UInt64) : Slot := .val (.double x)
abbrev nv : Slot := .val .null
abbrev un : Slot := .unset
abbrev sd : Slot := .second
theorem wd {ws : List Jvm.Cond} {a0 : Array Value} {Z : State} (hw : ∀ d ∈ ws, d.before a0 Z = true) (i : Nat) {d : Jvm.Cond} (h : ws[i]? = some d) : d.before a0 Z = true := hw _ (List.mem_of_getElem? h)
/-! ## the walk, backwards: from S the run comes to an end that K speaks of -/
def Wlk (tb : Tables) (e : Env) (below : List Frame) (S : State) (K : State → Outcome → Prop) : Prop := ∃ s₂ o, Steps tb e below S s₂ ∧ K s₂ o
section Wlks
variable {tb : Tables} {e : Env} {below : List Frame} {S S' : State} {K : State → Outcome → Prop}
theorem Wlk.of (f : ∀ t, Steps tb e below S' t → Steps tb e below S t) (h : Wlk tb e below S' K) : Wlk tb e below S K := by
  obtain ⟨t, o, h1, h2⟩ := h; exact ⟨t, o, f t h1, h2⟩
end Wlks
/-! ## a body's contract -/
def Ctr (l : Launch) (Z : State) (h0 : Heap) (y : MethodName) (bytes : ByteArray) (maxL : Nat) (ret : Option FieldType) (ws : List Jvm.Cond) (rm : Room) (as' : Array Value) (Q : Option Value → Heap → List Loc → Prop) : Prop :=
  MetFree l y (head1 (Jvm.Cond.code y bytes maxL ret :: ws) rm) (fun a U => a = as' ∧ Z.WarmedH U.vm ∧ U.heap = h0) (fun _ _ _ _ _ => True) (fun _ U o U' => ∃ v L, o = .returned v ∧ Q v U'.heap L ∧ FrameEnd U o U' L rm.cells rm.slots)
/-- what the end of a body's walk must show -/
def Fin (p : Program) (l : Launch) (e : Env) (rm : Room) (s : State) (m : MethodId) (as' : Array Value) (below : List Frame) (meth : Method) (c : Code) (ret : Option FieldType) (Q : Option Value → Heap → List Loc → Prop) (K : State → Outcome → Prop) : Prop :=
  ∀ {T : State} {locs : List Loc} {cells slots : Nat} {F : JFrame} (v : Option Value), Stand p l e rm s m as' below meth c T locs cells slots → (ret = none → v = none) →
    (∀ fs, (∀ (f : JFrame) (acts : List Action), f.method = m → f.locked = none → f.entered = [] → (doReturn e (T.setTop f) acts v).1 = T.setFrames fs) → Steps p.tables e below (T.setTop F) (T.setFrames fs)) →
    Q v T.heap locs → cells ≤ rm.cells → slots ≤ rm.slots → Wlk p.tables e below (T.setTop F) K
theorem Ctr.make {l : Launch} {Z : State} {h0 : Heap} {y : MethodName} {bytes : ByteArray} {maxL : Nat} {ret : Option FieldType} {ws : List Jvm.Cond} {rm : Room} {as' : Array Value} {Q : Option Value → Heap → List Loc → Prop} (hpn : plainFor y = true)
    (H : ∀ (p : Program) (e : Env) (s : State) (m : MethodId) (below : List Frame) (meth : Method) (c : Code) (s₁ : State) (K : State → Outcome → Prop), meth.sig.returnType = ret → c.maxLocals = maxL → p.tables.exec = Jvm.exec → c.code = bytes → s.vm.findClass y.cls = some m.cls → meth.name = y.name → s.methodNamed? y = some m → Z.WarmedH s.vm → Z.Warmed39 s.vm →
      Stand p l e rm s m as' below meth c s₁ [] 0 0 → s₁.heap = h0 → Fin p l e rm s m as' below meth c ret Q K → Wlk p.tables e below (s₁.setTop (entryFrame m as' maxL)) K) : Ctr l Z h0 y bytes maxL ret ws rm as' Q := by
  refine MetFree.of_bodySF hpn hisR ?_
  intro p e s m args below meth c s₁ Bd hml hP hK
  obtain ⟨rfl, hZ, hh⟩ := hP
  refine H p e s m below meth c s₁ (fun s₂ o => s₂.status = .running ∧ Ended s₂ below o ∧ ∃ v L, o = .returned v ∧ Q v s₂.heap L ∧ FrameEnd s o s₂ L rm.cells rm.slots) Bd.returns hml Bd.exec Bd.bytes (findClass_of_methodNamed Bd.named) (name_of_methodNamed Bd.named Bd.method).1 Bd.named hZ hZ.wide (Stand.of_body Bd) (by rw [← hh, Bd.state]; rfl) ?_
  intro T locs cells slots F v X hv hst hq hc hs
  obtain ⟨fs, hr, hrun, hended, hW, hsame⟩ := X.leave (v := v) (fun h => hv (Bd.returns ▸ h)) Bd.notSynchronized
  exact ⟨_, _, hst fs hr, hrun, hended, v, locs, rfl, hq, ⟨_, rfl⟩, hW, hsame.mono hc hs⟩
/-- a body with an exception table whose walk throws nothing -/
def CtrW (l : Launch) (Z : State) (h0 : Heap) (y : MethodName) (bytes : ByteArray) (maxL : Nat) (ret : Option FieldType) (hs : List (Nat × Nat × Nat × Nat)) (rm : Room) (as' : Array Value) (Q : Option Value → Heap → List Loc → Prop) : Prop :=
  MetFree l y (head1 [Jvm.Cond.codeWith y bytes maxL ret hs] rm) (fun a U => a = as' ∧ Z.WarmedH U.vm ∧ U.heap = h0) (fun _ _ _ _ _ => True) (fun _ U o U' => ∃ v L, o = .returned v ∧ Q v U'.heap L ∧ FrameEnd U o U' L rm.cells rm.slots)
theorem CtrW.make {hs : List (Nat × Nat × Nat × Nat)} {l : Launch} {Z : State} {h0 : Heap} {y : MethodName} {bytes : ByteArray} {maxL : Nat} {ret : Option FieldType} {rm : Room} {as' : Array Value} {Q : Option Value → Heap → List Loc → Prop} (hpn : plainFor y = true)
    (H : ∀ (p : Program) (e : Env) (s : State) (m : MethodId) (below : List Frame) (meth : Method) (c : Code) (s₁ : State) (K : State → Outcome → Prop), meth.sig.returnType = ret → c.maxLocals = maxL → p.tables.exec = Jvm.exec → c.code = bytes → s.vm.findClass y.cls = some m.cls → meth.name = y.name → s.methodNamed? y = some m → Z.WarmedH s.vm → Z.Warmed39 s.vm →
      Stand p l e rm s m as' below meth c s₁ [] 0 0 → s₁.heap = h0 → Fin p l e rm s m as' below meth c ret Q K → Wlk p.tables e below (s₁.setTop (entryFrame m as' maxL)) K) : CtrW l Z h0 y bytes maxL ret hs rm as' Q := by
  refine MetFree.of_bodySF hpn hisWith ?_
  intro p e s m args below meth c s₁ Bd hml hP hK
  obtain ⟨rfl, hZ, hh⟩ := hP
  refine H p e s m below meth c s₁ (fun s₂ o => s₂.status = .running ∧ Ended s₂ below o ∧ ∃ v L, o = .returned v ∧ Q v s₂.heap L ∧ FrameEnd s o s₂ L rm.cells rm.slots) Bd.returns hml Bd.exec Bd.bytes (findClass_of_methodNamed Bd.named) (name_of_methodNamed Bd.named Bd.method).1 Bd.named hZ hZ.wide (Stand.of_body Bd) (by rw [← hh, Bd.state]; rfl) ?_
  intro T locs cells slots F v X hv hst hq hc hs
  obtain ⟨fs, hr, hrun, hended, hW, hsame⟩ := X.leave (v := v) (fun h => hv (Bd.returns ▸ h)) Bd.notSynchronized
  exact ⟨_, _, hst fs hr, hrun, hended, v, locs, rfl, hq, ⟨_, rfl⟩, hW, hsame.mono hc hs⟩
section BackH
variable {p : Program} {l : Launch} {e : Env} {R : Room} {s : State} {args : Array Value} {below : List Frame} {Z : State} {a0 : Array Value} {h : Heap}
theorem backOfH {y : MethodName} {bytes : ByteArray} {maxL : Nat} {ret : Option FieldType} {rm : Room} {len W : Nat} {as' : Array Value} {Q : Option Value → Heap → List Loc → Prop} (hM : Ctr l Z h y bytes maxL ret [] rm as' Q)
    (hH : Z.WarmedH s.vm) (wc : (Jvm.Cond.code y bytes maxL ret).before a0 Z = true) (wz : (Jvm.Cond.initialized y.cls).before a0 Z = true) (hf : rm.frames + 1 ≤ R.frames) (hl : W + (maxL + 11) + rm.locals ≤ R.locals) :
    Back l R p e below s args y len W (fun A a => a = as' ∧ A.U.heap = h ∧ A.cells + rm.cells ≤ R.cells ∧ A.slots + rm.slots ≤ R.slots)
      (fun A _ v B => ∃ L, Q v B.U.heap L ∧ B.locs = A.locs ++ L ∧ B.cells = A.cells + rm.cells ∧ B.slots = A.slots + rm.slots) := by
  have on (U : State) (a : Array Value) (w : s.WarmedH U.vm) : (Jvm.Cond.code y bytes maxL ret).before a U = true ∧ (Jvm.Cond.initialized y.cls).before a U = true := ⟨mv (wtrans hH.wide w) wc, mv (wtrans hH.wide w) wz⟩
  refine Back.of_free (bytes := bytes) (maxL := maxL) (ret := ret) (E := fun _ _ o t L k n => k = rm.cells ∧ n = rm.slots ∧ ∃ v, o = .returned v ∧ Q v t.heap L) hM hf hl ?_ ?_ (fun _ _ _ _ _ _ _ _ _ => trivial) ?_ ?_
  · intro m meth c A a Y hp
    obtain ⟨u1, u2⟩ := on A.U a Y.warmed
    refine ⟨?_, u1, u2, hp.2.2.1, hp.2.2.2⟩
    show (Jvm.Cond.and _ .tt).before a A.U = true
    rw [Cond.before_and, u1]; rfl
  · intro m meth c A a g mk Y hp
    exact ⟨hp.1, hH.trans Y.warmed, hp.2.1⟩
  · rintro _ _ _ _ ⟨v, L, h1, h2, h3⟩
    exact ⟨L, _, _, h3, rfl, rfl, v, h1, h2⟩
  · rintro m meth c A a g mk v t L k n Y hp _ _ ⟨e1, e2, v', e3, e4⟩
    cases e3; subst e1 e2
    exact ⟨L, e4, rfl, rfl, rfl⟩
theorem backOfHW {hs : List (Nat × Nat × Nat × Nat)} {y : MethodName} {bytes : ByteArray} {maxL : Nat} {ret : Option FieldType} {rm : Room} {len W : Nat} {as' : Array Value} {Q : Option Value → Heap → List Loc → Prop} (hM : CtrW l Z h y bytes maxL ret hs rm as' Q)
    (hH : Z.WarmedH s.vm) (wc : (Jvm.Cond.codeWith y bytes maxL ret hs).before a0 Z = true) (wz : (Jvm.Cond.initialized y.cls).before a0 Z = true) (hf : rm.frames + 1 ≤ R.frames) (hl : W + (maxL + 11) + rm.locals ≤ R.locals) :
    Back l R p e below s args y len W (fun A a => a = as' ∧ A.U.heap = h ∧ A.cells + rm.cells ≤ R.cells ∧ A.slots + rm.slots ≤ R.slots)
      (fun A _ v B => ∃ L, Q v B.U.heap L ∧ B.locs = A.locs ++ L ∧ B.cells = A.cells + rm.cells ∧ B.slots = A.slots + rm.slots) := by
  have on (U : State) (a : Array Value) (w : s.WarmedH U.vm) : (Jvm.Cond.codeWith y bytes maxL ret hs).before a U = true ∧ (Jvm.Cond.initialized y.cls).before a U = true := ⟨mv (wtrans hH.wide w) wc, mv (wtrans hH.wide w) wz⟩
  refine Back.of_freeWith (handlers := hs) (bytes := bytes) (maxL := maxL) (ret := ret) (E := fun _ _ o t L k n => k = rm.cells ∧ n = rm.slots ∧ ∃ v, o = .returned v ∧ Q v t.heap L) hM hf hl ?_ ?_ (fun _ _ _ _ _ _ _ _ _ => trivial) ?_ ?_
  · intro m meth c A a Y hp
    obtain ⟨u1, u2⟩ := on A.U a Y.warmed
    refine ⟨?_, u1, u2, hp.2.2.1, hp.2.2.2⟩
    show (Jvm.Cond.and _ .tt).before a A.U = true
    rw [Cond.before_and, u1]; rfl
  · intro m meth c A a g mk Y hp
    exact ⟨hp.1, hH.trans Y.warmed, hp.2.1⟩
  · rintro _ _ _ _ ⟨v, L, h1, h2, h3⟩
    exact ⟨L, _, _, h3, rfl, rfl, v, h1, h2⟩
  · rintro m meth c A a g mk v t L k n Y hp _ _ ⟨e1, e2, v', e3, e4⟩
    cases e3; subst e1 e2
    exact ⟨L, e4, rfl, rfl, rfl⟩
end BackH
section Calls
variable {p : Program} {l : Launch} {e : Env} {R : Room} {s : State} {m : MethodId} {args : Array Value} {below : List Frame} {meth : Method} {c : Code} {T : State} {locs : List Loc} {cells slots : Nat} {Z : State} {a0 : Array Value} {h : Heap}
variable {y z : MethodName} {bytes : ByteArray} {maxL : Nat} {ret : Option FieldType} {rm : Room} {as' : Array Value} {Q : Option Value → Heap → List Loc → Prop}
theorem Ctr.static (M : Ctr l Z h y bytes maxL ret [] rm as' Q) (X : Stand p l e R s m args below meth c T locs cells slots) (hx : p.tables.exec = Jvm.exec) (hH : Z.WarmedH s.vm) (eT : T.heap = h) {own : String} {index : Nat} (hown : s.vm.findClass own = some m.cls)
    (wl : (Jvm.Cond.methodLink own index y).before a0 Z = true) (wt : (Jvm.Cond.static y).before a0 Z = true) (wi : (Jvm.Cond.initialized y.cls).before a0 Z = true) (wc : (Jvm.Cond.code y bytes maxL ret).before a0 Z = true) (hy : y.cls ≠ "java/lang/invoke/MethodHandle" ∧ y.cls ≠ "java/lang/invoke/VarHandle")
    {ps : List FieldType} {rt : Option FieldType} (hpd : parseMethodDescriptor y.desc = some ⟨ps, rt⟩) {g : JFrame} (hg : g.method = m) (hsize : g.locals.size = c.maxLocals) {argsL rest : List Value} (ha : argsL.toArray = as') (hlen : argsL.length = ps.length) (hstack : g.stack = argsL.reverse ++ rest)
    {W : Nat} (hW : 2 * g.monitorRoom + (rest.map fun v => v.category).sum ≤ W) (hf : rm.frames + 1 ≤ R.frames) (hl : W + (maxL + 11) + rm.locals ≤ R.locals) (hd : decode c.code g.pc = .ok (.invokestatic index, 3)) (hc : cells + rm.cells ≤ R.cells) (hs : slots + rm.slots ≤ R.slots) :
    ∃ (v : Option Value) (T' : State) (L : List Loc), Stand p l e R s m args below meth c T' (locs ++ L) (cells + rm.cells) (slots + rm.slots) ∧ Q v T'.heap L ∧ ∀ target, Steps p.tables e below (T'.setTop { g with pc := g.pc + 3, stack := v.toList ++ rest }) target → Steps p.tables e below (T.setTop g) target := by
  have hZ := hH.wide
  obtain ⟨v, _, ⟨T', L, k, n⟩, -, X', ⟨Lc, hQ, l1, y1, z1⟩, st⟩ := Jvm.LawKit.callS X hx hown (mvT hZ wl) (mvT hZ wt) (mvT hZ wi) (mvT hZ wc) hy (backOfH (W := W) M hH wc wi hf hl) hg hsize (argsL := argsL) (rest := rest) (lenOf hpd hlen) hstack hW hd (fun _ _ => ⟨ha, eT, hc, hs⟩)
  dsimp only [Pt.U, Pt.locs, Pt.cells, Pt.slots] at X' l1 y1 z1 st hQ
  subst l1 y1 z1
  exact ⟨v, T', Lc, X', hQ, st⟩
theorem Ctr.special (M : Ctr l Z h y bytes maxL none [] rm as' Q) (X : Stand p l e R s m args below meth c T locs cells slots) (hx : p.tables.exec = Jvm.exec) (hH : Z.WarmedH s.vm) (eT : T.heap = h) {own : String} {index : Nat} (hown : s.vm.findClass own = some m.cls) (hy1 : y.name = "<init>")
    (wl : (Jvm.Cond.methodLink own index y).before a0 Z = true) (wt : (Jvm.Cond.instanceMethod y).before a0 Z = true) (wi : (Jvm.Cond.initialized y.cls).before a0 Z = true) (wc : (Jvm.Cond.code y bytes maxL none).before a0 Z = true) (hy : y.cls ≠ "java/lang/invoke/MethodHandle" ∧ y.cls ≠ "java/lang/invoke/VarHandle")
    {ps : List FieldType} {rt : Option FieldType} (hpd : parseMethodDescriptor y.desc = some ⟨ps, rt⟩) {g : JFrame} (hg : g.method = m) (hsize : g.locals.size = c.maxLocals) {a : Addr} {argsL rest : List Value} (ha : (.ref a :: argsL).toArray = as') (hlen : argsL.length = ps.length) (hstack : g.stack = argsL.reverse ++ .ref a :: rest)
    {W : Nat} (hW : 2 * g.monitorRoom + (rest.map fun v => v.category).sum ≤ W) (hf : rm.frames + 1 ≤ R.frames) (hl : W + (maxL + 11) + rm.locals ≤ R.locals) (hd : decode c.code g.pc = .ok (.invokespecial index, 3)) (hc : cells + rm.cells ≤ R.cells) (hs : slots + rm.slots ≤ R.slots) :
    ∃ (v : Option Value) (T' : State) (L : List Loc), Stand p l e R s m args below meth c T' (locs ++ L) (cells + rm.cells) (slots + rm.slots) ∧ Q v T'.heap L ∧ ∀ target, Steps p.tables e below (T'.setTop { g with pc := g.pc + 3, stack := v.toList ++ rest }) target → Steps p.tables e below (T.setTop g) target := by
  have hZ := hH.wide
  obtain ⟨v, _, ⟨T', L, k, n⟩, -, X', ⟨Lc, hQ, l1, y1, z1⟩, st⟩ := X.specialBack hx hy1 hown (mvT hZ wl) (mvT hZ wt) (mvT hZ wc) hy (backOfH (W := W) M hH wc wi hf hl) hg hsize (Steps.refl _) (a := a) (argsL := argsL) (rest := rest) (lenOf hpd hlen) hstack hW hd (fun _ _ => ⟨ha, eT, hc, hs⟩)
  dsimp only [Pt.U, Pt.locs, Pt.cells, Pt.slots] at X' l1 y1 z1 st hQ
  subst l1 y1 z1
  exact ⟨v, T', Lc, X', hQ, fun target k => st.trans k⟩
theorem Ctr.virtual (M : Ctr l Z h z bytes maxL ret [] rm as' Q) (X : Stand p l e R s m args below meth c T locs cells slots) (hx : p.tables.exec = Jvm.exec) (hH : Z.WarmedH s.vm) (eT : T.heap = h) {own C : String} {index : Nat} (hown : s.vm.findClass own = some m.cls)
    (wl : (Jvm.Cond.methodLink own index y).before a0 Z = true) (wd : (Jvm.Cond.declares y).before a0 Z = true) (hnf : NotFace s y) (wsel : (Jvm.Cond.selects C y z).before a0 Z = true) (wt : (Jvm.Cond.instanceMethod z).before a0 Z = true) (wi : (Jvm.Cond.initialized z.cls).before a0 Z = true) (wc : (Jvm.Cond.code z bytes maxL ret).before a0 Z = true) (hy : y.cls ≠ "java/lang/invoke/MethodHandle" ∧ y.cls ≠ "java/lang/invoke/VarHandle")
    {a : Addr} (E : Exa Z h a C) {ps : List FieldType} {rt : Option FieldType} (hpd : parseMethodDescriptor y.desc = some ⟨ps, rt⟩) {g : JFrame} (hg : g.method = m) (hsize : g.locals.size = c.maxLocals) {argsL rest : List Value} (ha : (.ref a :: argsL).toArray = as') (hlen : argsL.length = ps.length) (hstack : g.stack = argsL.reverse ++ .ref a :: rest)
    {W : Nat} (hW : 2 * g.monitorRoom + (rest.map fun v => v.category).sum ≤ W) (hf : rm.frames + 1 ≤ R.frames) (hl : W + (maxL + 11) + rm.locals ≤ R.locals) (hd : decode c.code g.pc = .ok (.invokevirtual index, 3)) (hc : cells + rm.cells ≤ R.cells) (hs : slots + rm.slots ≤ R.slots) :
    ∃ (v : Option Value) (T' : State) (L : List Loc), Stand p l e R s m args below meth c T' (locs ++ L) (cells + rm.cells) (slots + rm.slots) ∧ Q v T'.heap L ∧ ∀ target, Steps p.tables e below (T'.setTop { g with pc := g.pc + 3, stack := v.toList ++ rest }) target → Steps p.tables e below (T.setTop g) target := by
  have hZ := hH.wide
  obtain ⟨cq, kq, qa, qb, qc⟩ := isOf hZ eT E
  obtain ⟨v, _, ⟨T', L, k, n⟩, -, X', ⟨Lc, hQ, l1, y1, z1⟩, st⟩ := X.virtualBack hx hown (mvT hZ wl) (mvT hZ wd) hnf (mvT hZ wsel) (mvT hZ wt) hy (backOfH (W := W) M hH wc wi hf hl) qa qc hg hsize (Steps.refl _) (argsL := argsL) (rest := rest) (lenOf hpd hlen) hstack hW hd (fun _ _ => ⟨ha, eT, hc, hs⟩)
  dsimp only [Pt.U, Pt.locs, Pt.cells, Pt.slots] at X' l1 y1 z1 st hQ
  subst l1 y1 z1
  exact ⟨v, T', Lc, X', hQ, fun target k => st.trans k⟩
theorem Ctr.priv (M : Ctr l Z h y bytes maxL ret [] rm as' Q) (X : Stand p l e R s m args below meth c T locs cells slots) (hx : p.tables.exec = Jvm.exec) (hH : Z.WarmedH s.vm) (eT : T.heap = h) {own : String} {index n : Nat} (hown : s.vm.findClass own = some m.cls)
    (wl : (Jvm.Cond.methodLink own index y).before a0 Z = true) (wt : (Jvm.Cond.instanceMethod y).before a0 Z = true) (wp : (Jvm.Cond.privateMethod y).before a0 Z = true) (win : (Jvm.Cond.instantiable y.cls n).before a0 Z = true) (wi : (Jvm.Cond.initialized y.cls).before a0 Z = true) (wc : (Jvm.Cond.code y bytes maxL ret).before a0 Z = true) (hy : y.cls ≠ "java/lang/invoke/MethodHandle" ∧ y.cls ≠ "java/lang/invoke/VarHandle")
    {C : String} {a : Addr} (E : Exa Z h a C) {ps : List FieldType} {rt : Option FieldType} (hpd : parseMethodDescriptor y.desc = some ⟨ps, rt⟩) {g : JFrame} (hg : g.method = m) (hsize : g.locals.size = c.maxLocals) {argsL rest : List Value} (ha : (.ref a :: argsL).toArray = as') (hlen : argsL.length = ps.length) (hstack : g.stack = argsL.reverse ++ .ref a :: rest)
    {W : Nat} (hW : 2 * g.monitorRoom + (rest.map fun v => v.category).sum ≤ W) (hf : rm.frames + 1 ≤ R.frames) (hl : W + (maxL + 11) + rm.locals ≤ R.locals) (hd : decode c.code g.pc = .ok (.invokevirtual index, 3)) (hc : cells + rm.cells ≤ R.cells) (hs : slots + rm.slots ≤ R.slots) :
    ∃ (v : Option Value) (T' : State) (L : List Loc), Stand p l e R s m args below meth c T' (locs ++ L) (cells + rm.cells) (slots + rm.slots) ∧ Q v T'.heap L ∧ ∀ target, Steps p.tables e below (T'.setTop { g with pc := g.pc + 3, stack := v.toList ++ rest }) target → Steps p.tables e below (T.setTop g) target := by
  have hZ := hH.wide
  obtain ⟨cq, q, q'⟩ := E.cell
  obtain ⟨ck, k, i1, i2, i3, i4, -⟩ := Cond.instantiable_spec (mvT (args := args) hZ win)
  have hni : k.isInterface = false := by cases hk : k.isInterface <;> simp [hk] at i4 ⊢
  have hpr := Cond.privateMethod_at (mvP (args := args) hZ wp)
  obtain ⟨v, _, ⟨T', L, k, n⟩, -, X', ⟨Lc, hQ, l1, y1, z1⟩, st⟩ := X.privateBack hx hown (mvT hZ wl) (mvT hZ wt) (selects_self_of_private i1 i2 hni hpr (mvT hZ wt) hy) hpr (mvT hZ wc) hy (backOfH (W := W) M hH wc wi hf hl) hg hsize (Steps.refl _) (a := a) (by rw [eT]; exact q) q' (argsL := argsL) (rest := rest) (lenOf hpd hlen) hstack hW hd (fun _ _ => ⟨ha, eT, hc, hs⟩)
  dsimp only [Pt.U, Pt.locs, Pt.cells, Pt.slots] at X' l1 y1 z1 st hQ
  subst l1 y1 z1
  exact ⟨v, T', Lc, X', hQ, fun target k => st.trans k⟩
/-- a static call that a payer of the library answers, and that leaves all as it was -/
theorem paidS (X : Stand p l e R s m args below meth c T locs cells slots) (hx : p.tables.exec = Jvm.exec) (hH : Z.WarmedH s.vm) (eT : T.heap = h) {own : String} {index : Nat} (hown : s.vm.findClass own = some m.cls)
    (wl : (Jvm.Cond.methodLink own index y).before a0 Z = true) (wt : (Jvm.Cond.static y).before a0 Z = true) (wi : (Jvm.Cond.initialized y.cls).before a0 Z = true) (wc : (Jvm.Cond.code y bytes maxL ret).before a0 Z = true) (hy : y.cls ≠ "java/lang/invoke/MethodHandle" ∧ y.cls ≠ "java/lang/invoke/VarHandle")
    {W : Nat} {Pre : Pt → Array Value → Prop} {Post : Pt → Array Value → Option Value → Pt → Prop} (hK : Back l R p e below s args y 3 W Pre Post)
    {ps : List FieldType} {rt : Option FieldType} (hpd : parseMethodDescriptor y.desc = some ⟨ps, rt⟩) {g : JFrame} (hg : g.method = m) (hsize : g.locals.size = c.maxLocals) {argsL rest : List Value} (hlen : argsL.length = ps.length) (hstack : g.stack = argsL.reverse ++ rest)
    (hW : 2 * g.monitorRoom + (rest.map fun v => v.category).sum ≤ W) (hd : decode c.code g.pc = .ok (.invokestatic index, 3)) (hpre : ∀ U : State, U.heap = h → Pre ⟨U, locs, cells, slots⟩ argsL.toArray) {val : Value} (hpost : ∀ A v B, Post A argsL.toArray v B → v = some val ∧ pureAt A B) :
    ∃ T', Stand p l e R s m args below meth c T' locs cells slots ∧ T'.heap = h ∧ ∀ target, Steps p.tables e below (T'.setTop { g with pc := g.pc + 3, stack := val :: rest }) target → Steps p.tables e below (T.setTop g) target := by
  have hZ := hH.wide
  obtain ⟨v, vm1, ⟨T', L, k, n⟩, -, X', hP, st⟩ := Jvm.LawKit.callS X hx hown (mvT hZ wl) (mvT hZ wt) (mvT hZ wi) (mvT hZ wc) hy hK hg hsize (argsL := argsL) (rest := rest) (lenOf hpd hlen) hstack hW hd (fun vm1 _ => hpre _ eT)
  obtain ⟨rfl, q1, q2, q3, q4⟩ := hpost _ _ _ hP
  dsimp only [Pt.U, Pt.locs, Pt.cells, Pt.slots] at X' q1 q2 q3 q4 st
  subst q2 q3 q4
  exact ⟨T', X', by rw [q1]; exact eT, st⟩
/-- a constructor whose entry stands resolved already (a nest mate's private one) -/
theorem Ctr.specialRef (M : Ctr l Z h y bytes maxL none [] rm as' Q) (X : Stand p l e R s m args below meth c T locs cells slots) (hx : p.tables.exec = Jvm.exec) (hH : Z.WarmedH s.vm) (eT : T.heap = h) {own : String} {index : Nat} (hown : s.vm.findClass own = some m.cls) (hy1 : y.name = "<init>")
    (wl : (Jvm.Cond.methodRef own index y).before a0 Z = true) (wt : (Jvm.Cond.instanceMethod y).before a0 Z = true) (wi : (Jvm.Cond.initialized y.cls).before a0 Z = true) (wc : (Jvm.Cond.code y bytes maxL none).before a0 Z = true) (hy : y.cls ≠ "java/lang/invoke/MethodHandle" ∧ y.cls ≠ "java/lang/invoke/VarHandle")
    {ps : List FieldType} {rt : Option FieldType} (hpd : parseMethodDescriptor y.desc = some ⟨ps, rt⟩) {g : JFrame} (hg : g.method = m) (hsize : g.locals.size = c.maxLocals) {a : Addr} {argsL rest : List Value} (ha : (.ref a :: argsL).toArray = as') (hlen : argsL.length = ps.length) (hstack : g.stack = argsL.reverse ++ .ref a :: rest)
    {W : Nat} (hW : 2 * g.monitorRoom + (rest.map fun v => v.category).sum ≤ W) (hf : rm.frames + 1 ≤ R.frames) (hl : W + (maxL + 11) + rm.locals ≤ R.locals) (hd : decode c.code g.pc = .ok (.invokespecial index, 3)) (hc : cells + rm.cells ≤ R.cells) (hs : slots + rm.slots ≤ R.slots) :
    ∃ (v : Option Value) (T' : State) (L : List Loc), Stand p l e R s m args below meth c T' (locs ++ L) (cells + rm.cells) (slots + rm.slots) ∧ Q v T'.heap L ∧ ∀ target, Steps p.tables e below (T'.setTop { g with pc := g.pc + 3, stack := v.toList ++ rest }) target → Steps p.tables e below (T.setTop g) target := by
  subst hg
  have hT : Z.WarmedH T.vm := hH.trans X.warmed
  have wt' : (Jvm.Cond.instanceMethod y).before args (Z.setVm T.vm) = true := mvT (s := Z.setVm T.vm) hT.wide wt
  obtain ⟨mk, mM, hn, hm, hst, hab⟩ := Cond.instanceMethod_spec wt'
  have hnZ : Z.methodNamed? y = some mk := by rw [← hn, State.methodNamed?_setVm hT.alike]
  have wl' := Cond.methodRef_warmed39 hT.wide hnZ hy wl
  have hown' : (Z.setVm T.vm).vm.findClass own = some g.method.cls := by rw [State.vm_setVm, X.warmed.alike.findClass]; exact hown
  obtain ⟨g', c', hf', hready, hfind, hnamed⟩ := Cond.methodRef_named e hown' wl'
  cases (State.methodFound?_of_named hn hy).symm.trans hf'
  cases (findClass_of_methodNamed hn).symm.trans hfind
  obtain ⟨k, hk, -⟩ := className_of_methodNamed hn
  obtain ⟨hnm, hde⟩ := name_of_methodNamed hn hm
  have hlook : lookupSpecial T.vm mk.cls "<init>" mM.desc = .method mk := by rw [hde, ← hy1]; exact lookupSpecial_of_named hn hm hst
  obtain ⟨mM', cc, q1, -, -, -, -, -, -, hsig⟩ := Cond.code_spec hn (mvT (s := Z.setVm T.vm) (args := args) hT.wide wc)
  cases hm.symm.trans q1
  obtain ⟨v, B, X', ⟨Lc, hQ, l1, y1, z1⟩, hsteps⟩ := backOfH (W := W) (R := R) (p := p) (e := e) (below := below) (args := args) (len := 3) M hH wc wi hf hl g.method meth c ⟨T, locs, cells, slots⟩ { g with stack := rest } (.invokespecial index) mk (.ref a :: argsL).toArray X rfl hsize hd hW hn ⟨ha, eT, hc, hs⟩
  obtain ⟨T', L, k', n'⟩ := B
  dsimp only [Pt.U, Pt.locs, Pt.cells, Pt.slots] at X' l1 y1 z1 hQ hsteps
  subst l1 y1 z1
  refine ⟨v, T', Lc, X', hQ, fun target kk => ?_⟩
  jvm_step X.here [hx, hd, invokespecial.wp_init (e := e) (s := T) (k := k) (meth := mM) (m := mk) (a := a) (args := argsL) (rest := rest) (f := g) X.here.top hnamed hready hk hm (by rw [hnm]; exact hy1) hst hab hlook (lenOf hpd hlen _ hsig) hstack]
  intro acts
  rw [doInvoke_state]
  exact hsteps.trans kk
theorem Ctr.iface {xi : MethodName} (M : Ctr l Z h z bytes maxL ret [] rm as' Q) (X : Stand p l e R s m args below meth c T locs cells slots) (hx : p.tables.exec = Jvm.exec) (hH : Z.WarmedH s.vm) (eT : T.heap = h) {own C : String} {index count : Nat} (hown : s.vm.findClass own = some m.cls)
    (wl : (Jvm.Cond.methodLink own index xi).before a0 Z = true) (wd : (Jvm.Cond.declares xi).before a0 Z = true) (wf : (Jvm.Cond.interfaceMethod xi.cls xi.cls xi.name xi.desc).before a0 Z = true) (wsel : (Jvm.Cond.selects C xi z).before a0 Z = true) (wt : (Jvm.Cond.instanceMethod z).before a0 Z = true) (wp : (Jvm.Cond.publicMethod z).before a0 Z = true) (wu : (Jvm.Cond.unhidden C xi.name xi.desc).before a0 Z = true) (wk : (Jvm.Cond.castable C xi.cls).before a0 Z = true)
    (wi : (Jvm.Cond.initialized z.cls).before a0 Z = true) (wc : (Jvm.Cond.code z bytes maxL ret).before a0 Z = true) (hy : xi.cls ≠ "java/lang/invoke/MethodHandle" ∧ xi.cls ≠ "java/lang/invoke/VarHandle")
    {a : Addr} (E : Exa Z h a C) {ps : List FieldType} {rt : Option FieldType} (hpd : parseMethodDescriptor xi.desc = some ⟨ps, rt⟩) {g : JFrame} (hg : g.method = m) (hsize : g.locals.size = c.maxLocals) {argsL rest : List Value} (ha : (.ref a :: argsL).toArray = as') (hlen : argsL.length = ps.length) (hstack : g.stack = argsL.reverse ++ .ref a :: rest)
    {W : Nat} (hW : 2 * g.monitorRoom + (rest.map fun v => v.category).sum ≤ W) (hf : rm.frames + 1 ≤ R.frames) (hl : W + (maxL + 11) + rm.locals ≤ R.locals) (hd : decode c.code g.pc = .ok (.invokeinterface index count, 5)) (hc : cells + rm.cells ≤ R.cells) (hs : slots + rm.slots ≤ R.slots) :
    ∃ (v : Option Value) (T' : State) (L : List Loc), Stand p l e R s m args below meth c T' (locs ++ L) (cells + rm.cells) (slots + rm.slots) ∧ Q v T'.heap L ∧ ∀ target, Steps p.tables e below (T'.setTop { g with pc := g.pc + 5, stack := v.toList ++ rest }) target → Steps p.tables e below (T.setTop g) target := by
  have hZ := hH.wide
  obtain ⟨cq, kq, qa, qb, qc⟩ := isOf hZ eT E
  obtain ⟨v, _, ⟨T', L, k, n⟩, -, X', ⟨Lc, hQ, l1, y1, z1⟩, st⟩ := X.interfaceBack hx hown (mvT hZ wl) (mvT hZ wd) (mvT hZ wf (by simp [Cond.onTables, Cond.keepsFace, Cond.keeps, Cond.steady, Cond.faceAtom, hy.1, hy.2])) (mvT hZ wsel) (mvT hZ wt) (mvT hZ wp) (mvT hZ wu) (mvT hZ wk) hy (backOfH (W := W) M hH wc wi hf hl) qa qb qc hg hsize (Steps.refl _) (argsL := argsL) (rest := rest) (lenOf hpd hlen) hstack hW hd (fun _ _ => ⟨ha, eT, hc, hs⟩)
  dsimp only [Pt.U, Pt.locs, Pt.cells, Pt.slots] at X' l1 y1 z1 st hQ
  subst l1 y1 z1
  exact ⟨v, T', Lc, X', hQ, fun target k => st.trans k⟩
theorem CtrW.iface {xi : MethodName} {hs' : List (Nat × Nat × Nat × Nat)} (M : CtrW l Z h z bytes maxL ret hs' rm as' Q) (X : Stand p l e R s m args below meth c T locs cells slots) (hx : p.tables.exec = Jvm.exec) (hH : Z.WarmedH s.vm) (eT : T.heap = h) {own C : String} {index count : Nat} (hown : s.vm.findClass own = some m.cls)
    (wl : (Jvm.Cond.methodLink own index xi).before a0 Z = true) (wd : (Jvm.Cond.declares xi).before a0 Z = true) (wf : (Jvm.Cond.interfaceMethod xi.cls xi.cls xi.name xi.desc).before a0 Z = true) (wsel : (Jvm.Cond.selects C xi z).before a0 Z = true) (wt : (Jvm.Cond.instanceMethod z).before a0 Z = true) (wp : (Jvm.Cond.publicMethod z).before a0 Z = true) (wu : (Jvm.Cond.unhidden C xi.name xi.desc).before a0 Z = true) (wk : (Jvm.Cond.castable C xi.cls).before a0 Z = true)
    (wi : (Jvm.Cond.initialized z.cls).before a0 Z = true) (wc : (Jvm.Cond.codeWith z bytes maxL ret hs').before a0 Z = true) (hy : xi.cls ≠ "java/lang/invoke/MethodHandle" ∧ xi.cls ≠ "java/lang/invoke/VarHandle")
    {a : Addr} (E : Exa Z h a C) {ps : List FieldType} {rt : Option FieldType} (hpd : parseMethodDescriptor xi.desc = some ⟨ps, rt⟩) {g : JFrame} (hg : g.method = m) (hsize : g.locals.size = c.maxLocals) {argsL rest : List Value} (ha : (.ref a :: argsL).toArray = as') (hlen : argsL.length = ps.length) (hstack : g.stack = argsL.reverse ++ .ref a :: rest)
    {W : Nat} (hW : 2 * g.monitorRoom + (rest.map fun v => v.category).sum ≤ W) (hf : rm.frames + 1 ≤ R.frames) (hl : W + (maxL + 11) + rm.locals ≤ R.locals) (hd : decode c.code g.pc = .ok (.invokeinterface index count, 5)) (hc : cells + rm.cells ≤ R.cells) (hs : slots + rm.slots ≤ R.slots) :
    ∃ (v : Option Value) (T' : State) (L : List Loc), Stand p l e R s m args below meth c T' (locs ++ L) (cells + rm.cells) (slots + rm.slots) ∧ Q v T'.heap L ∧ ∀ target, Steps p.tables e below (T'.setTop { g with pc := g.pc + 5, stack := v.toList ++ rest }) target → Steps p.tables e below (T.setTop g) target := by
  have hZ := hH.wide
  obtain ⟨cq, kq, qa, qb, qc⟩ := isOf hZ eT E
  obtain ⟨v, _, ⟨T', L, k, n⟩, -, X', ⟨Lc, hQ, l1, y1, z1⟩, st⟩ := X.interfaceBack hx hown (mvT hZ wl) (mvT hZ wd) (mvT hZ wf (by simp [Cond.onTables, Cond.keepsFace, Cond.keeps, Cond.steady, Cond.faceAtom, hy.1, hy.2])) (mvT hZ wsel) (mvT hZ wt) (mvT hZ wp) (mvT hZ wu) (mvT hZ wk) hy (backOfHW (W := W) M hH wc wi hf hl) qa qb qc hg hsize (Steps.refl _) (argsL := argsL) (rest := rest) (lenOf hpd hlen) hstack hW hd (fun _ _ => ⟨ha, eT, hc, hs⟩)
  dsimp only [Pt.U, Pt.locs, Pt.cells, Pt.slots] at X' l1 y1 z1 st hQ
  subst l1 y1 z1
  exact ⟨v, T', Lc, X', hQ, fun target k => st.trans k⟩
theorem Ctr.virtualUp (M : Ctr l Z h z bytes maxL ret [] rm as' Q) (X : Stand p l e R s m args below meth c T locs cells slots) (hx : p.tables.exec = Jvm.exec) (hH : Z.WarmedH s.vm) (eT : T.heap = h) {own C owner : String} {index : Nat} (hown : s.vm.findClass own = some m.cls)
    (wl : (Jvm.Cond.methodLink own index y).before a0 Z = true) (wsm : (Jvm.Cond.sameMethod y.cls owner y.name y.desc).before a0 Z = true) (wd : (Jvm.Cond.declares ⟨owner, y.name, y.desc⟩).before a0 Z = true) (ho : owner ≠ "java/lang/invoke/MethodHandle" ∧ owner ≠ "java/lang/invoke/VarHandle") (wsel : (Jvm.Cond.selects C y z).before a0 Z = true) (wt : (Jvm.Cond.instanceMethod z).before a0 Z = true) (wi : (Jvm.Cond.initialized z.cls).before a0 Z = true) (wc : (Jvm.Cond.code z bytes maxL ret).before a0 Z = true)
    {a : Addr} (E : Exa Z h a C) {ps : List FieldType} {rt : Option FieldType} (hpd : parseMethodDescriptor y.desc = some ⟨ps, rt⟩) {g : JFrame} (hg : g.method = m) (hsize : g.locals.size = c.maxLocals) {argsL rest : List Value} (ha : (.ref a :: argsL).toArray = as') (hlen : argsL.length = ps.length) (hstack : g.stack = argsL.reverse ++ .ref a :: rest)
    {W : Nat} (hW : 2 * g.monitorRoom + (rest.map fun v => v.category).sum ≤ W) (hf : rm.frames + 1 ≤ R.frames) (hl : W + (maxL + 11) + rm.locals ≤ R.locals) (hd : decode c.code g.pc = .ok (.invokevirtual index, 3)) (hc : cells + rm.cells ≤ R.cells) (hs : slots + rm.slots ≤ R.slots) :
    ∃ (v : Option Value) (T' : State) (L : List Loc), Stand p l e R s m args below meth c T' (locs ++ L) (cells + rm.cells) (slots + rm.slots) ∧ Q v T'.heap L ∧ ∀ target, Steps p.tables e below (T'.setTop { g with pc := g.pc + 3, stack := v.toList ++ rest }) target → Steps p.tables e below (T.setTop g) target := by
  have hZ := hH.wide
  obtain ⟨cq, kq, qa, qb, qc⟩ := isOf hZ eT E
  obtain ⟨v, _, ⟨T', L, k, n⟩, -, X', ⟨Lc, hQ, l1, y1, z1⟩, st⟩ := X.virtualBackUp hx hown (mvT hZ wl) (mvT hZ wsm) (mvT hZ wd) ho (mvT hZ wsel) (mvT hZ wt) (backOfH (W := W) M hH wc wi hf hl) qa qc hg hsize (Steps.refl _) (argsL := argsL) (rest := rest) (lenOf hpd hlen) hstack hW hd (fun _ _ => ⟨ha, eT, hc, hs⟩)
  dsimp only [Pt.U, Pt.locs, Pt.cells, Pt.slots] at X' l1 y1 z1 st hQ
  subst l1 y1 z1
  exact ⟨v, T', Lc, X', hQ, fun target k => st.trans k⟩
end Calls
/-! ## an array by the list of what it holds -/
def Arl (Z : State) (h : Heap) (a : Addr) (ty : FieldType) (vs : List Value) : Prop := ∃ c : Cell, Arr Z h a c ty ∧ c.slots.toList = vs ∧ vs.length < 2 ^ 31
section Arls
variable {p : Program} {l : Launch} {e : Env} {R : Room} {s : State} {m : MethodId} {args : Array Value} {below : List Frame} {meth : Method} {c : Code} {T : State} {locs : List Loc} {cells slots : Nat} {Z : State} {a0 : Array Value} {h h' h0 : Heap}
variable {a b : Addr} {ty : FieldType} {vs : List Value} {v : Value} {sl : Nat} {ws : List Addr}
theorem Arl.lt (F : Arl Z h a ty vs) : a < h.size := by obtain ⟨c, A, -⟩ := F; exact A.lt
theorem Arl.ext (F : Arl Z h a ty vs) (E : Ext h h') : Arl Z h' a ty vs := by obtain ⟨c, A, r⟩ := F; exact ⟨c, A.ext E, r⟩
theorem Arl.other (F : Arl Z h b ty vs) (W : Wr h h' a sl v) (q : b ≠ a) : Arl Z h' b ty vs := by obtain ⟨c, A, r⟩ := F; exact ⟨c, A.other W q, r⟩
theorem Arl.keep (F : Arl Z h a ty vs) (K : Keep h h' ws) (q : a ∉ ws) : Arl Z h' a ty vs := by obtain ⟨c, A, r⟩ := F; exact ⟨c, ⟨K.2.1 a c A.1 q, A.2⟩, r⟩
theorem Arl.wr (F : Arl Z h a ty vs) (W : Wr h h' a sl v) : Arl Z h' a ty (vs.set sl v) := by
  obtain ⟨c, A, e, q⟩ := F
  exact ⟨c.setSlot sl v, A.same W, by rw [← e]; simp [Cell.setSlot], by simpa using q⟩
theorem Arl.inb {c : Cell} {j : Int32} {i : Nat} (e : c.slots.toList = vs) (hj : j.toNatClampNeg = i) (h0 : ¬ j < 0) (hi : i < vs.length) : ¬ (j < 0 ∨ c.slots.size ≤ j.toNatClampNeg) := by
  subst hj e
  rintro (q | q)
  · exact h0 q
  · simp at hi; omega
theorem Arl.at {c : Cell} {j : Int32} {i : Nat} (e : c.slots.toList = vs) (hj : j.toNatClampNeg = i) (hv : vs[i]? = some v) : c.slots[j.toNatClampNeg]? = some v := by
  subst hj e; simpa using hv
theorem some_lt {i : Nat} (hv : vs[i]? = some v) : i < vs.length := (List.getElem?_eq_some_iff.mp hv).1
theorem newL (X : Stand p l e R s m args below meth c T locs cells slots) (hx : p.tables.exec = Jvm.exec) (hZ : Z.Warmed39 s.vm) {aty : ArrayType} (w : (Jvm.Cond.arrayClass (newarray.typeOf aty)).before a0 Z = true) (eT : T.heap = h) {g : JFrame} (hg : g.method = m) (hd : decode c.code g.pc = .ok (.newarray aty, 2)) {n : Int32} {rest : List Value} (hs : g.stack = .int n :: rest)
    (hn : ¬ n < 0) {cap : Nat} (hcap : n.toNatClampNeg = cap) (hb : cap * 8 ≤ 536870912) (hc : cells + 1 ≤ R.cells) (hl : slots + cap ≤ R.slots) :
    ∃ T' h', Stand p l e R s m args below meth c T' locs (cells + 1) (slots + cap) ∧ T'.heap = h' ∧ Ext h h' ∧ Arl Z h' h.size (newarray.typeOf aty) (List.replicate cap (defaultValue (newarray.typeOf aty))) ∧
      ∀ target, Steps p.tables e below (T'.setTop { g with pc := g.pc + 2, stack := .ref h.size :: rest }) target → Steps p.tables e below (T.setTop g) target := by
  obtain ⟨T', h', cA, X', e', E, A, st⟩ := newP X hx hZ w eT hg hd hs hn (cap := cap) (Nat.le_of_eq hcap) hb hc hl
  refine ⟨T', h', X', e', E, ⟨_, A, by simp [newA, hcap], ?_⟩, st⟩
  have := (back32 hn).2
  rw [List.length_replicate]; omega
theorem lenL (X : Stand p l e R s m args below meth c T locs cells slots) (hx : p.tables.exec = Jvm.exec) (hZ : Z.Warmed39 s.vm) (eT : T.heap = h) (F : Arl Z h a ty vs) {n : Int32} (hn : vs.length.toInt32 = n) {g : JFrame} (hg : g.method = m) {rest : List Value} (hs : g.stack = .ref a :: rest) (hd : decode c.code g.pc = .ok (.arraylength, 1)) (target : State)
    (k : Steps p.tables e below (T.setTop { g with pc := g.pc + 1, stack := .int n :: rest }) target) : Steps p.tables e below (T.setTop g) target := by
  obtain ⟨cl, A, e1, q⟩ := F
  have q2 : cl.slots.size.toInt32 = n := by rw [← hn, ← e1]; simp
  exact X.arraylength hx (by rw [eT]; exact A.1) (State.isArrayOf_alike hZ.alike A.2.1) hg hs hd target (by rw [q2]; exact k)
theorem ldD (X : Stand p l e R s m args below meth c T locs cells slots) (hx : p.tables.exec = Jvm.exec) (hZ : Z.Warmed39 s.vm) (eT : T.heap = h) (F : Arl Z h a .double vs) {j : Int32} {i : Nat} (hj : j.toNatClampNeg = i) (h0 : ¬ j < 0) (hv : vs[i]? = some v) {g : JFrame} (hg : g.method = m) {rest : List Value} (hs : g.stack = .int j :: .ref a :: rest) (hd : decode c.code g.pc = .ok (.daload, 1)) (target : State)
    (k : Steps p.tables e below (T.setTop { g with pc := g.pc + 1, stack := v :: rest }) target) : Steps p.tables e below (T.setTop g) target := by
  obtain ⟨cl, A, e1, q⟩ := F
  exact X.daload hx (by rw [eT]; exact A.1) (State.isArrayOf_alike hZ.alike A.2.1) A.2.2 (Arl.inb e1 hj h0 (some_lt hv)) (Arl.at e1 hj hv) hg hs hd target k
theorem ldI (X : Stand p l e R s m args below meth c T locs cells slots) (hx : p.tables.exec = Jvm.exec) (hZ : Z.Warmed39 s.vm) (eT : T.heap = h) (F : Arl Z h a .int vs) {j : Int32} {i : Nat} (hj : j.toNatClampNeg = i) (h0 : ¬ j < 0) (hv : vs[i]? = some v) {g : JFrame} (hg : g.method = m) {rest : List Value} (hs : g.stack = .int j :: .ref a :: rest) (hd : decode c.code g.pc = .ok (.iaload, 1)) (target : State)
    (k : Steps p.tables e below (T.setTop { g with pc := g.pc + 1, stack := v :: rest }) target) : Steps p.tables e below (T.setTop g) target := by
  obtain ⟨cl, A, e1, q⟩ := F
  exact X.iaload hx (by rw [eT]; exact A.1) (State.isArrayOf_alike hZ.alike A.2.1) A.2.2 (Arl.inb e1 hj h0 (some_lt hv)) (Arl.at e1 hj hv) hg hs hd target k
theorem ldJ (X : Stand p l e R s m args below meth c T locs cells slots) (hx : p.tables.exec = Jvm.exec) (hZ : Z.Warmed39 s.vm) (eT : T.heap = h) (F : Arl Z h a .long vs) {j : Int32} {i : Nat} (hj : j.toNatClampNeg = i) (h0 : ¬ j < 0) (hv : vs[i]? = some v) {g : JFrame} (hg : g.method = m) {rest : List Value} (hs : g.stack = .int j :: .ref a :: rest) (hd : decode c.code g.pc = .ok (.laload, 1)) (target : State)
    (k : Steps p.tables e below (T.setTop { g with pc := g.pc + 1, stack := v :: rest }) target) : Steps p.tables e below (T.setTop g) target := by
  obtain ⟨cl, A, e1, q⟩ := F
  exact X.laload hx (by rw [eT]; exact A.1) (State.isArrayOf_alike hZ.alike A.2.1) A.2.2 (Arl.inb e1 hj h0 (some_lt hv)) (Arl.at e1 hj hv) hg hs hd target k
theorem ldZ (X : Stand p l e R s m args below meth c T locs cells slots) (hx : p.tables.exec = Jvm.exec) (hZ : Z.Warmed39 s.vm) (eT : T.heap = h) (F : Arl Z h a .boolean vs) {j : Int32} {i : Nat} (hj : j.toNatClampNeg = i) (h0 : ¬ j < 0) (hv : vs[i]? = some v) {g : JFrame} (hg : g.method = m) {rest : List Value} (hs : g.stack = .int j :: .ref a :: rest) (hd : decode c.code g.pc = .ok (.baload, 1)) (target : State)
    (k : Steps p.tables e below (T.setTop { g with pc := g.pc + 1, stack := v :: rest }) target) : Steps p.tables e below (T.setTop g) target := by
  obtain ⟨cl, A, e1, q⟩ := F
  exact X.baloadBooleans hx (by rw [eT]; exact A.1) (State.isArrayOf_alike hZ.alike A.2.1) A.2.2 (Arl.inb e1 hj h0 (some_lt hv)) (Arl.at e1 hj hv) hg hs hd target k
theorem ldR (X : Stand p l e R s m args below meth c T locs cells slots) (hx : p.tables.exec = Jvm.exec) (hZ : Z.Warmed39 s.vm) (eT : T.heap = h) (F : Arl Z h a ty vs) (hty : ty.isReference = true) {j : Int32} {i : Nat} (hj : j.toNatClampNeg = i) (h0 : ¬ j < 0) (hv : vs[i]? = some v) {g : JFrame} (hg : g.method = m) {rest : List Value} (hs : g.stack = .int j :: .ref a :: rest) (hd : decode c.code g.pc = .ok (.aaload, 1)) (target : State)
    (k : Steps p.tables e below (T.setTop { g with pc := g.pc + 1, stack := v :: rest }) target) : Steps p.tables e below (T.setTop g) target := by
  obtain ⟨cl, A, e1, q⟩ := F
  exact X.aaload hx (by rw [eT]; exact A.1) (State.isArrayOf_alike hZ.alike A.2.1) hty A.2.2 (Arl.inb e1 hj h0 (some_lt hv)) (Arl.at e1 hj hv) hg hs hd target k
theorem stDl (X : Stand p l e R s m args below meth c T locs cells slots) (hx : p.tables.exec = Jvm.exec) (hZ : Z.Warmed39 s.vm) (eT : T.heap = h) (F : Arl Z h a .double vs) {j : Int32} {i : Nat} {x : UInt64} (hj : j.toNatClampNeg = i) (h0 : ¬ j < 0) (hi : i < vs.length) {g : JFrame} (hg : g.method = m) {rest : List Value} (hs : g.stack = .double x :: .int j :: .ref a :: rest) (hd : decode c.code g.pc = .ok (.dastore, 1)) :
    ∃ T' h', Stand p l e R s m args below meth c T' (locs ++ [⟨a, i⟩]) cells slots ∧ T'.heap = h' ∧ Wr h h' a i (.double x) ∧ Arl Z h' a .double (vs.set i (.double x)) ∧ ∀ target, Steps p.tables e below (T'.setTop { g with pc := g.pc + 1, stack := rest }) target → Steps p.tables e below (T.setTop g) target := by
  have F0 := F
  obtain ⟨cl, A, e1, q⟩ := F
  obtain ⟨T', h', X', e', W, st⟩ := stD X hx hZ eT A (Arl.inb e1 hj h0 hi) hg hs hd
  subst hj
  exact ⟨T', h', X', e', W, F0.wr W, st⟩
theorem stIl (X : Stand p l e R s m args below meth c T locs cells slots) (hx : p.tables.exec = Jvm.exec) (hZ : Z.Warmed39 s.vm) (eT : T.heap = h) (F : Arl Z h a .int vs) {j : Int32} {i : Nat} {x : Int32} (hj : j.toNatClampNeg = i) (h0 : ¬ j < 0) (hi : i < vs.length) {g : JFrame} (hg : g.method = m) {rest : List Value} (hs : g.stack = .int x :: .int j :: .ref a :: rest) (hd : decode c.code g.pc = .ok (.iastore, 1)) :
    ∃ T' h', Stand p l e R s m args below meth c T' (locs ++ [⟨a, i⟩]) cells slots ∧ T'.heap = h' ∧ Wr h h' a i (.int x) ∧ Arl Z h' a .int (vs.set i (.int x)) ∧ ∀ target, Steps p.tables e below (T'.setTop { g with pc := g.pc + 1, stack := rest }) target → Steps p.tables e below (T.setTop g) target := by
  have F0 := F
  obtain ⟨cl, A, e1, q⟩ := F
  obtain ⟨T', h', X', e', W, st⟩ := stI X hx hZ eT A (Arl.inb e1 hj h0 hi) hg hs hd
  subst hj
  exact ⟨T', h', X', e', W, F0.wr W, st⟩
theorem stJl (X : Stand p l e R s m args below meth c T locs cells slots) (hx : p.tables.exec = Jvm.exec) (hZ : Z.Warmed39 s.vm) (eT : T.heap = h) (F : Arl Z h a .long vs) {j : Int32} {i : Nat} {x : Int64} (hj : j.toNatClampNeg = i) (h0 : ¬ j < 0) (hi : i < vs.length) {g : JFrame} (hg : g.method = m) {rest : List Value} (hs : g.stack = .long x :: .int j :: .ref a :: rest) (hd : decode c.code g.pc = .ok (.lastore, 1)) :
    ∃ T' h', Stand p l e R s m args below meth c T' (locs ++ [⟨a, i⟩]) cells slots ∧ T'.heap = h' ∧ Wr h h' a i (.long x) ∧ Arl Z h' a .long (vs.set i (.long x)) ∧ ∀ target, Steps p.tables e below (T'.setTop { g with pc := g.pc + 1, stack := rest }) target → Steps p.tables e below (T.setTop g) target := by
  have F0 := F
  obtain ⟨cl, A, e1, q⟩ := F
  obtain ⟨T', h', X', e', W, st⟩ := stJ X hx hZ eT A (Arl.inb e1 hj h0 hi) hg hs hd
  subst hj
  exact ⟨T', h', X', e', W, F0.wr W, st⟩
theorem stZl (X : Stand p l e R s m args below meth c T locs cells slots) (hx : p.tables.exec = Jvm.exec) (hZ : Z.Warmed39 s.vm) (eT : T.heap = h) (F : Arl Z h a .boolean vs) {j : Int32} {i : Nat} {x : Int32} (hn : nar .boolean x = x) (hj : j.toNatClampNeg = i) (h0 : ¬ j < 0) (hi : i < vs.length) {g : JFrame} (hg : g.method = m) {rest : List Value} (hs : g.stack = .int x :: .int j :: .ref a :: rest) (hd : decode c.code g.pc = .ok (.bastore, 1)) :
    ∃ T' h', Stand p l e R s m args below meth c T' (locs ++ [⟨a, i⟩]) cells slots ∧ T'.heap = h' ∧ Wr h h' a i (.int x) ∧ Arl Z h' a .boolean (vs.set i (.int x)) ∧ ∀ target, Steps p.tables e below (T'.setTop { g with pc := g.pc + 1, stack := rest }) target → Steps p.tables e below (T.setTop g) target := by
  have F0 := F
  obtain ⟨cl, A, e1, q⟩ := F
  obtain ⟨T', h', X', e', W, st⟩ := stZ X hx hZ eT A (Arl.inb e1 hj h0 hi) hg hs hd
  rw [hn] at W
  subst hj
  exact ⟨T', h', X', e', W, F0.wr W, st⟩
theorem Arv.arl {k : ClassId} {n : Int32} {d : Value} (F : Arv Z h a k ty n vs d) (hl : vs.length = n.toNatClampNeg) : Arl Z h a ty vs := by
  obtain ⟨c, A, -, S, q, H, -⟩ := F
  refine ⟨c, A, ?_, by rw [hl]; exact (back32 q).2⟩
  refine List.ext_getElem? fun i => ?_
  rw [Array.getElem?_toList]
  by_cases hi : i < c.slots.size
  · rw [H i hi, List.getD_eq_getElem?_getD, List.getElem?_eq_getElem (by omega)]; simp
  · rw [Array.getElem?_eq_none (by omega), List.getElem?_eq_none (by omega)]
theorem gridL (X : Stand p l e R s m args below meth c T locs cells slots) (hx : p.tables.exec = Jvm.exec) (hZ : Z.Warmed39 s.vm) {own C ad : String} {index : Nat} (hown : s.vm.findClass own = some m.cls) (hC : (FieldType.array ty).toString = C) (had : "[" ++ C = ad)
    (w1 : (Jvm.Cond.classLink own index ad).before a0 Z = true) (w2 : (Jvm.Cond.arrayOver (.array ty)).before a0 Z = true) (w3 : (Jvm.Cond.arrayClass ty).before a0 Z = true) (eT : T.heap = h) {g : JFrame} (hg : g.method = m) (hd : decode c.code g.pc = .ok (.multianewarray index 2, 4)) {n k : Int32} {rest : List Value} (hs : g.stack = .int k :: .int n :: rest)
    (hn : ¬ n < 0) (hk : ¬ k < 0) {N cap : Nat} (hN : n.toNatClampNeg = N) (hcap : k.toNatClampNeg = cap) (hb : cap * 8 ≤ 536870912) (hb1 : N ≤ 1000) (hdf : fits ty (defaultValue ty) = true) (hdd : (defaultValue ty).isDefault = true) (hc : cells + (1 + N) ≤ R.cells) (hl : slots + (N + N * cap) ≤ R.slots) :
    ∃ (T' : State) (h' : Heap), Stand p l e R s m args below meth c T' locs (cells + (1 + N)) (slots + (N + N * cap)) ∧ T'.heap = h' ∧ Ext h h' ∧ Arl Z h' h.size (.array ty) ((List.range N).map fun j => .ref (h.size + 1 + j)) ∧
      (∀ j, j < N → Arl Z h' (h.size + 1 + j) ty (List.replicate cap (defaultValue ty))) ∧
      ∀ target, Steps p.tables e below (T'.setTop { g with pc := g.pc + 4, stack := .ref h.size :: rest }) target → Steps p.tables e below (T.setTop g) target := by
  obtain ⟨T', h', cA, comp, X', e', E, A, -, -, I, st⟩ := gridM X hx hZ hown hC had w1 w2 w3 eT hg hd hs hn hk hN rfl (Nat.le_of_eq hcap) hb hb1 hdf hdd hc hl
  refine ⟨T', h', X', e', E, ?_, fun j hj => ?_, st⟩
  · have := Arv.arl A (by simp [hN])
    rw [List.map_map] at this
    exact this
  · obtain ⟨AI, -⟩ := I j (h.size + 1 + j) (by simp [hj])
    refine ⟨_, AI, by simp [newA, hcap], ?_⟩
    have := (back32 hk).2
    rw [List.length_replicate]; omega
end Arls
end Jvm.OwnKit
@@BLOCK:LamKit.lean.txt@@
namespace Jvm.OwnKit
open Sem ClassFile Op Lib Jvm.Stand Jvm.Free Jvm.LawKit Jvm.RoadKit
/-! ## a lambda that captures nothing: its site in the tables of Z, its one object -/
def Site (Z : State) (x : MethodName) (pc : Nat) (a : Addr) : Prop := ∃ (m : MethodId) (k : Class) (i0 p0 : Nat), Z.methodNamed? x = some m ∧ Z.vm.classes[m.cls]? = some k ∧ (k.callSites.find? fun y => y.1 == m.idx && y.2.1 == pc) = some (i0, p0, .constant a)
def Fn (h : Heap) (a : Addr) (cK : ClassId) : Prop := Jvm.LamKit.FnAt h a cK
section Lams
variable {p : Program} {l : Launch} {e : Env} {R : Room} {s : State} {m : MethodId} {args : Array Value} {below : List Frame} {meth : Method} {c : Code} {T : State} {locs : List Loc} {cells slots : Nat} {Z : State} {a0 : Array Value} {h h' : Heap} {a b : Addr} {cK : ClassId} {sl : Nat} {v : Value} {ws : List Addr}
theorem Fn.lt (F : Fn h a cK) : a < h.size := by obtain ⟨cl, q, -⟩ := F; exact (Array.getElem?_eq_some_iff.mp q).1
theorem Fn.ext (F : Fn h a cK) (E : Ext h h') : Fn h' a cK := by obtain ⟨cl, q, r⟩ := F; exact ⟨cl, E.2 a cl q, r⟩
theorem Fn.wr (F : Fn h a cK) (W : Wr h h' b sl v) : Fn h' a cK := by
  obtain ⟨cl, q, r1, r2⟩ := F
  obtain ⟨c', e1, e2, e3, -⟩ := wr_at W q
  exact ⟨c', e1, by rw [e2]; exact r1, by rw [e3]; exact r2⟩
theorem Fn.keep (F : Fn h a cK) (K : Keep h h' ws) : Fn h' a cK := by
  obtain ⟨cl, q, r1, r2⟩ := F
  obtain ⟨c', e1, e2, e3, -⟩ := K.2.2 a cl q
  exact ⟨c', e1, by rw [e2]; exact r1, by rw [e3]; exact r2⟩
theorem siteOf {x : MethodName} {pc index : Nat} {σ : Lambda.Shape} (hs : (Jvm.Cond.lambdaSite x pc index σ).before a0 Z = true) (hcap : σ.captured = []) :
    ∃ (a : Addr) (cK : ClassId), Site Z x pc a ∧ Fn Z.heap a cK ∧ Jvm.LamKit.Made Z x.cls σ cK := by
  obtain ⟨cK, one, hat⟩ := Cond.lambdaSite_spec hs
  obtain ⟨mD, kD, cf, i0, p0, lk, hm, hk, -, -, -, hfind, hmade, hcan, hl⟩ := State.lambdaAt?_spec hat
  obtain ⟨k', hk', hn⟩ := className_of_methodNamed hm
  cases hk.symm.trans hk'
  rcases hl with ⟨a, cell, rfl, -, -, hcell, hcls, hvm, -⟩ | ⟨-, -, hne⟩
  · exact ⟨a, cK, ⟨mD, kD, i0, p0, hm, hk, hfind⟩, ⟨cell, hcell, hcls, hvm⟩, mD.cls, kD, hk, hn, hmade, hcan⟩
  · exact absurd hcap hne
theorem made_ride {host : String} {σ : Lambda.Shape} (hH : Z.WarmedH s.vm) (M : Jvm.LamKit.Made Z host σ cK) : Jvm.LamKit.Made s host σ cK := by
  obtain ⟨d, dk, h1, h2, h3, h4⟩ := M
  obtain ⟨dk', q, qe⟩ := hH.alike.2.2 _ _ h1
  have hA := hH.alike
  refine ⟨d, dk', q, by rw [qe]; exact h2, Lambda.isMade_warmer hH h3, ?_⟩
  simp only [State.lambdaCallable, hA.findClass, hA.assignable, hA.superclasses, hA.declaredIn] at h4 ⊢
  exact h4
theorem siteH (X : Stand p l e R s m args below meth c T locs cells slots) (hx : p.tables.exec = Jvm.exec) (hH : Z.WarmedH s.vm) {x : MethodName} {pc index : Nat} (hnamed : s.methodNamed? x = some m) (S : Site Z x pc a) {g : JFrame} (hg : g.method = m) (hsize : g.locals.size = c.maxLocals) (hpc : g.pc = pc)
    (hd : decode c.code g.pc = .ok (.invokedynamic index, 5)) {W : Nat} (hW : 2 * g.monitorRoom + (g.stack.map fun v => v.category).sum ≤ W) (hl : W + 3072 ≤ R.locals) (target : State)
    (k : Steps p.tables e below (T.setTop { g with pc := g.pc + 5, stack := .ref a :: g.stack }) target) : Steps p.tables e below (T.setTop g) target := by
  obtain ⟨mD, kD, i0, p0, hm, hk, hfind⟩ := S
  have hm' : (Z.setVm s.vm).methodNamed? x = some mD := by rw [State.methodNamed?_setVm hH.alike]; exact hm
  cases hnamed.symm.trans hm'
  obtain ⟨k', q, qe⟩ := hH.alike.2.2 _ _ hk
  have hw : e.platform.lambdaLinkWords = 3072 := by rw [X.admits.platform]
  exact X.lambdaConstant hx hg hsize hd q (by rw [qe, hpc]; exact hfind) (by rw [hw]; omega) k
/-- an interface call on that object: the forwarder, and the target by its contract -/
theorem Ctr.lam {y xi : MethodName} {bytes : ByteArray} {maxL : Nat} {ret : Option FieldType} {rm : Room} {as' : Array Value} {w : Int32} {n0 : Nat} {Q : Option Value → Heap → List Loc → Prop} (M : Ctr l Z h y bytes maxL ret [] rm as' Q) (hQ : ∀ v h' L, Q v h' L → v = some (.int w) ∧ Fr n0 L ∧ h' = h)
    (X : Stand p l e R s m args below meth c T locs cells slots) (hx : p.tables.exec = Jvm.exec) (hH : Z.WarmedH s.vm) (eT : T.heap = h) {own host : String} {index count : Nat} {σ : Lambda.Shape} (hown : s.vm.findClass own = some m.cls)
    (wl : (Jvm.Cond.methodLink own index xi).before a0 Z = true) (wd : (Jvm.Cond.declares xi).before a0 Z = true) (wf : (Jvm.Cond.interfaceMethod xi.cls xi.cls xi.name xi.desc).before a0 Z = true) (wc : (Jvm.Cond.code y bytes maxL ret).before a0 Z = true) (wt : (Jvm.Cond.static y).before a0 Z = true) (wi : (Jvm.Cond.initialized y.cls).before a0 Z = true)
    (hxi : xi.cls = σ.iface ∧ xi.name = σ.name ∧ xi.desc = σ.sam.toString) (hy : y.cls = σ.implClass ∧ y.name = σ.implName ∧ y.desc = σ.implDesc.toString) (hp1 : xi.cls ≠ "java/lang/invoke/MethodHandle" ∧ xi.cls ≠ "java/lang/invoke/VarHandle") (hp2 : y.cls ≠ "java/lang/invoke/MethodHandle" ∧ y.cls ≠ "java/lang/invoke/VarHandle")
    (hmd : Jvm.LamKit.Made Z host σ cK) (F : Fn h a cK) {fcode : ByteArray} {idx ci : Nat} (hok : Jvm.LamKit.fwdOK σ host fcode 3 (some .int) idx ci = true) (d0 : decode fcode 0 = .ok (.aload_n 1, 1)) (d1 : decode fcode 1 = .ok (.aload_n 2, 1)) (d2 : decode fcode 2 = .ok (.invokestatic idx, 3)) (d5 : decode fcode 5 = .ok (.ireturn, 1))
    {g : JFrame} (hg : g.method = m) (hsize : g.locals.size = c.maxLocals) {u1 u2 : Addr} {rest : List Value} (ha : #[.ref u1, .ref u2] = as') {q1 q2 : FieldType} {r1 r2 : Option FieldType} (hpd : parseMethodDescriptor xi.desc = some ⟨[q1, q2], r1⟩) (hpd' : parseMethodDescriptor y.desc = some ⟨[q1, q2], r2⟩) (hstack : g.stack = .ref u2 :: .ref u1 :: .ref a :: rest)
    {W : Nat} (hW : 2 * g.monitorRoom + (rest.map fun v => v.category).sum ≤ W) (hf : rm.frames + 2 ≤ R.frames) (hl : W + 14 + (maxL + 11) + rm.locals ≤ R.locals) (hd : decode c.code g.pc = .ok (.invokeinterface index count, 5)) (hc0 : rm.cells = 0) (hs0 : rm.slots = 0) (hc : cells ≤ R.cells) (hs : slots ≤ R.slots) :
    ∃ (T' : State) (L : List Loc), Stand p l e R s m args below meth c T' (locs ++ L) cells slots ∧ Fr n0 L ∧ T'.heap = h ∧ ∀ target, Steps p.tables e below (T'.setTop { g with pc := g.pc + 5, stack := .int w :: rest }) target → Steps p.tables e below (T.setTop g) target := by
  have hZ := hH.wide
  have Me : Met l y [Jvm.Cond.code y bytes maxL ret] rm (fun a U => a = as' ∧ Z.WarmedH U.vm ∧ U.heap = h) (fun _ _ o t => o = .returned (some (.int w)) ∧ t.heap = h) 0 0 (fun b => n0 ≤ b) := by
    refine MetFree.mono (K := fun _ _ _ _ _ => True) M (fun _ _ q => q) (fun _ _ _ _ _ q => q) ?_
    rintro b U o U' - ⟨v, L, rfl, q, fe⟩
    obtain ⟨rfl, n, e1⟩ := hQ _ _ _ q
    rw [hc0, hs0] at fe
    exact ⟨⟨rfl, e1⟩, L, fe, n⟩
  have F' : Jvm.LamKit.FnAt T.heap a cK := by rw [eT]; exact F
  obtain ⟨v, st, t, T', L, X', hL, e1, e2, ⟨hv, e3⟩, hst⟩ := Jvm.LamKit.callLamS X hx Me (fun _ _ _ _ q => q) hc0 hs0
    (fun d hd a' U hU => by cases List.mem_singleton.mp hd; exact mv (hH.trans hU).wide wc) (List.mem_singleton.mpr rfl) hown (mvT hZ wl) (mvT hZ wd) (mvT hZ wf (by simp [Cond.onTables, Cond.keepsFace, Cond.keeps, Cond.steady, Cond.faceAtom, hp1.1, hp1.2])) (mvT hZ wc) (mvT hZ wt) (mvT hZ wi) hxi hy ⟨hp1, hp2⟩
    (made_ride hH hmd) F' hok (pcI := 2) (op := .ireturn) d2 d5 hg hsize (argsL := [.ref u1, .ref u2]) (argsT := [.ref u1, .ref u2]) (rest := rest) (L0 := #[.val (.ref a), .val (.ref u1), .val (.ref u2)])
    (lenOf hpd rfl) (lenOf hpd' rfl) hstack hd (fun mk => rfl) rfl
    (fun U ck bl target hat hcd _ _ k => by
      refine XS.aloadN hat hx rfl (by rw [hcd]; exact d0) rfl rfl ?_
      refine XS.aloadN hat hx rfl (by rw [hcd]; exact d1) rfl rfl ?_
      exact k)
    (fun st v t q => Or.inl ⟨.int, w, rfl, Or.inl rfl, rfl, rfl, by have := q.1; simpa using this⟩)
    hf (by omega) (by omega) (by omega) (fun U hU hh => ⟨ha, hH.trans hU, hh.trans eT⟩)
  obtain rfl : v = some (.int w) := by simpa using hv
  exact ⟨T', L, X', hL, e1.trans e3, hst⟩
end Lams
end Jvm.OwnKit
namespace Jvm.Pilot.@@N@@
open Jvm Jvm.ClassFile Sem Op Lib Jvm.Free Jvm.Stand Jvm.LawKit Jvm.RoadKit Jvm.OwnKit Bundle Jvm.Pilot.@@N@@.Jvm.D

def NSt (h : Heap) (w : Addr) : Prop := ∀ c : Cell, h[w]? = some c → c.vm.isStatics = false
theorem NSt.of {Z : State} {h : Heap} {w : Addr} {C : String} (E : Exa Z h w C) : NSt h w := fun c q => by
  obtain ⟨cell, k, h1, -, -, h4, -⟩ := E
  cases h1.symm.trans q; exact h4
theorem own_all0 {P : Addr → Prop} : ∀ w ∈ ([] : List Addr), P w := fun _ q => nomatch q
theorem own_allS {P : Addr → Prop} {a : Addr} {ws : List Addr} (p : P a) (q : ∀ w ∈ ws, P w) : ∀ w ∈ a :: ws, P w := fun w z => by
  rcases List.mem_cons.mp z with rfl | z
  · exact p
  · exact q w z
theorem own_staKeep {Z : State} {h h' : Heap} {ws : List Addr} {C n d : String} {v : Value} (F : Sta Z h C n d v) (K : Keep h h' ws) (q : ∀ w ∈ ws, NSt h w) : Sta Z h' C n d v := by
  obtain ⟨cf, i, k, f, st, cell, h1, h2, h3, h4, h5, h6, h7⟩ := F
  refine ⟨cf, i, k, f, st, cell, h1, h2, h3, h4, K.2.1 st cell h5 fun z => ?_, h6, h7⟩
  have := q st z cell h5
  rw [h6] at this; cases this
theorem own_fld {Z : State} {h : Heap} {a : Addr} {C n d : String} {v w : Value} (F : Fld Z h a C n d v) (G : Fld Z h a C n d w) : v = w := by
  obtain ⟨c1, f1, k1, i1, g1, q1, q2, -, -, -, -, q3⟩ := F
  obtain ⟨c2, f2, k2, i2, g2, r1, r2, -, -, -, -, r3⟩ := G
  cases q1.symm.trans r1
  cases q2.symm.trans r2
  exact Option.some.inj (q3.symm.trans r3)
theorem own_neI {Z : State} {h : Heap} {a b : Addr} {C n d : String} {x y : Int32} (F : Fld Z h a C n d (.int x)) (G : Fld Z h b C n d (.int y)) (q : x ≠ y) : a ≠ b := fun e => by
  subst e; exact q (Value.int.inj (own_fld F G))
theorem own_neJ {Z : State} {h : Heap} {a b : Addr} {C n d : String} {x y : Int64} (F : Fld Z h a C n d (.long x)) (G : Fld Z h b C n d (.long y)) (q : x ≠ y) : a ≠ b := fun e => by
  subst e; exact q (Value.long.inj (own_fld F G))
theorem own_nfSup {a0 : Array Value} {Z : State} {y : MethodName} {S : String} (w : (Jvm.Cond.superclass y.cls S).before a0 Z = true) : NotFace Z y := fun r0 h0 => by
  have hc := findClass_of_methodNamed h0
  obtain ⟨p, k, kp, h1, h2, h3, h4, h5, h6, h7⟩ := Cond.superclass_spec hc w
  exact ⟨k, h2, by first | exact h7 | exact h6 | simp_all⟩
theorem own_noInst {a0 : Array Value} {Z : State} {C S K : String} {t : ClassId} {kt : Class} (w : (Jvm.Cond.superclass C S).before a0 Z = true) (n : NS Z C K) (hn : C ≠ K) (ht : Z.vm.findClass K = some t) (hk : Z.vm.classes[t]? = some kt) (hi : kt.isInterface = false) :
    ∃ c t, Z.vm.findClass C = some c ∧ Z.vm.findClass K = some t ∧ Z.vm.assignable c t = false := by
  obtain ⟨c, t', h0, g0, n3⟩ := n
  cases g0.symm.trans ht
  obtain ⟨p, k, kp, h1, h2, h3, h4, h5, -⟩ := Cond.superclass_spec h0 w
  have ne := ids_ne h0 g0 hn
  refine ⟨c, _, h0, g0, ?_⟩
  show Z.vm.assignableAux (255 + 1) c _ = false
  cases hq : kt.kind <;> simp [Vm.assignableAux, ne, h2, hk, h5, hq, hi, Vm.isSubclass, n3]
theorem own_root {a0 : Array Value} {Z : State} {O K : String} {t : ClassId} (w : (Jvm.Cond.noSuperclass O).before a0 Z = true) (g1 : Z.vm.findClass K = some t) (hn : O ≠ K) : NS Z O K := by
  obtain ⟨c, k, h1, h2, h3, -, -⟩ := Cond.noSuperclass_spec w
  have ne := ids_ne h1 g1 hn
  refine ⟨c, t, h1, g1, fun fuel => ?_⟩
  cases fuel with
  | zero => rfl
  | succ f => simp [Vm.isSubclassAux, ne, h2, h3]
theorem own_noDL {a0 : Array Value} {Z : State} (hw : ∀ d ∈ tables_1, d.before a0 Z = true) : ∃ c t, Z.vm.findClass "java/lang/Double" = some c ∧ Z.vm.findClass "java/lang/Long" = some t ∧ Z.vm.assignable c t = false := by
  obtain ⟨c, r, m, h1, h2, h3, h4, mk, h5, h6⟩ := Cond.selects_spec (show (Jvm.Cond.selects "java/lang/Long" (⟨"java/lang/Long", "longValue", "()J"⟩ : MethodName) (⟨"java/lang/Long", "longValue", "()J"⟩ : MethodName)).before a0 Z = true from (wd hw 181 rfl))
  have hc : Z.vm.findClass "java/lang/Long" = some m.cls := findClass_of_methodNamed h3
  exact own_noInst (wd hw 112 rfl) (NS.step (wd hw 112 rfl) (NS.step (wd hw 113 rfl) (own_root (wd hw 114 rfl) hc (by decide)) (by decide)) (by decide)) (by decide) hc h5 h6
theorem own_cases (k : Int32) : (k &&& (2147483647 : Int32)) % (7 : Int32) = (0 : Int32) ∨ (k &&& (2147483647 : Int32)) % (7 : Int32) = (1 : Int32) ∨ (k &&& (2147483647 : Int32)) % (7 : Int32) = (2 : Int32) ∨ (k &&& (2147483647 : Int32)) % (7 : Int32) = (3 : Int32) ∨ (k &&& (2147483647 : Int32)) % (7 : Int32) = (4 : Int32) ∨ (k &&& (2147483647 : Int32)) % (7 : Int32) = (5 : Int32) ∨ (k &&& (2147483647 : Int32)) % (7 : Int32) = (6 : Int32) := by
  have h := (and32 k (2147483647 : Int32) (by decide)).1
  generalize k &&& (2147483647 : Int32) = x at h
  have e : (x % (7 : Int32)).toInt = x.toInt.tmod 7 := Int32.toInt_mod x 7
  have b1 : 0 ≤ x.toInt.tmod 7 := Int.tmod_nonneg _ h
  have b2 : x.toInt.tmod 7 < 7 := Int.tmod_lt_of_pos _ (by decide)
  have key : ∀ z : Int32, (x % (7 : Int32)).toInt = z.toInt → x % (7 : Int32) = z := fun z q => Int32.toInt_inj.mp q
  have z0 : (0 : Int32).toInt = 0 := rfl
  have z1 : (1 : Int32).toInt = 1 := rfl
  have z2 : (2 : Int32).toInt = 2 := rfl
  have z3 : (3 : Int32).toInt = 3 := rfl
  have z4 : (4 : Int32).toInt = 4 := rfl
  have z5 : (5 : Int32).toInt = 5 := rfl
  have z6 : (6 : Int32).toInt = 6 := rfl
  have hc : x.toInt.tmod 7 = 0 ∨ x.toInt.tmod 7 = 1 ∨ x.toInt.tmod 7 = 2 ∨ x.toInt.tmod 7 = 3 ∨ x.toInt.tmod 7 = 4 ∨ x.toInt.tmod 7 = 5 ∨ x.toInt.tmod 7 = 6 := by omega
  rcases hc with q | q | q | q | q | q | q
  · exact Or.inl (key _ (by rw [e, q, z0]))
  · exact Or.inr (Or.inl (key _ (by rw [e, q, z1])))
  · exact Or.inr (Or.inr (Or.inl (key _ (by rw [e, q, z2]))))
  · exact Or.inr (Or.inr (Or.inr (Or.inl (key _ (by rw [e, q, z3])))))
  · exact Or.inr (Or.inr (Or.inr (Or.inr (Or.inl (key _ (by rw [e, q, z4]))))))
  · exact Or.inr (Or.inr (Or.inr (Or.inr (Or.inr (Or.inl (key _ (by rw [e, q, z5])))))))
  · exact Or.inr (Or.inr (Or.inr (Or.inr (Or.inr (Or.inr (key _ (by rw [e, q, z6])))))))
def own_sg : Lambda.Shape := (Jvm.Lambda.Shape.mk "java/util/Comparator" "compare" (Jvm.ClassFile.MethodDescriptor.mk ([(Jvm.ClassFile.FieldType.object "java/lang/Object"), (Jvm.ClassFile.FieldType.object "java/lang/Object")] : List Jvm.ClassFile.FieldType) (Option.some Jvm.ClassFile.FieldType.int)) ([] : List Jvm.ClassFile.FieldType) (6 : Nat) "com/example/gapweave/gapweave/AggregateFunction" "lambda$order$0" (Jvm.ClassFile.MethodDescriptor.mk ([(Jvm.ClassFile.FieldType.object "java/lang/Object"), (Jvm.ClassFile.FieldType.object "java/lang/Object")] : List Jvm.ClassFile.FieldType) (Option.some Jvm.ClassFile.FieldType.int)) false (Jvm.ClassFile.MethodDescriptor.mk ([(Jvm.ClassFile.FieldType.object "java/lang/Object"), (Jvm.ClassFile.FieldType.object "java/lang/Object")] : List Jvm.ClassFile.FieldType) (Option.some Jvm.ClassFile.FieldType.int)))
def own_fc : ByteArray := ⟨#[0x2b, 0x2c, 0xb8, 0x00, 0x11, 0xac]⟩
theorem own_fwd : Jvm.LamKit.fwdOK own_sg "com/example/gapweave/gapweave/AggregateFunction" own_fc 3 (some .int) 17 14 = true := by decide +kernel
theorem own_f0 : decode own_fc 0 = .ok (.aload_n 1, 1) := by decide +kernel
theorem own_f1 : decode own_fc 1 = .ok (.aload_n 2, 1) := by decide +kernel
theorem own_f2 : decode own_fc 2 = .ok (.invokestatic 17, 3) := by decide +kernel
theorem own_f5 : decode own_fc 5 = .ok (.ireturn, 1) := by decide +kernel
theorem d4_0 : decode jdk_37_method_2_code 0 = .ok (.aload_n 0, 1) := by decide +kernel
theorem d4_1 : decode jdk_37_method_2_code 1 = .ok (.getfield 7, 3) := by decide +kernel
theorem d4_4 : decode jdk_37_method_2_code 4 = .ok (.ireturn, 1) := by decide +kernel
theorem pn_3 : plainName "java/lang/Enum" = true := by first | (simp [plainName, overriddenIn]; done) | decide +kernel
theorem ef_c_ord (m : MethodId) (a : Addr) : entryFrame m #[(.ref a)] 1 = mkF m 0 #[rv a] [] := by first | (simp [entryFrame, mkF, argsToLocals, Value.category]; done) | rfl
def Q_c_ord (Z : State) (a : Addr) (o : Int32) (h0 : Heap) (n0 : Nat) (v : Option Value) (h : Heap) (L : List Loc) : Prop := v = (some (.int o)) ∧ Fr n0 L ∧ h = h0
set_option maxRecDepth 65536 in
set_option maxHeartbeats 40000000 in
theorem c_ord (l : Launch) (Z : State) (a0 : Array Value) (hw : ∀ d ∈ tables_1, d.before a0 Z = true) (a : Addr) (o : Int32) (h0 : Heap) (n0 : Nat) (Z0 : n0 ≤ h0.size) (F_a_ordinal : Fld Z h0 a "java/lang/Enum" "ordinal" "I" (.int o)) :
    Ctr l Z h0 (⟨"java/lang/Enum", "ordinal", "()I"⟩ : MethodName) jdk_37_method_2_code 1 (some .int) [] ({ frames := 0, cells := 0, slots := 0, locals := 0 } : Room) #[(.ref a)] (Q_c_ord Z a o h0 n0) := by
  refine Ctr.make (plainFor_of_name pn_3) fun p e s m below meth c s₁ K hret hml hx hby hown hnm hnamed hH hZ X0 e0 hK => ?_
  have hown : s.vm.findClass "java/lang/Enum" = some m.cls := hown
  have N0 := Fr.nil n0
  have K0 : Keep h0 h0 [] := Keep.refl _ _
  refine Wlk.of (fun _ k => castTop (ef_c_ord m a) k) ?_
  show Wlk p.tables e below (s₁.setTop (mkF m 0 #[rv a] [])) K
  refine Wlk.of (fun _ k => XS.aloadN X0.here hx rfl (hb hby d4_0) rfl rfl k) ?_
  show Wlk p.tables e below (s₁.setTop (mkF m 1 #[rv a] [(.ref a)])) K
  obtain ⟨T1, X1, e1, st1⟩ := getF X0 hx hZ hown (host := "") (Or.inl (wd hw 32 rfl)) Via.refl e0 F_a_ordinal (g := (mkF m 1 #[rv a] [(.ref a)])) rfl rfl (hb hby d4_1)
  refine Wlk.of (fun _ k => st1 _ k) ?_
  show Wlk p.tables e below (T1.setTop (mkF m 4 #[rv a] [(.int o)])) K
  refine hK (some (.int o)) X1 (fun q => by cases q) (fun fs hr => retOut X1 hx hret rfl (Or.inl ⟨rfl, Or.inl rfl, _, rfl⟩) (hb hby d4_4) hr) ?_ (by decide) (by decide)
  rw [show T1.heap = h0 from e1]
  exact ⟨rfl, N0, rfl⟩
theorem d9_0 : decode jdk_35_method_31_code 0 = .ok (.aload_n 0, 1) := by decide +kernel
theorem d9_1 : decode jdk_35_method_31_code 1 = .ok (.getfield 273, 3) := by decide +kernel
theorem d9_4 : decode jdk_35_method_31_code 4 = .ok (.lreturn, 1) := by decide +kernel
theorem pn_7 : plainName "java/lang/Long" = true := by first | (simp [plainName, overriddenIn]; done) | decide +kernel
theorem ef_c_lv (m : MethodId) (a : Addr) : entryFrame m #[(.ref a)] 1 = mkF m 0 #[rv a] [] := by first | (simp [entryFrame, mkF, argsToLocals, Value.category]; done) | rfl
def Q_c_lv (Z : State) (a : Addr) (x : Int64) (h0 : Heap) (n0 : Nat) (v : Option Value) (h : Heap) (L : List Loc) : Prop := v = (some (.long x)) ∧ Fr n0 L ∧ h = h0
set_option maxRecDepth 65536 in
set_option maxHeartbeats 40000000 in
theorem c_lv (l : Launch) (Z : State) (a0 : Array Value) (hw : ∀ d ∈ tables_1, d.before a0 Z = true) (a : Addr) (x : Int64) (h0 : Heap) (n0 : Nat) (Z0 : n0 ≤ h0.size) (F_a_value : Fld Z h0 a "java/lang/Long" "value" "J" (.long x)) :
    Ctr l Z h0 (⟨"java/lang/Long", "longValue", "()J"⟩ : MethodName) jdk_35_method_31_code 1 (some .long) [] ({ frames := 0, cells := 0, slots := 0, locals := 0 } : Room) #[(.ref a)] (Q_c_lv Z a x h0 n0) := by
  refine Ctr.make (plainFor_of_name pn_7) fun p e s m below meth c s₁ K hret hml hx hby hown hnm hnamed hH hZ X0 e0 hK => ?_
  have hown : s.vm.findClass "java/lang/Long" = some m.cls := hown
  have N0 := Fr.nil n0
  have K0 : Keep h0 h0 [] := Keep.refl _ _
  refine Wlk.of (fun _ k => castTop (ef_c_lv m a) k) ?_
  show Wlk p.tables e below (s₁.setTop (mkF m 0 #[rv a] [])) K
  refine Wlk.of (fun _ k => XS.aloadN X0.here hx rfl (hb hby d9_0) rfl rfl k) ?_
  show Wlk p.tables e below (s₁.setTop (mkF m 1 #[rv a] [(.ref a)])) K
  obtain ⟨T1, X1, e1, st1⟩ := getF X0 hx hZ hown (host := "") (Or.inl (wd hw 65 rfl)) Via.refl e0 F_a_value (g := (mkF m 1 #[rv a] [(.ref a)])) rfl rfl (hb hby d9_1)
  refine Wlk.of (fun _ k => st1 _ k) ?_
  show Wlk p.tables e below (T1.setTop (mkF m 4 #[rv a] [(.long x)])) K
  refine hK (some (.long x)) X1 (fun q => by cases q) (fun fs hr => retOut X1 hx hret rfl (Or.inr (Or.inl ⟨rfl, rfl, _, rfl⟩)) (hb hby d9_4) hr) ?_ (by decide) (by decide)
  rw [show T1.heap = h0 from e1]
  exact ⟨rfl, N0, rfl⟩
theorem d17_0 : decode jdk_117_method_19_code 0 = .ok (.aload_n 0, 1) := by decide +kernel
theorem d17_1 : decode jdk_117_method_19_code 1 = .ok (.getfield 118, 3) := by decide +kernel
theorem d17_4 : decode jdk_117_method_19_code 4 = .ok (.dreturn, 1) := by decide +kernel
theorem pn_11 : plainName "java/lang/Double" = true := by first | (simp [plainName, overriddenIn]; done) | decide +kernel
theorem ef_c_dv (m : MethodId) (a : Addr) : entryFrame m #[(.ref a)] 1 = mkF m 0 #[rv a] [] := by first | (simp [entryFrame, mkF, argsToLocals, Value.category]; done) | rfl
def Q_c_dv (Z : State) (a : Addr) (x : UInt64) (h0 : Heap) (n0 : Nat) (v : Option Value) (h : Heap) (L : List Loc) : Prop := v = (some (.double x)) ∧ Fr n0 L ∧ h = h0
set_option maxRecDepth 65536 in
set_option maxHeartbeats 40000000 in
theorem c_dv (l : Launch) (Z : State) (a0 : Array Value) (hw : ∀ d ∈ tables_1, d.before a0 Z = true) (a : Addr) (x : UInt64) (h0 : Heap) (n0 : Nat) (Z0 : n0 ≤ h0.size) (F_a_value : Fld Z h0 a "java/lang/Double" "value" "D" (.double x)) :
    Ctr l Z h0 (⟨"java/lang/Double", "doubleValue", "()D"⟩ : MethodName) jdk_117_method_19_code 1 (some .double) [] ({ frames := 0, cells := 0, slots := 0, locals := 0 } : Room) #[(.ref a)] (Q_c_dv Z a x h0 n0) := by
  refine Ctr.make (plainFor_of_name pn_11) fun p e s m below meth c s₁ K hret hml hx hby hown hnm hnamed hH hZ X0 e0 hK => ?_
  have hown : s.vm.findClass "java/lang/Double" = some m.cls := hown
  have N0 := Fr.nil n0
  have K0 : Keep h0 h0 [] := Keep.refl _ _
  refine Wlk.of (fun _ k => castTop (ef_c_dv m a) k) ?_
  show Wlk p.tables e below (s₁.setTop (mkF m 0 #[rv a] [])) K
  refine Wlk.of (fun _ k => XS.aloadN X0.here hx rfl (hb hby d17_0) rfl rfl k) ?_
  show Wlk p.tables e below (s₁.setTop (mkF m 1 #[rv a] [(.ref a)])) K
  obtain ⟨T1, X1, e1, st1⟩ := getF X0 hx hZ hown (host := "") (Or.inl (wd hw 106 rfl)) Via.refl e0 F_a_value (g := (mkF m 1 #[rv a] [(.ref a)])) rfl rfl (hb hby d17_1)
  refine Wlk.of (fun _ k => st1 _ k) ?_
  show Wlk p.tables e below (T1.setTop (mkF m 4 #[rv a] [(.double x)])) K
  refine hK (some (.double x)) X1 (fun q => by cases q) (fun fs hr => retOut X1 hx hret rfl (Or.inr (Or.inr (Or.inl ⟨rfl, rfl, _, rfl⟩))) (hb hby d17_4) hr) ?_ (by decide) (by decide)
  rw [show T1.heap = h0 from e1]
  exact ⟨rfl, N0, rfl⟩
theorem d2_0 : decode jdk_35_method_24_code 0 = .ok (.sipush 128, 3) := by decide +kernel
theorem d2_3 : decode jdk_35_method_24_code 3 = .ok (.istore_n 2, 1) := by decide +kernel
theorem d2_4 : decode jdk_35_method_24_code 4 = .ok (.lload_n 0, 1) := by decide +kernel
theorem d2_5 : decode jdk_35_method_24_code 5 = .ok (.ldc2_w 230, 3) := by decide +kernel
theorem d2_8 : decode jdk_35_method_24_code 8 = .ok (.lcmp, 1) := by decide +kernel
theorem d2_9 : decode jdk_35_method_24_code 9 = .ok (.ifCond .lt 22, 3) := by decide +kernel
theorem d2_12 : decode jdk_35_method_24_code 12 = .ok (.lload_n 0, 1) := by decide +kernel
theorem d2_13 : decode jdk_35_method_24_code 13 = .ok (.ldc2_w 232, 3) := by decide +kernel
theorem d2_16 : decode jdk_35_method_24_code 16 = .ok (.lcmp, 1) := by decide +kernel
theorem d2_17 : decode jdk_35_method_24_code 17 = .ok (.ifCond .gt 14, 3) := by decide +kernel
theorem d2_20 : decode jdk_35_method_24_code 20 = .ok (.getstatic 234, 3) := by decide +kernel
theorem d2_23 : decode jdk_35_method_24_code 23 = .ok (.lload_n 0, 1) := by decide +kernel
theorem d2_24 : decode jdk_35_method_24_code 24 = .ok (.l2i, 1) := by decide +kernel
theorem d2_25 : decode jdk_35_method_24_code 25 = .ok (.sipush 128, 3) := by decide +kernel
theorem d2_28 : decode jdk_35_method_24_code 28 = .ok (.iadd, 1) := by decide +kernel
theorem d2_29 : decode jdk_35_method_24_code 29 = .ok (.aaload, 1) := by decide +kernel
theorem d2_30 : decode jdk_35_method_24_code 30 = .ok (.areturn, 1) := by decide +kernel
theorem ef_c_vo0 (m : MethodId)  : entryFrame m #[(.long (0 : Int64))] 3 = mkF m 0 #[jv (0 : Int64), sd, un] [] := by first | (simp [entryFrame, mkF, argsToLocals, Value.category]; done) | rfl
def Q_c_vo0 (Z : State) (ca : Addr) (vsC : (List Value)) (lg0 : Addr) (h0 : Heap) (n0 : Nat) (v : Option Value) (h : Heap) (L : List Loc) : Prop := v = (some (.ref lg0)) ∧ Fr n0 L ∧ h = h0
set_option maxRecDepth 65536 in
set_option maxHeartbeats 40000000 in
theorem c_vo0 (l : Launch) (Z : State) (a0 : Array Value) (hw : ∀ d ∈ tables_1, d.before a0 Z = true) (ca : Addr) (vsC : (List Value)) (lg0 : Addr) (h0 : Heap) (n0 : Nat) (Z0 : n0 ≤ h0.size) (S_cache : Sta Z h0 "java/lang/Long$LongCache" "cache" "[Ljava/lang/Long;" (.ref ca)) (A_ca : Arl Z h0 ca (.object "java/lang/Long") vsC) (hC0 : vsC[128]? = some (.ref lg0)) :
    Ctr l Z h0 (⟨"java/lang/Long", "valueOf", "(J)Ljava/lang/Long;"⟩ : MethodName) jdk_35_method_24_code 3 (some (.object "java/lang/Long")) [] ({ frames := 0, cells := 0, slots := 0, locals := 0 } : Room) #[(.long (0 : Int64))] (Q_c_vo0 Z ca vsC lg0 h0 n0) := by
  refine Ctr.make (plainFor_of_name pn_7) fun p e s m below meth c s₁ K hret hml hx hby hown hnm hnamed hH hZ X0 e0 hK => ?_
  have hown : s.vm.findClass "java/lang/Long" = some m.cls := hown
  have N0 := Fr.nil n0
  have K0 : Keep h0 h0 [] := Keep.refl _ _
  refine Wlk.of (fun _ k => castTop (ef_c_vo0 m ) k) ?_
  show Wlk p.tables e below (s₁.setTop (mkF m 0 #[jv (0 : Int64), sd, un] [])) K
  refine Wlk.of (fun _ k => XS.sipush X0.here hx rfl (hb hby d2_0) k) ?_
  show Wlk p.tables e below (s₁.setTop (mkF m 3 #[jv (0 : Int64), sd, un] [(.int (128 : Int32))])) K
  refine Wlk.of (fun _ k => XS.istoreN X0.here hx rfl (hb hby d2_3) rfl (l' := #[jv (0 : Int64), sd, iv (128 : Int32)]) rfl k) ?_
  show Wlk p.tables e below (s₁.setTop (mkF m 4 #[jv (0 : Int64), sd, iv (128 : Int32)] [])) K
  refine Wlk.of (fun _ k => XS.lloadN X0.here hx rfl (hb hby d2_4) rfl k) ?_
  show Wlk p.tables e below (s₁.setTop (mkF m 5 #[jv (0 : Int64), sd, iv (128 : Int32)] [(.long (0 : Int64))])) K
  refine Wlk.of (fun _ k => X0.ldc2Long hx hown (mvT hZ (wd hw 12 rfl)) (g := (mkF m 5 #[jv (0 : Int64), sd, iv (128 : Int32)] [(.long (0 : Int64))])) rfl (hb hby d2_5) _ k) ?_
  show Wlk p.tables e below (s₁.setTop (mkF m 8 #[jv (0 : Int64), sd, iv (128 : Int32)] [(.long (-128 : Int64)), (.long (0 : Int64))])) K
  refine Wlk.of (fun _ k => XS.lcmp X0.here hx rfl (hb hby d2_8) rfl k) ?_
  show Wlk p.tables e below (s₁.setTop (mkF m 9 #[jv (0 : Int64), sd, iv (128 : Int32)] [(.int (lcmpW (0 : Int64) (-128 : Int64)))])) K
  refine Wlk.of (fun _ k => XS.ifNo X0.here hx rfl (hb hby d2_9) rfl ((if0 _ _).trans (flt (fun q => (by decide : ¬ ((0 : Int64) < (-128 : Int64))) ((lw_lt _ _).mp q))).1) k) ?_
  show Wlk p.tables e below (s₁.setTop (mkF m 12 #[jv (0 : Int64), sd, iv (128 : Int32)] [])) K
  refine Wlk.of (fun _ k => XS.lloadN X0.here hx rfl (hb hby d2_12) rfl k) ?_
  show Wlk p.tables e below (s₁.setTop (mkF m 13 #[jv (0 : Int64), sd, iv (128 : Int32)] [(.long (0 : Int64))])) K
  refine Wlk.of (fun _ k => X0.ldc2Long hx hown (mvT hZ (wd hw 13 rfl)) (g := (mkF m 13 #[jv (0 : Int64), sd, iv (128 : Int32)] [(.long (0 : Int64))])) rfl (hb hby d2_13) _ k) ?_
  show Wlk p.tables e below (s₁.setTop (mkF m 16 #[jv (0 : Int64), sd, iv (128 : Int32)] [(.long (127 : Int64)), (.long (0 : Int64))])) K
  refine Wlk.of (fun _ k => XS.lcmp X0.here hx rfl (hb hby d2_16) rfl k) ?_
  show Wlk p.tables e below (s₁.setTop (mkF m 17 #[jv (0 : Int64), sd, iv (128 : Int32)] [(.int (lcmpW (0 : Int64) (127 : Int64)))])) K
  refine Wlk.of (fun _ k => XS.ifNo X0.here hx rfl (hb hby d2_17) rfl ((if0 _ _).trans (flt (fun q => (by decide : ¬ ((127 : Int64) < (0 : Int64))) ((lw_gt _ _).mp q))).2.2.1) k) ?_
  show Wlk p.tables e below (s₁.setTop (mkF m 20 #[jv (0 : Int64), sd, iv (128 : Int32)] [])) K
  obtain ⟨T1, X1, e1, st1⟩ := getS2 X0 hx hZ hown (host := "") (Or.inl (wd hw 14 rfl)) Via.refl e0 S_cache (g := (mkF m 20 #[jv (0 : Int64), sd, iv (128 : Int32)] [])) rfl (hb hby d2_20)
  refine Wlk.of (fun _ k => st1 _ k) ?_
  show Wlk p.tables e below (T1.setTop (mkF m 23 #[jv (0 : Int64), sd, iv (128 : Int32)] [(.ref ca)])) K
  refine Wlk.of (fun _ k => XS.lloadN X1.here hx rfl (hb hby d2_23) rfl k) ?_
  show Wlk p.tables e below (T1.setTop (mkF m 24 #[jv (0 : Int64), sd, iv (128 : Int32)] [(.long (0 : Int64)), (.ref ca)])) K
  refine Wlk.of (fun _ k => XS.l2i X1.here hx rfl (hb hby d2_24) rfl k) ?_
  show Wlk p.tables e below (T1.setTop (mkF m 25 #[jv (0 : Int64), sd, iv (128 : Int32)] [(.int (0 : Int32)), (.ref ca)])) K
  refine Wlk.of (fun _ k => XS.sipush X1.here hx rfl (hb hby d2_25) k) ?_
  show Wlk p.tables e below (T1.setTop (mkF m 28 #[jv (0 : Int64), sd, iv (128 : Int32)] [(.int (128 : Int32)), (.int (0 : Int32)), (.ref ca)])) K
  refine Wlk.of (fun _ k => XS.iadd X1.here hx rfl (hb hby d2_28) rfl k) ?_
  show Wlk p.tables e below (T1.setTop (mkF m 29 #[jv (0 : Int64), sd, iv (128 : Int32)] [(.int (128 : Int32)), (.ref ca)])) K
  refine Wlk.of (fun _ k => ldR X1 hx hZ e1 A_ca rfl (j := (128 : Int32)) (i := 128) (by decide) (by decide) hC0 (g := (mkF m 29 #[jv (0 : Int64), sd, iv (128 : Int32)] [(.int (128 : Int32)), (.ref ca)])) rfl rfl (hb hby d2_29) _ k) ?_
  show Wlk p.tables e below (T1.setTop (mkF m 30 #[jv (0 : Int64), sd, iv (128 : Int32)] [(.ref lg0)])) K
  refine hK (some (.ref lg0)) X1 (fun q => by cases q) (fun fs hr => retOut X1 hx hret rfl (Or.inr (Or.inr (Or.inr (Or.inr ⟨rfl, rfl, rfl⟩)))) (hb hby d2_30) hr) ?_ (by decide) (by decide)
  rw [show T1.heap = h0 from e1]
  exact ⟨rfl, N0, rfl⟩
theorem ef_c_vo1 (m : MethodId)  : entryFrame m #[(.long (1 : Int64))] 3 = mkF m 0 #[jv (1 : Int64), sd, un] [] := by first | (simp [entryFrame, mkF, argsToLocals, Value.category]; done) | rfl
def Q_c_vo1 (Z : State) (ca : Addr) (vsC : (List Value)) (lg1 : Addr) (h0 : Heap) (n0 : Nat) (v : Option Value) (h : Heap) (L : List Loc) : Prop := v = (some (.ref lg1)) ∧ Fr n0 L ∧ h = h0
set_option maxRecDepth 65536 in
set_option maxHeartbeats 40000000 in
theorem c_vo1 (l : Launch) (Z : State) (a0 : Array Value) (hw : ∀ d ∈ tables_1, d.before a0 Z = true) (ca : Addr) (vsC : (List Value)) (lg1 : Addr) (h0 : Heap) (n0 : Nat) (Z0 : n0 ≤ h0.size) (S_cache : Sta Z h0 "java/lang/Long$LongCache" "cache" "[Ljava/lang/Long;" (.ref ca)) (A_ca : Arl Z h0 ca (.object "java/lang/Long") vsC) (hC1 : vsC[129]? = some (.ref lg1)) :
    Ctr l Z h0 (⟨"java/lang/Long", "valueOf", "(J)Ljava/lang/Long;"⟩ : MethodName) jdk_35_method_24_code 3 (some (.object "java/lang/Long")) [] ({ frames := 0, cells := 0, slots := 0, locals := 0 } : Room) #[(.long (1 : Int64))] (Q_c_vo1 Z ca vsC lg1 h0 n0) := by
  refine Ctr.make (plainFor_of_name pn_7) fun p e s m below meth c s₁ K hret hml hx hby hown hnm hnamed hH hZ X0 e0 hK => ?_
  have hown : s.vm.findClass "java/lang/Long" = some m.cls := hown
  have N0 := Fr.nil n0
  have K0 : Keep h0 h0 [] := Keep.refl _ _
  refine Wlk.of (fun _ k => castTop (ef_c_vo1 m ) k) ?_
  show Wlk p.tables e below (s₁.setTop (mkF m 0 #[jv (1 : Int64), sd, un] [])) K
  refine Wlk.of (fun _ k => XS.sipush X0.here hx rfl (hb hby d2_0) k) ?_
  show Wlk p.tables e below (s₁.setTop (mkF m 3 #[jv (1 : Int64), sd, un] [(.int (128 : Int32))])) K
  refine Wlk.of (fun _ k => XS.istoreN X0.here hx rfl (hb hby d2_3) rfl (l' := #[jv (1 : Int64), sd, iv (128 : Int32)]) rfl k) ?_
  show Wlk p.tables e below (s₁.setTop (mkF m 4 #[jv (1 : Int64), sd, iv (128 : Int32)] [])) K
  refine Wlk.of (fun _ k => XS.lloadN X0.here hx rfl (hb hby d2_4) rfl k) ?_
  show Wlk p.tables e below (s₁.setTop (mkF m 5 #[jv (1 : Int64), sd, iv (128 : Int32)] [(.long (1 : Int64))])) K
  refine Wlk.of (fun _ k => X0.ldc2Long hx hown (mvT hZ (wd hw 12 rfl)) (g := (mkF m 5 #[jv (1 : Int64), sd, iv (128 : Int32)] [(.long (1 : Int64))])) rfl (hb hby d2_5) _ k) ?_
  show Wlk p.tables e below (s₁.setTop (mkF m 8 #[jv (1 : Int64), sd, iv (128 : Int32)] [(.long (-128 : Int64)), (.long (1 : Int64))])) K
  refine Wlk.of (fun _ k => XS.lcmp X0.here hx rfl (hb hby d2_8) rfl k) ?_
  show Wlk p.tables e below (s₁.setTop (mkF m 9 #[jv (1 : Int64), sd, iv (128 : Int32)] [(.int (lcmpW (1 : Int64) (-128 : Int64)))])) K
  refine Wlk.of (fun _ k => XS.ifNo X0.here hx rfl (hb hby d2_9) rfl ((if0 _ _).trans (flt (fun q => (by decide : ¬ ((1 : Int64) < (-128 : Int64))) ((lw_lt _ _).mp q))).1) k) ?_
  show Wlk p.tables e below (s₁.setTop (mkF m 12 #[jv (1 : Int64), sd, iv (128 : Int32)] [])) K
  refine Wlk.of (fun _ k => XS.lloadN X0.here hx rfl (hb hby d2_12) rfl k) ?_
  show Wlk p.tables e below (s₁.setTop (mkF m 13 #[jv (1 : Int64), sd, iv (128 : Int32)] [(.long (1 : Int64))])) K
  refine Wlk.of (fun _ k => X0.ldc2Long hx hown (mvT hZ (wd hw 13 rfl)) (g := (mkF m 13 #[jv (1 : Int64), sd, iv (128 : Int32)] [(.long (1 : Int64))])) rfl (hb hby d2_13) _ k) ?_
  show Wlk p.tables e below (s₁.setTop (mkF m 16 #[jv (1 : Int64), sd, iv (128 : Int32)] [(.long (127 : Int64)), (.long (1 : Int64))])) K
  refine Wlk.of (fun _ k => XS.lcmp X0.here hx rfl (hb hby d2_16) rfl k) ?_
  show Wlk p.tables e below (s₁.setTop (mkF m 17 #[jv (1 : Int64), sd, iv (128 : Int32)] [(.int (lcmpW (1 : Int64) (127 : Int64)))])) K
  refine Wlk.of (fun _ k => XS.ifNo X0.here hx rfl (hb hby d2_17) rfl ((if0 _ _).trans (flt (fun q => (by decide : ¬ ((127 : Int64) < (1 : Int64))) ((lw_gt _ _).mp q))).2.2.1) k) ?_
  show Wlk p.tables e below (s₁.setTop (mkF m 20 #[jv (1 : Int64), sd, iv (128 : Int32)] [])) K
  obtain ⟨T1, X1, e1, st1⟩ := getS2 X0 hx hZ hown (host := "") (Or.inl (wd hw 14 rfl)) Via.refl e0 S_cache (g := (mkF m 20 #[jv (1 : Int64), sd, iv (128 : Int32)] [])) rfl (hb hby d2_20)
  refine Wlk.of (fun _ k => st1 _ k) ?_
  show Wlk p.tables e below (T1.setTop (mkF m 23 #[jv (1 : Int64), sd, iv (128 : Int32)] [(.ref ca)])) K
  refine Wlk.of (fun _ k => XS.lloadN X1.here hx rfl (hb hby d2_23) rfl k) ?_
  show Wlk p.tables e below (T1.setTop (mkF m 24 #[jv (1 : Int64), sd, iv (128 : Int32)] [(.long (1 : Int64)), (.ref ca)])) K
  refine Wlk.of (fun _ k => XS.l2i X1.here hx rfl (hb hby d2_24) rfl k) ?_
  show Wlk p.tables e below (T1.setTop (mkF m 25 #[jv (1 : Int64), sd, iv (128 : Int32)] [(.int (1 : Int32)), (.ref ca)])) K
  refine Wlk.of (fun _ k => XS.sipush X1.here hx rfl (hb hby d2_25) k) ?_
  show Wlk p.tables e below (T1.setTop (mkF m 28 #[jv (1 : Int64), sd, iv (128 : Int32)] [(.int (128 : Int32)), (.int (1 : Int32)), (.ref ca)])) K
  refine Wlk.of (fun _ k => XS.iadd X1.here hx rfl (hb hby d2_28) rfl k) ?_
  show Wlk p.tables e below (T1.setTop (mkF m 29 #[jv (1 : Int64), sd, iv (128 : Int32)] [(.int (129 : Int32)), (.ref ca)])) K
  refine Wlk.of (fun _ k => ldR X1 hx hZ e1 A_ca rfl (j := (129 : Int32)) (i := 129) (by decide) (by decide) hC1 (g := (mkF m 29 #[jv (1 : Int64), sd, iv (128 : Int32)] [(.int (129 : Int32)), (.ref ca)])) rfl rfl (hb hby d2_29) _ k) ?_
  show Wlk p.tables e below (T1.setTop (mkF m 30 #[jv (1 : Int64), sd, iv (128 : Int32)] [(.ref lg1)])) K
  refine hK (some (.ref lg1)) X1 (fun q => by cases q) (fun fs hr => retOut X1 hx hret rfl (Or.inr (Or.inr (Or.inr (Or.inr ⟨rfl, rfl, rfl⟩)))) (hb hby d2_30) hr) ?_ (by decide) (by decide)
  rw [show T1.heap = h0 from e1]
  exact ⟨rfl, N0, rfl⟩
theorem ef_c_vo2 (m : MethodId)  : entryFrame m #[(.long (2 : Int64))] 3 = mkF m 0 #[jv (2 : Int64), sd, un] [] := by first | (simp [entryFrame, mkF, argsToLocals, Value.category]; done) | rfl
def Q_c_vo2 (Z : State) (ca : Addr) (vsC : (List Value)) (lg2 : Addr) (h0 : Heap) (n0 : Nat) (v : Option Value) (h : Heap) (L : List Loc) : Prop := v = (some (.ref lg2)) ∧ Fr n0 L ∧ h = h0
set_option maxRecDepth 65536 in
set_option maxHeartbeats 40000000 in
theorem c_vo2 (l : Launch) (Z : State) (a0 : Array Value) (hw : ∀ d ∈ tables_1, d.before a0 Z = true) (ca : Addr) (vsC : (List Value)) (lg2 : Addr) (h0 : Heap) (n0 : Nat) (Z0 : n0 ≤ h0.size) (S_cache : Sta Z h0 "java/lang/Long$LongCache" "cache" "[Ljava/lang/Long;" (.ref ca)) (A_ca : Arl Z h0 ca (.object "java/lang/Long") vsC) (hC2 : vsC[130]? = some (.ref lg2)) :
    Ctr l Z h0 (⟨"java/lang/Long", "valueOf", "(J)Ljava/lang/Long;"⟩ : MethodName) jdk_35_method_24_code 3 (some (.object "java/lang/Long")) [] ({ frames := 0, cells := 0, slots := 0, locals := 0 } : Room) #[(.long (2 : Int64))] (Q_c_vo2 Z ca vsC lg2 h0 n0) := by
  refine Ctr.make (plainFor_of_name pn_7) fun p e s m below meth c s₁ K hret hml hx hby hown hnm hnamed hH hZ X0 e0 hK => ?_
  have hown : s.vm.findClass "java/lang/Long" = some m.cls := hown
  have N0 := Fr.nil n0
  have K0 : Keep h0 h0 [] := Keep.refl _ _
  refine Wlk.of (fun _ k => castTop (ef_c_vo2 m ) k) ?_
  show Wlk p.tables e below (s₁.setTop (mkF m 0 #[jv (2 : Int64), sd, un] [])) K
  refine Wlk.of (fun _ k => XS.sipush X0.here hx rfl (hb hby d2_0) k) ?_
  show Wlk p.tables e below (s₁.setTop (mkF m 3 #[jv (2 : Int64), sd, un] [(.int (128 : Int32))])) K
  refine Wlk.of (fun _ k => XS.istoreN X0.here hx rfl (hb hby d2_3) rfl (l' := #[jv (2 : Int64), sd, iv (128 : Int32)]) rfl k) ?_
  show Wlk p.tables e below (s₁.setTop (mkF m 4 #[jv (2 : Int64), sd, iv (128 : Int32)] [])) K
  refine Wlk.of (fun _ k => XS.lloadN X0.here hx rfl (hb hby d2_4) rfl k) ?_
  show Wlk p.tables e below (s₁.setTop (mkF m 5 #[jv (2 : Int64), sd, iv (128 : Int32)] [(.long (2 : Int64))])) K
  refine Wlk.of (fun _ k => X0.ldc2Long hx hown (mvT hZ (wd hw 12 rfl)) (g := (mkF m 5 #[jv (2 : Int64), sd, iv (128 : Int32)] [(.long (2 : Int64))])) rfl (hb hby d2_5) _ k) ?_
  show Wlk p.tables e below (s₁.setTop (mkF m 8 #[jv (2 : Int64), sd, iv (128 : Int32)] [(.long (-128 : Int64)), (.long (2 : Int64))])) K
  refine Wlk.of (fun _ k => XS.lcmp X0.here hx rfl (hb hby d2_8) rfl k) ?_
  show Wlk p.tables e below (s₁.setTop (mkF m 9 #[jv (2 : Int64), sd, iv (128 : Int32)] [(.int (lcmpW (2 : Int64) (-128 : Int64)))])) K
  refine Wlk.of (fun _ k => XS.ifNo X0.here hx rfl (hb hby d2_9) rfl ((if0 _ _).trans (flt (fun q => (by decide : ¬ ((2 : Int64) < (-128 : Int64))) ((lw_lt _ _).mp q))).1) k) ?_
  show Wlk p.tables e below (s₁.setTop (mkF m 12 #[jv (2 : Int64), sd, iv (128 : Int32)] [])) K
  refine Wlk.of (fun _ k => XS.lloadN X0.here hx rfl (hb hby d2_12) rfl k) ?_
  show Wlk p.tables e below (s₁.setTop (mkF m 13 #[jv (2 : Int64), sd, iv (128 : Int32)] [(.long (2 : Int64))])) K
  refine Wlk.of (fun _ k => X0.ldc2Long hx hown (mvT hZ (wd hw 13 rfl)) (g := (mkF m 13 #[jv (2 : Int64), sd, iv (128 : Int32)] [(.long (2 : Int64))])) rfl (hb hby d2_13) _ k) ?_
  show Wlk p.tables e below (s₁.setTop (mkF m 16 #[jv (2 : Int64), sd, iv (128 : Int32)] [(.long (127 : Int64)), (.long (2 : Int64))])) K
  refine Wlk.of (fun _ k => XS.lcmp X0.here hx rfl (hb hby d2_16) rfl k) ?_
  show Wlk p.tables e below (s₁.setTop (mkF m 17 #[jv (2 : Int64), sd, iv (128 : Int32)] [(.int (lcmpW (2 : Int64) (127 : Int64)))])) K
  refine Wlk.of (fun _ k => XS.ifNo X0.here hx rfl (hb hby d2_17) rfl ((if0 _ _).trans (flt (fun q => (by decide : ¬ ((127 : Int64) < (2 : Int64))) ((lw_gt _ _).mp q))).2.2.1) k) ?_
  show Wlk p.tables e below (s₁.setTop (mkF m 20 #[jv (2 : Int64), sd, iv (128 : Int32)] [])) K
  obtain ⟨T1, X1, e1, st1⟩ := getS2 X0 hx hZ hown (host := "") (Or.inl (wd hw 14 rfl)) Via.refl e0 S_cache (g := (mkF m 20 #[jv (2 : Int64), sd, iv (128 : Int32)] [])) rfl (hb hby d2_20)
  refine Wlk.of (fun _ k => st1 _ k) ?_
  show Wlk p.tables e below (T1.setTop (mkF m 23 #[jv (2 : Int64), sd, iv (128 : Int32)] [(.ref ca)])) K
  refine Wlk.of (fun _ k => XS.lloadN X1.here hx rfl (hb hby d2_23) rfl k) ?_
  show Wlk p.tables e below (T1.setTop (mkF m 24 #[jv (2 : Int64), sd, iv (128 : Int32)] [(.long (2 : Int64)), (.ref ca)])) K
  refine Wlk.of (fun _ k => XS.l2i X1.here hx rfl (hb hby d2_24) rfl k) ?_
  show Wlk p.tables e below (T1.setTop (mkF m 25 #[jv (2 : Int64), sd, iv (128 : Int32)] [(.int (2 : Int32)), (.ref ca)])) K
  refine Wlk.of (fun _ k => XS.sipush X1.here hx rfl (hb hby d2_25) k) ?_
  show Wlk p.tables e below (T1.setTop (mkF m 28 #[jv (2 : Int64), sd, iv (128 : Int32)] [(.int (128 : Int32)), (.int (2 : Int32)), (.ref ca)])) K
  refine Wlk.of (fun _ k => XS.iadd X1.here hx rfl (hb hby d2_28) rfl k) ?_
  show Wlk p.tables e below (T1.setTop (mkF m 29 #[jv (2 : Int64), sd, iv (128 : Int32)] [(.int (130 : Int32)), (.ref ca)])) K
  refine Wlk.of (fun _ k => ldR X1 hx hZ e1 A_ca rfl (j := (130 : Int32)) (i := 130) (by decide) (by decide) hC2 (g := (mkF m 29 #[jv (2 : Int64), sd, iv (128 : Int32)] [(.int (130 : Int32)), (.ref ca)])) rfl rfl (hb hby d2_29) _ k) ?_
  show Wlk p.tables e below (T1.setTop (mkF m 30 #[jv (2 : Int64), sd, iv (128 : Int32)] [(.ref lg2)])) K
  refine hK (some (.ref lg2)) X1 (fun q => by cases q) (fun fs hr => retOut X1 hx hret rfl (Or.inr (Or.inr (Or.inr (Or.inr ⟨rfl, rfl, rfl⟩)))) (hb hby d2_30) hr) ?_ (by decide) (by decide)
  rw [show T1.heap = h0 from e1]
  exact ⟨rfl, N0, rfl⟩
theorem ef_c_vo3 (m : MethodId)  : entryFrame m #[(.long (3 : Int64))] 3 = mkF m 0 #[jv (3 : Int64), sd, un] [] := by first | (simp [entryFrame, mkF, argsToLocals, Value.category]; done) | rfl
def Q_c_vo3 (Z : State) (ca : Addr) (vsC : (List Value)) (lg3 : Addr) (h0 : Heap) (n0 : Nat) (v : Option Value) (h : Heap) (L : List Loc) : Prop := v = (some (.ref lg3)) ∧ Fr n0 L ∧ h = h0
set_option maxRecDepth 65536 in
set_option maxHeartbeats 40000000 in
theorem c_vo3 (l : Launch) (Z : State) (a0 : Array Value) (hw : ∀ d ∈ tables_1, d.before a0 Z = true) (ca : Addr) (vsC : (List Value)) (lg3 : Addr) (h0 : Heap) (n0 : Nat) (Z0 : n0 ≤ h0.size) (S_cache : Sta Z h0 "java/lang/Long$LongCache" "cache" "[Ljava/lang/Long;" (.ref ca)) (A_ca : Arl Z h0 ca (.object "java/lang/Long") vsC) (hC3 : vsC[131]? = some (.ref lg3)) :
    Ctr l Z h0 (⟨"java/lang/Long", "valueOf", "(J)Ljava/lang/Long;"⟩ : MethodName) jdk_35_method_24_code 3 (some (.object "java/lang/Long")) [] ({ frames := 0, cells := 0, slots := 0, locals := 0 } : Room) #[(.long (3 : Int64))] (Q_c_vo3 Z ca vsC lg3 h0 n0) := by
  refine Ctr.make (plainFor_of_name pn_7) fun p e s m below meth c s₁ K hret hml hx hby hown hnm hnamed hH hZ X0 e0 hK => ?_
  have hown : s.vm.findClass "java/lang/Long" = some m.cls := hown
  have N0 := Fr.nil n0
  have K0 : Keep h0 h0 [] := Keep.refl _ _
  refine Wlk.of (fun _ k => castTop (ef_c_vo3 m ) k) ?_
  show Wlk p.tables e below (s₁.setTop (mkF m 0 #[jv (3 : Int64), sd, un] [])) K
  refine Wlk.of (fun _ k => XS.sipush X0.here hx rfl (hb hby d2_0) k) ?_
  show Wlk p.tables e below (s₁.setTop (mkF m 3 #[jv (3 : Int64), sd, un] [(.int (128 : Int32))])) K
  refine Wlk.of (fun _ k => XS.istoreN X0.here hx rfl (hb hby d2_3) rfl (l' := #[jv (3 : Int64), sd, iv (128 : Int32)]) rfl k) ?_
  show Wlk p.tables e below (s₁.setTop (mkF m 4 #[jv (3 : Int64), sd, iv (128 : Int32)] [])) K
  refine Wlk.of (fun _ k => XS.lloadN X0.here hx rfl (hb hby d2_4) rfl k) ?_
  show Wlk p.tables e below (s₁.setTop (mkF m 5 #[jv (3 : Int64), sd, iv (128 : Int32)] [(.long (3 : Int64))])) K
  refine Wlk.of (fun _ k => X0.ldc2Long hx hown (mvT hZ (wd hw 12 rfl)) (g := (mkF m 5 #[jv (3 : Int64), sd, iv (128 : Int32)] [(.long (3 : Int64))])) rfl (hb hby d2_5) _ k) ?_
  show Wlk p.tables e below (s₁.setTop (mkF m 8 #[jv (3 : Int64), sd, iv (128 : Int32)] [(.long (-128 : Int64)), (.long (3 : Int64))])) K
  refine Wlk.of (fun _ k => XS.lcmp X0.here hx rfl (hb hby d2_8) rfl k) ?_
  show Wlk p.tables e below (s₁.setTop (mkF m 9 #[jv (3 : Int64), sd, iv (128 : Int32)] [(.int (lcmpW (3 : Int64) (-128 : Int64)))])) K
  refine Wlk.of (fun _ k => XS.ifNo X0.here hx rfl (hb hby d2_9) rfl ((if0 _ _).trans (flt (fun q => (by decide : ¬ ((3 : Int64) < (-128 : Int64))) ((lw_lt _ _).mp q))).1) k) ?_
  show Wlk p.tables e below (s₁.setTop (mkF m 12 #[jv (3 : Int64), sd, iv (128 : Int32)] [])) K
  refine Wlk.of (fun _ k => XS.lloadN X0.here hx rfl (hb hby d2_12) rfl k) ?_
  show Wlk p.tables e below (s₁.setTop (mkF m 13 #[jv (3 : Int64), sd, iv (128 : Int32)] [(.long (3 : Int64))])) K
  refine Wlk.of (fun _ k => X0.ldc2Long hx hown (mvT hZ (wd hw 13 rfl)) (g := (mkF m 13 #[jv (3 : Int64), sd, iv (128 : Int32)] [(.long (3 : Int64))])) rfl (hb hby d2_13) _ k) ?_
  show Wlk p.tables e below (s₁.setTop (mkF m 16 #[jv (3 : Int64), sd, iv (128 : Int32)] [(.long (127 : Int64)), (.long (3 : Int64))])) K
  refine Wlk.of (fun _ k => XS.lcmp X0.here hx rfl (hb hby d2_16) rfl k) ?_
  show Wlk p.tables e below (s₁.setTop (mkF m 17 #[jv (3 : Int64), sd, iv (128 : Int32)] [(.int (lcmpW (3 : Int64) (127 : Int64)))])) K
  refine Wlk.of (fun _ k => XS.ifNo X0.here hx rfl (hb hby d2_17) rfl ((if0 _ _).trans (flt (fun q => (by decide : ¬ ((127 : Int64) < (3 : Int64))) ((lw_gt _ _).mp q))).2.2.1) k) ?_
  show Wlk p.tables e below (s₁.setTop (mkF m 20 #[jv (3 : Int64), sd, iv (128 : Int32)] [])) K
  obtain ⟨T1, X1, e1, st1⟩ := getS2 X0 hx hZ hown (host := "") (Or.inl (wd hw 14 rfl)) Via.refl e0 S_cache (g := (mkF m 20 #[jv (3 : Int64), sd, iv (128 : Int32)] [])) rfl (hb hby d2_20)
  refine Wlk.of (fun _ k => st1 _ k) ?_
  show Wlk p.tables e below (T1.setTop (mkF m 23 #[jv (3 : Int64), sd, iv (128 : Int32)] [(.ref ca)])) K
  refine Wlk.of (fun _ k => XS.lloadN X1.here hx rfl (hb hby d2_23) rfl k) ?_
  show Wlk p.tables e below (T1.setTop (mkF m 24 #[jv (3 : Int64), sd, iv (128 : Int32)] [(.long (3 : Int64)), (.ref ca)])) K
  refine Wlk.of (fun _ k => XS.l2i X1.here hx rfl (hb hby d2_24) rfl k) ?_
  show Wlk p.tables e below (T1.setTop (mkF m 25 #[jv (3 : Int64), sd, iv (128 : Int32)] [(.int (3 : Int32)), (.ref ca)])) K
  refine Wlk.of (fun _ k => XS.sipush X1.here hx rfl (hb hby d2_25) k) ?_
  show Wlk p.tables e below (T1.setTop (mkF m 28 #[jv (3 : Int64), sd, iv (128 : Int32)] [(.int (128 : Int32)), (.int (3 : Int32)), (.ref ca)])) K
  refine Wlk.of (fun _ k => XS.iadd X1.here hx rfl (hb hby d2_28) rfl k) ?_
  show Wlk p.tables e below (T1.setTop (mkF m 29 #[jv (3 : Int64), sd, iv (128 : Int32)] [(.int (131 : Int32)), (.ref ca)])) K
  refine Wlk.of (fun _ k => ldR X1 hx hZ e1 A_ca rfl (j := (131 : Int32)) (i := 131) (by decide) (by decide) hC3 (g := (mkF m 29 #[jv (3 : Int64), sd, iv (128 : Int32)] [(.int (131 : Int32)), (.ref ca)])) rfl rfl (hb hby d2_29) _ k) ?_
  show Wlk p.tables e below (T1.setTop (mkF m 30 #[jv (3 : Int64), sd, iv (128 : Int32)] [(.ref lg3)])) K
  refine hK (some (.ref lg3)) X1 (fun q => by cases q) (fun fs hr => retOut X1 hx hret rfl (Or.inr (Or.inr (Or.inr (Or.inr ⟨rfl, rfl, rfl⟩)))) (hb hby d2_30) hr) ?_ (by decide) (by decide)
  rw [show T1.heap = h0 from e1]
  exact ⟨rfl, N0, rfl⟩
theorem d10_0 : decode jdk_29_method_25_code 0 = .ok (.lload_n 0, 1) := by decide +kernel
theorem d10_1 : decode jdk_29_method_25_code 1 = .ok (.lload_n 2, 1) := by decide +kernel
theorem d10_2 : decode jdk_29_method_25_code 2 = .ok (.ladd, 1) := by decide +kernel
theorem d10_3 : decode jdk_29_method_25_code 3 = .ok (.lstore 4, 2) := by decide +kernel
theorem d10_5 : decode jdk_29_method_25_code 5 = .ok (.lload_n 0, 1) := by decide +kernel
theorem d10_6 : decode jdk_29_method_25_code 6 = .ok (.lload 4, 2) := by decide +kernel
theorem d10_8 : decode jdk_29_method_25_code 8 = .ok (.lxor, 1) := by decide +kernel
theorem d10_9 : decode jdk_29_method_25_code 9 = .ok (.lload_n 2, 1) := by decide +kernel
theorem d10_10 : decode jdk_29_method_25_code 10 = .ok (.lload 4, 2) := by decide +kernel
theorem d10_12 : decode jdk_29_method_25_code 12 = .ok (.lxor, 1) := by decide +kernel
theorem d10_13 : decode jdk_29_method_25_code 13 = .ok (.land, 1) := by decide +kernel
theorem d10_14 : decode jdk_29_method_25_code 14 = .ok (.lconst 0, 1) := by decide +kernel
theorem d10_15 : decode jdk_29_method_25_code 15 = .ok (.lcmp, 1) := by decide +kernel
theorem d10_16 : decode jdk_29_method_25_code 16 = .ok (.ifCond .ge 13, 3) := by decide +kernel
theorem d10_29 : decode jdk_29_method_25_code 29 = .ok (.lload 4, 2) := by decide +kernel
theorem d10_31 : decode jdk_29_method_25_code 31 = .ok (.lreturn, 1) := by decide +kernel
theorem ef_c_ax00 (m : MethodId)  : entryFrame m #[(.long (0 : Int64)), (.long (0 : Int64))] 6 = mkF m 0 #[jv (0 : Int64), sd, jv (0 : Int64), sd, un, un] [] := by first | (simp [entryFrame, mkF, argsToLocals, Value.category]; done) | rfl
def Q_c_ax00 (Z : State)  (h0 : Heap) (n0 : Nat) (v : Option Value) (h : Heap) (L : List Loc) : Prop := v = (some (.long (0 : Int64))) ∧ Fr n0 L ∧ h = h0
set_option maxRecDepth 65536 in
set_option maxHeartbeats 40000000 in
theorem c_ax00 (l : Launch) (Z : State) (a0 : Array Value) (hw : ∀ d ∈ tables_1, d.before a0 Z = true)  (h0 : Heap) (n0 : Nat) (Z0 : n0 ≤ h0.size) :
    Ctr l Z h0 (⟨"java/lang/Math", "addExact", "(JJ)J"⟩ : MethodName) jdk_29_method_25_code 6 (some .long) [] ({ frames := 0, cells := 0, slots := 0, locals := 0 } : Room) #[(.long (0 : Int64)), (.long (0 : Int64))] (Q_c_ax00 Z  h0 n0) := by
  refine Ctr.make (Jvm.Free.JP.mathPlain rfl (by decide +kernel)) fun p e s m below meth c s₁ K hret hml hx hby hown hnm hnamed hH hZ X0 e0 hK => ?_
  have hown : s.vm.findClass "java/lang/Math" = some m.cls := hown
  have N0 := Fr.nil n0
  have K0 : Keep h0 h0 [] := Keep.refl _ _
  refine Wlk.of (fun _ k => castTop (ef_c_ax00 m ) k) ?_
  show Wlk p.tables e below (s₁.setTop (mkF m 0 #[jv (0 : Int64), sd, jv (0 : Int64), sd, un, un] [])) K
  refine Wlk.of (fun _ k => XS.lloadN X0.here hx rfl (hb hby d10_0) rfl k) ?_
  show Wlk p.tables e below (s₁.setTop (mkF m 1 #[jv (0 : Int64), sd, jv (0 : Int64), sd, un, un] [(.long (0 : Int64))])) K
  refine Wlk.of (fun _ k => XS.lloadN X0.here hx rfl (hb hby d10_1) rfl k) ?_
  show Wlk p.tables e below (s₁.setTop (mkF m 2 #[jv (0 : Int64), sd, jv (0 : Int64), sd, un, un] [(.long (0 : Int64)), (.long (0 : Int64))])) K
  refine Wlk.of (fun _ k => XS.ladd X0.here hx rfl (hb hby d10_2) rfl k) ?_
  show Wlk p.tables e below (s₁.setTop (mkF m 3 #[jv (0 : Int64), sd, jv (0 : Int64), sd, un, un] [(.long (0 : Int64))])) K
  refine Wlk.of (fun _ k => XS.lstore X0.here hx rfl (hb hby d10_3) rfl (l' := #[jv (0 : Int64), sd, jv (0 : Int64), sd, jv (0 : Int64), sd]) rfl k) ?_
  show Wlk p.tables e below (s₁.setTop (mkF m 5 #[jv (0 : Int64), sd, jv (0 : Int64), sd, jv (0 : Int64), sd] [])) K
  refine Wlk.of (fun _ k => XS.lloadN X0.here hx rfl (hb hby d10_5) rfl k) ?_
  show Wlk p.tables e below (s₁.setTop (mkF m 6 #[jv (0 : Int64), sd, jv (0 : Int64), sd, jv (0 : Int64), sd] [(.long (0 : Int64))])) K
  refine Wlk.of (fun _ k => XS.lload X0.here hx rfl (hb hby d10_6) rfl k) ?_
  show Wlk p.tables e below (s₁.setTop (mkF m 8 #[jv (0 : Int64), sd, jv (0 : Int64), sd, jv (0 : Int64), sd] [(.long (0 : Int64)), (.long (0 : Int64))])) K
  refine Wlk.of (fun _ k => XS.lxor X0.here hx rfl (hb hby d10_8) rfl k) ?_
  show Wlk p.tables e below (s₁.setTop (mkF m 9 #[jv (0 : Int64), sd, jv (0 : Int64), sd, jv (0 : Int64), sd] [(.long (0 : Int64))])) K
  refine Wlk.of (fun _ k => XS.lloadN X0.here hx rfl (hb hby d10_9) rfl k) ?_
  show Wlk p.tables e below (s₁.setTop (mkF m 10 #[jv (0 : Int64), sd, jv (0 : Int64), sd, jv (0 : Int64), sd] [(.long (0 : Int64)), (.long (0 : Int64))])) K
  refine Wlk.of (fun _ k => XS.lload X0.here hx rfl (hb hby d10_10) rfl k) ?_
  show Wlk p.tables e below (s₁.setTop (mkF m 12 #[jv (0 : Int64), sd, jv (0 : Int64), sd, jv (0 : Int64), sd] [(.long (0 : Int64)), (.long (0 : Int64)), (.long (0 : Int64))])) K
  refine Wlk.of (fun _ k => XS.lxor X0.here hx rfl (hb hby d10_12) rfl k) ?_
  show Wlk p.tables e below (s₁.setTop (mkF m 13 #[jv (0 : Int64), sd, jv (0 : Int64), sd, jv (0 : Int64), sd] [(.long (0 : Int64)), (.long (0 : Int64))])) K
  refine Wlk.of (fun _ k => XS.land X0.here hx rfl (hb hby d10_13) rfl k) ?_
  show Wlk p.tables e below (s₁.setTop (mkF m 14 #[jv (0 : Int64), sd, jv (0 : Int64), sd, jv (0 : Int64), sd] [(.long (0 : Int64))])) K
  refine Wlk.of (fun _ k => XS.lconst X0.here hx rfl (hb hby d10_14) k) ?_
  show Wlk p.tables e below (s₁.setTop (mkF m 15 #[jv (0 : Int64), sd, jv (0 : Int64), sd, jv (0 : Int64), sd] [(.long (0 : Int64)), (.long (0 : Int64))])) K
  refine Wlk.of (fun _ k => XS.lcmp X0.here hx rfl (hb hby d10_15) rfl k) ?_
  show Wlk p.tables e below (s₁.setTop (mkF m 16 #[jv (0 : Int64), sd, jv (0 : Int64), sd, jv (0 : Int64), sd] [(.int (lcmpW (0 : Int64) (0 : Int64)))])) K
  refine Wlk.of (fun _ k => XS.ifYes X0.here hx rfl (pc0 := 16) (pc' := 29) rfl (hb hby d10_16) rfl ((if0 _ _).trans (flt (fun q => (by decide : ¬ ((0 : Int64) < (0 : Int64))) ((lw_lt _ _).mp q))).2.1) (by decide) (by decide) k) ?_
  show Wlk p.tables e below (s₁.setTop (mkF m 29 #[jv (0 : Int64), sd, jv (0 : Int64), sd, jv (0 : Int64), sd] [])) K
  refine Wlk.of (fun _ k => XS.lload X0.here hx rfl (hb hby d10_29) rfl k) ?_
  show Wlk p.tables e below (s₁.setTop (mkF m 31 #[jv (0 : Int64), sd, jv (0 : Int64), sd, jv (0 : Int64), sd] [(.long (0 : Int64))])) K
  refine hK (some (.long (0 : Int64))) X0 (fun q => by cases q) (fun fs hr => retOut X0 hx hret rfl (Or.inr (Or.inl ⟨rfl, rfl, _, rfl⟩)) (hb hby d10_31) hr) ?_ (by decide) (by decide)
  rw [show s₁.heap = h0 from e0]
  exact ⟨rfl, N0, rfl⟩
theorem ef_c_ax01 (m : MethodId)  : entryFrame m #[(.long (0 : Int64)), (.long (1 : Int64))] 6 = mkF m 0 #[jv (0 : Int64), sd, jv (1 : Int64), sd, un, un] [] := by first | (simp [entryFrame, mkF, argsToLocals, Value.category]; done) | rfl
def Q_c_ax01 (Z : State)  (h0 : Heap) (n0 : Nat) (v : Option Value) (h : Heap) (L : List Loc) : Prop := v = (some (.long (1 : Int64))) ∧ Fr n0 L ∧ h = h0
set_option maxRecDepth 65536 in
set_option maxHeartbeats 40000000 in
theorem c_ax01 (l : Launch) (Z : State) (a0 : Array Value) (hw : ∀ d ∈ tables_1, d.before a0 Z = true)  (h0 : Heap) (n0 : Nat) (Z0 : n0 ≤ h0.size) :
    Ctr l Z h0 (⟨"java/lang/Math", "addExact", "(JJ)J"⟩ : MethodName) jdk_29_method_25_code 6 (some .long) [] ({ frames := 0, cells := 0, slots := 0, locals := 0 } : Room) #[(.long (0 : Int64)), (.long (1 : Int64))] (Q_c_ax01 Z  h0 n0) := by
  refine Ctr.make (Jvm.Free.JP.mathPlain rfl (by decide +kernel)) fun p e s m below meth c s₁ K hret hml hx hby hown hnm hnamed hH hZ X0 e0 hK => ?_
  have hown : s.vm.findClass "java/lang/Math" = some m.cls := hown
  have N0 := Fr.nil n0
  have K0 : Keep h0 h0 [] := Keep.refl _ _
  refine Wlk.of (fun _ k => castTop (ef_c_ax01 m ) k) ?_
  show Wlk p.tables e below (s₁.setTop (mkF m 0 #[jv (0 : Int64), sd, jv (1 : Int64), sd, un, un] [])) K
  refine Wlk.of (fun _ k => XS.lloadN X0.here hx rfl (hb hby d10_0) rfl k) ?_
  show Wlk p.tables e below (s₁.setTop (mkF m 1 #[jv (0 : Int64), sd, jv (1 : Int64), sd, un, un] [(.long (0 : Int64))])) K
  refine Wlk.of (fun _ k => XS.lloadN X0.here hx rfl (hb hby d10_1) rfl k) ?_
  show Wlk p.tables e below (s₁.setTop (mkF m 2 #[jv (0 : Int64), sd, jv (1 : Int64), sd, un, un] [(.long (1 : Int64)), (.long (0 : Int64))])) K
  refine Wlk.of (fun _ k => XS.ladd X0.here hx rfl (hb hby d10_2) rfl k) ?_
  show Wlk p.tables e below (s₁.setTop (mkF m 3 #[jv (0 : Int64), sd, jv (1 : Int64), sd, un, un] [(.long (1 : Int64))])) K
  refine Wlk.of (fun _ k => XS.lstore X0.here hx rfl (hb hby d10_3) rfl (l' := #[jv (0 : Int64), sd, jv (1 : Int64), sd, jv (1 : Int64), sd]) rfl k) ?_
  show Wlk p.tables e below (s₁.setTop (mkF m 5 #[jv (0 : Int64), sd, jv (1 : Int64), sd, jv (1 : Int64), sd] [])) K
  refine Wlk.of (fun _ k => XS.lloadN X0.here hx rfl (hb hby d10_5) rfl k) ?_
  show Wlk p.tables e below (s₁.setTop (mkF m 6 #[jv (0 : Int64), sd, jv (1 : Int64), sd, jv (1 : Int64), sd] [(.long (0 : Int64))])) K
  refine Wlk.of (fun _ k => XS.lload X0.here hx rfl (hb hby d10_6) rfl k) ?_
  show Wlk p.tables e below (s₁.setTop (mkF m 8 #[jv (0 : Int64), sd, jv (1 : Int64), sd, jv (1 : Int64), sd] [(.long (1 : Int64)), (.long (0 : Int64))])) K
  refine Wlk.of (fun _ k => XS.lxor X0.here hx rfl (hb hby d10_8) rfl k) ?_
  show Wlk p.tables e below (s₁.setTop (mkF m 9 #[jv (0 : Int64), sd, jv (1 : Int64), sd, jv (1 : Int64), sd] [(.long (1 : Int64))])) K
  refine Wlk.of (fun _ k => XS.lloadN X0.here hx rfl (hb hby d10_9) rfl k) ?_
  show Wlk p.tables e below (s₁.setTop (mkF m 10 #[jv (0 : Int64), sd, jv (1 : Int64), sd, jv (1 : Int64), sd] [(.long (1 : Int64)), (.long (1 : Int64))])) K
  refine Wlk.of (fun _ k => XS.lload X0.here hx rfl (hb hby d10_10) rfl k) ?_
  show Wlk p.tables e below (s₁.setTop (mkF m 12 #[jv (0 : Int64), sd, jv (1 : Int64), sd, jv (1 : Int64), sd] [(.long (1 : Int64)), (.long (1 : Int64)), (.long (1 : Int64))])) K
  refine Wlk.of (fun _ k => XS.lxor X0.here hx rfl (hb hby d10_12) rfl k) ?_
  show Wlk p.tables e below (s₁.setTop (mkF m 13 #[jv (0 : Int64), sd, jv (1 : Int64), sd, jv (1 : Int64), sd] [(.long (0 : Int64)), (.long (1 : Int64))])) K
  refine Wlk.of (fun _ k => XS.land X0.here hx rfl (hb hby d10_13) rfl k) ?_
  show Wlk p.tables e below (s₁.setTop (mkF m 14 #[jv (0 : Int64), sd, jv (1 : Int64), sd, jv (1 : Int64), sd] [(.long (0 : Int64))])) K
  refine Wlk.of (fun _ k => XS.lconst X0.here hx rfl (hb hby d10_14) k) ?_
  show Wlk p.tables e below (s₁.setTop (mkF m 15 #[jv (0 : Int64), sd, jv (1 : Int64), sd, jv (1 : Int64), sd] [(.long (0 : Int64)), (.long (0 : Int64))])) K
  refine Wlk.of (fun _ k => XS.lcmp X0.here hx rfl (hb hby d10_15) rfl k) ?_
  show Wlk p.tables e below (s₁.setTop (mkF m 16 #[jv (0 : Int64), sd, jv (1 : Int64), sd, jv (1 : Int64), sd] [(.int (lcmpW (0 : Int64) (0 : Int64)))])) K
  refine Wlk.of (fun _ k => XS.ifYes X0.here hx rfl (pc0 := 16) (pc' := 29) rfl (hb hby d10_16) rfl ((if0 _ _).trans (flt (fun q => (by decide : ¬ ((0 : Int64) < (0 : Int64))) ((lw_lt _ _).mp q))).2.1) (by decide) (by decide) k) ?_
  show Wlk p.tables e below (s₁.setTop (mkF m 29 #[jv (0 : Int64), sd, jv (1 : Int64), sd, jv (1 : Int64), sd] [])) K
  refine Wlk.of (fun _ k => XS.lload X0.here hx rfl (hb hby d10_29) rfl k) ?_
  show Wlk p.tables e below (s₁.setTop (mkF m 31 #[jv (0 : Int64), sd, jv (1 : Int64), sd, jv (1 : Int64), sd] [(.long (1 : Int64))])) K
  refine hK (some (.long (1 : Int64))) X0 (fun q => by cases q) (fun fs hr => retOut X0 hx hret rfl (Or.inr (Or.inl ⟨rfl, rfl, _, rfl⟩)) (hb hby d10_31) hr) ?_ (by decide) (by decide)
  rw [show s₁.heap = h0 from e0]
  exact ⟨rfl, N0, rfl⟩
theorem ef_c_ax02 (m : MethodId)  : entryFrame m #[(.long (0 : Int64)), (.long (2 : Int64))] 6 = mkF m 0 #[jv (0 : Int64), sd, jv (2 : Int64), sd, un, un] [] := by first | (simp [entryFrame, mkF, argsToLocals, Value.category]; done) | rfl
def Q_c_ax02 (Z : State)  (h0 : Heap) (n0 : Nat) (v : Option Value) (h : Heap) (L : List Loc) : Prop := v = (some (.long (2 : Int64))) ∧ Fr n0 L ∧ h = h0
set_option maxRecDepth 65536 in
set_option maxHeartbeats 40000000 in
theorem c_ax02 (l : Launch) (Z : State) (a0 : Array Value) (hw : ∀ d ∈ tables_1, d.before a0 Z = true)  (h0 : Heap) (n0 : Nat) (Z0 : n0 ≤ h0.size) :
    Ctr l Z h0 (⟨"java/lang/Math", "addExact", "(JJ)J"⟩ : MethodName) jdk_29_method_25_code 6 (some .long) [] ({ frames := 0, cells := 0, slots := 0, locals := 0 } : Room) #[(.long (0 : Int64)), (.long (2 : Int64))] (Q_c_ax02 Z  h0 n0) := by
  refine Ctr.make (Jvm.Free.JP.mathPlain rfl (by decide +kernel)) fun p e s m below meth c s₁ K hret hml hx hby hown hnm hnamed hH hZ X0 e0 hK => ?_
  have hown : s.vm.findClass "java/lang/Math" = some m.cls := hown
  have N0 := Fr.nil n0
  have K0 : Keep h0 h0 [] := Keep.refl _ _
  refine Wlk.of (fun _ k => castTop (ef_c_ax02 m ) k) ?_
  show Wlk p.tables e below (s₁.setTop (mkF m 0 #[jv (0 : Int64), sd, jv (2 : Int64), sd, un, un] [])) K
  refine Wlk.of (fun _ k => XS.lloadN X0.here hx rfl (hb hby d10_0) rfl k) ?_
  show Wlk p.tables e below (s₁.setTop (mkF m 1 #[jv (0 : Int64), sd, jv (2 : Int64), sd, un, un] [(.long (0 : Int64))])) K
  refine Wlk.of (fun _ k => XS.lloadN X0.here hx rfl (hb hby d10_1) rfl k) ?_
  show Wlk p.tables e below (s₁.setTop (mkF m 2 #[jv (0 : Int64), sd, jv (2 : Int64), sd, un, un] [(.long (2 : Int64)), (.long (0 : Int64))])) K
  refine Wlk.of (fun _ k => XS.ladd X0.here hx rfl (hb hby d10_2) rfl k) ?_
  show Wlk p.tables e below (s₁.setTop (mkF m 3 #[jv (0 : Int64), sd, jv (2 : Int64), sd, un, un] [(.long (2 : Int64))])) K
  refine Wlk.of (fun _ k => XS.lstore X0.here hx rfl (hb hby d10_3) rfl (l' := #[jv (0 : Int64), sd, jv (2 : Int64), sd, jv (2 : Int64), sd]) rfl k) ?_
  show Wlk p.tables e below (s₁.setTop (mkF m 5 #[jv (0 : Int64), sd, jv (2 : Int64), sd, jv (2 : Int64), sd] [])) K
  refine Wlk.of (fun _ k => XS.lloadN X0.here hx rfl (hb hby d10_5) rfl k) ?_
  show Wlk p.tables e below (s₁.setTop (mkF m 6 #[jv (0 : Int64), sd, jv (2 : Int64), sd, jv (2 : Int64), sd] [(.long (0 : Int64))])) K
  refine Wlk.of (fun _ k => XS.lload X0.here hx rfl (hb hby d10_6) rfl k) ?_
  show Wlk p.tables e below (s₁.setTop (mkF m 8 #[jv (0 : Int64), sd, jv (2 : Int64), sd, jv (2 : Int64), sd] [(.long (2 : Int64)), (.long (0 : Int64))])) K
  refine Wlk.of (fun _ k => XS.lxor X0.here hx rfl (hb hby d10_8) rfl k) ?_
  show Wlk p.tables e below (s₁.setTop (mkF m 9 #[jv (0 : Int64), sd, jv (2 : Int64), sd, jv (2 : Int64), sd] [(.long (2 : Int64))])) K
  refine Wlk.of (fun _ k => XS.lloadN X0.here hx rfl (hb hby d10_9) rfl k) ?_
  show Wlk p.tables e below (s₁.setTop (mkF m 10 #[jv (0 : Int64), sd, jv (2 : Int64), sd, jv (2 : Int64), sd] [(.long (2 : Int64)), (.long (2 : Int64))])) K
  refine Wlk.of (fun _ k => XS.lload X0.here hx rfl (hb hby d10_10) rfl k) ?_
  show Wlk p.tables e below (s₁.setTop (mkF m 12 #[jv (0 : Int64), sd, jv (2 : Int64), sd, jv (2 : Int64), sd] [(.long (2 : Int64)), (.long (2 : Int64)), (.long (2 : Int64))])) K
  refine Wlk.of (fun _ k => XS.lxor X0.here hx rfl (hb hby d10_12) rfl k) ?_
  show Wlk p.tables e below (s₁.setTop (mkF m 13 #[jv (0 : Int64), sd, jv (2 : Int64), sd, jv (2 : Int64), sd] [(.long (0 : Int64)), (.long (2 : Int64))])) K
  refine Wlk.of (fun _ k => XS.land X0.here hx rfl (hb hby d10_13) rfl k) ?_
  show Wlk p.tables e below (s₁.setTop (mkF m 14 #[jv (0 : Int64), sd, jv (2 : Int64), sd, jv (2 : Int64), sd] [(.long (0 : Int64))])) K
  refine Wlk.of (fun _ k => XS.lconst X0.here hx rfl (hb hby d10_14) k) ?_
  show Wlk p.tables e below (s₁.setTop (mkF m 15 #[jv (0 : Int64), sd, jv (2 : Int64), sd, jv (2 : Int64), sd] [(.long (0 : Int64)), (.long (0 : Int64))])) K
  refine Wlk.of (fun _ k => XS.lcmp X0.here hx rfl (hb hby d10_15) rfl k) ?_
  show Wlk p.tables e below (s₁.setTop (mkF m 16 #[jv (0 : Int64), sd, jv (2 : Int64), sd, jv (2 : Int64), sd] [(.int (lcmpW (0 : Int64) (0 : Int64)))])) K
  refine Wlk.of (fun _ k => XS.ifYes X0.here hx rfl (pc0 := 16) (pc' := 29) rfl (hb hby d10_16) rfl ((if0 _ _).trans (flt (fun q => (by decide : ¬ ((0 : Int64) < (0 : Int64))) ((lw_lt _ _).mp q))).2.1) (by decide) (by decide) k) ?_
  show Wlk p.tables e below (s₁.setTop (mkF m 29 #[jv (0 : Int64), sd, jv (2 : Int64), sd, jv (2 : Int64), sd] [])) K
  refine Wlk.of (fun _ k => XS.lload X0.here hx rfl (hb hby d10_29) rfl k) ?_
  show Wlk p.tables e below (s₁.setTop (mkF m 31 #[jv (0 : Int64), sd, jv (2 : Int64), sd, jv (2 : Int64), sd] [(.long (2 : Int64))])) K
  refine hK (some (.long (2 : Int64))) X0 (fun q => by cases q) (fun fs hr => retOut X0 hx hret rfl (Or.inr (Or.inl ⟨rfl, rfl, _, rfl⟩)) (hb hby d10_31) hr) ?_ (by decide) (by decide)
  rw [show s₁.heap = h0 from e0]
  exact ⟨rfl, N0, rfl⟩
theorem ef_c_ax21 (m : MethodId)  : entryFrame m #[(.long (2 : Int64)), (.long (1 : Int64))] 6 = mkF m 0 #[jv (2 : Int64), sd, jv (1 : Int64), sd, un, un] [] := by first | (simp [entryFrame, mkF, argsToLocals, Value.category]; done) | rfl
def Q_c_ax21 (Z : State)  (h0 : Heap) (n0 : Nat) (v : Option Value) (h : Heap) (L : List Loc) : Prop := v = (some (.long (3 : Int64))) ∧ Fr n0 L ∧ h = h0
set_option maxRecDepth 65536 in
set_option maxHeartbeats 40000000 in
theorem c_ax21 (l : Launch) (Z : State) (a0 : Array Value) (hw : ∀ d ∈ tables_1, d.before a0 Z = true)  (h0 : Heap) (n0 : Nat) (Z0 : n0 ≤ h0.size) :
    Ctr l Z h0 (⟨"java/lang/Math", "addExact", "(JJ)J"⟩ : MethodName) jdk_29_method_25_code 6 (some .long) [] ({ frames := 0, cells := 0, slots := 0, locals := 0 } : Room) #[(.long (2 : Int64)), (.long (1 : Int64))] (Q_c_ax21 Z  h0 n0) := by
  refine Ctr.make (Jvm.Free.JP.mathPlain rfl (by decide +kernel)) fun p e s m below meth c s₁ K hret hml hx hby hown hnm hnamed hH hZ X0 e0 hK => ?_
  have hown : s.vm.findClass "java/lang/Math" = some m.cls := hown
  have N0 := Fr.nil n0
  have K0 : Keep h0 h0 [] := Keep.refl _ _
  refine Wlk.of (fun _ k => castTop (ef_c_ax21 m ) k) ?_
  show Wlk p.tables e below (s₁.setTop (mkF m 0 #[jv (2 : Int64), sd, jv (1 : Int64), sd, un, un] [])) K
  refine Wlk.of (fun _ k => XS.lloadN X0.here hx rfl (hb hby d10_0) rfl k) ?_
  show Wlk p.tables e below (s₁.setTop (mkF m 1 #[jv (2 : Int64), sd, jv (1 : Int64), sd, un, un] [(.long (2 : Int64))])) K
  refine Wlk.of (fun _ k => XS.lloadN X0.here hx rfl (hb hby d10_1) rfl k) ?_
  show Wlk p.tables e below (s₁.setTop (mkF m 2 #[jv (2 : Int64), sd, jv (1 : Int64), sd, un, un] [(.long (1 : Int64)), (.long (2 : Int64))])) K
  refine Wlk.of (fun _ k => XS.ladd X0.here hx rfl (hb hby d10_2) rfl k) ?_
  show Wlk p.tables e below (s₁.setTop (mkF m 3 #[jv (2 : Int64), sd, jv (1 : Int64), sd, un, un] [(.long (3 : Int64))])) K
  refine Wlk.of (fun _ k => XS.lstore X0.here hx rfl (hb hby d10_3) rfl (l' := #[jv (2 : Int64), sd, jv (1 : Int64), sd, jv (3 : Int64), sd]) rfl k) ?_
  show Wlk p.tables e below (s₁.setTop (mkF m 5 #[jv (2 : Int64), sd, jv (1 : Int64), sd, jv (3 : Int64), sd] [])) K
  refine Wlk.of (fun _ k => XS.lloadN X0.here hx rfl (hb hby d10_5) rfl k) ?_
  show Wlk p.tables e below (s₁.setTop (mkF m 6 #[jv (2 : Int64), sd, jv (1 : Int64), sd, jv (3 : Int64), sd] [(.long (2 : Int64))])) K
  refine Wlk.of (fun _ k => XS.lload X0.here hx rfl (hb hby d10_6) rfl k) ?_
  show Wlk p.tables e below (s₁.setTop (mkF m 8 #[jv (2 : Int64), sd, jv (1 : Int64), sd, jv (3 : Int64), sd] [(.long (3 : Int64)), (.long (2 : Int64))])) K
  refine Wlk.of (fun _ k => XS.lxor X0.here hx rfl (hb hby d10_8) rfl k) ?_
  show Wlk p.tables e below (s₁.setTop (mkF m 9 #[jv (2 : Int64), sd, jv (1 : Int64), sd, jv (3 : Int64), sd] [(.long (1 : Int64))])) K
  refine Wlk.of (fun _ k => XS.lloadN X0.here hx rfl (hb hby d10_9) rfl k) ?_
  show Wlk p.tables e below (s₁.setTop (mkF m 10 #[jv (2 : Int64), sd, jv (1 : Int64), sd, jv (3 : Int64), sd] [(.long (1 : Int64)), (.long (1 : Int64))])) K
  refine Wlk.of (fun _ k => XS.lload X0.here hx rfl (hb hby d10_10) rfl k) ?_
  show Wlk p.tables e below (s₁.setTop (mkF m 12 #[jv (2 : Int64), sd, jv (1 : Int64), sd, jv (3 : Int64), sd] [(.long (3 : Int64)), (.long (1 : Int64)), (.long (1 : Int64))])) K
  refine Wlk.of (fun _ k => XS.lxor X0.here hx rfl (hb hby d10_12) rfl k) ?_
  show Wlk p.tables e below (s₁.setTop (mkF m 13 #[jv (2 : Int64), sd, jv (1 : Int64), sd, jv (3 : Int64), sd] [(.long (2 : Int64)), (.long (1 : Int64))])) K
  refine Wlk.of (fun _ k => XS.land X0.here hx rfl (hb hby d10_13) rfl k) ?_
  show Wlk p.tables e below (s₁.setTop (mkF m 14 #[jv (2 : Int64), sd, jv (1 : Int64), sd, jv (3 : Int64), sd] [(.long (0 : Int64))])) K
  refine Wlk.of (fun _ k => XS.lconst X0.here hx rfl (hb hby d10_14) k) ?_
  show Wlk p.tables e below (s₁.setTop (mkF m 15 #[jv (2 : Int64), sd, jv (1 : Int64), sd, jv (3 : Int64), sd] [(.long (0 : Int64)), (.long (0 : Int64))])) K
  refine Wlk.of (fun _ k => XS.lcmp X0.here hx rfl (hb hby d10_15) rfl k) ?_
  show Wlk p.tables e below (s₁.setTop (mkF m 16 #[jv (2 : Int64), sd, jv (1 : Int64), sd, jv (3 : Int64), sd] [(.int (lcmpW (0 : Int64) (0 : Int64)))])) K
  refine Wlk.of (fun _ k => XS.ifYes X0.here hx rfl (pc0 := 16) (pc' := 29) rfl (hb hby d10_16) rfl ((if0 _ _).trans (flt (fun q => (by decide : ¬ ((0 : Int64) < (0 : Int64))) ((lw_lt _ _).mp q))).2.1) (by decide) (by decide) k) ?_
  show Wlk p.tables e below (s₁.setTop (mkF m 29 #[jv (2 : Int64), sd, jv (1 : Int64), sd, jv (3 : Int64), sd] [])) K
  refine Wlk.of (fun _ k => XS.lload X0.here hx rfl (hb hby d10_29) rfl k) ?_
  show Wlk p.tables e below (s₁.setTop (mkF m 31 #[jv (2 : Int64), sd, jv (1 : Int64), sd, jv (3 : Int64), sd] [(.long (3 : Int64))])) K
  refine hK (some (.long (3 : Int64))) X0 (fun q => by cases q) (fun fs hr => retOut X0 hx hret rfl (Or.inr (Or.inl ⟨rfl, rfl, _, rfl⟩)) (hb hby d10_31) hr) ?_ (by decide) (by decide)
  rw [show s₁.heap = h0 from e0]
  exact ⟨rfl, N0, rfl⟩
theorem d12_0 : decode jdk_29_method_61_code 0 = .ok (.lload_n 0, 1) := by decide +kernel
theorem d12_1 : decode jdk_29_method_61_code 1 = .ok (.lconst 0, 1) := by decide +kernel
theorem d12_2 : decode jdk_29_method_61_code 2 = .ok (.lcmp, 1) := by decide +kernel
theorem d12_3 : decode jdk_29_method_61_code 3 = .ok (.ifCond .ge 8, 3) := by decide +kernel
theorem d12_11 : decode jdk_29_method_61_code 11 = .ok (.lload_n 0, 1) := by decide +kernel
theorem d12_12 : decode jdk_29_method_61_code 12 = .ok (.lreturn, 1) := by decide +kernel
theorem ef_c_ab1 (m : MethodId)  : entryFrame m #[(.long (1 : Int64))] 2 = mkF m 0 #[jv (1 : Int64), sd] [] := by first | (simp [entryFrame, mkF, argsToLocals, Value.category]; done) | rfl
def Q_c_ab1 (Z : State)  (h0 : Heap) (n0 : Nat) (v : Option Value) (h : Heap) (L : List Loc) : Prop := v = (some (.long (1 : Int64))) ∧ Fr n0 L ∧ h = h0
set_option maxRecDepth 65536 in
set_option maxHeartbeats 40000000 in
theorem c_ab1 (l : Launch) (Z : State) (a0 : Array Value) (hw : ∀ d ∈ tables_1, d.before a0 Z = true)  (h0 : Heap) (n0 : Nat) (Z0 : n0 ≤ h0.size) :
    Ctr l Z h0 (⟨"java/lang/Math", "abs", "(J)J"⟩ : MethodName) jdk_29_method_61_code 2 (some .long) [] ({ frames := 0, cells := 0, slots := 0, locals := 0 } : Room) #[(.long (1 : Int64))] (Q_c_ab1 Z  h0 n0) := by
  refine Ctr.make (Jvm.Free.JP.mathPlain rfl (by decide +kernel)) fun p e s m below meth c s₁ K hret hml hx hby hown hnm hnamed hH hZ X0 e0 hK => ?_
  have hown : s.vm.findClass "java/lang/Math" = some m.cls := hown
  have N0 := Fr.nil n0
  have K0 : Keep h0 h0 [] := Keep.refl _ _
  refine Wlk.of (fun _ k => castTop (ef_c_ab1 m ) k) ?_
  show Wlk p.tables e below (s₁.setTop (mkF m 0 #[jv (1 : Int64), sd] [])) K
  refine Wlk.of (fun _ k => XS.lloadN X0.here hx rfl (hb hby d12_0) rfl k) ?_
  show Wlk p.tables e below (s₁.setTop (mkF m 1 #[jv (1 : Int64), sd] [(.long (1 : Int64))])) K
  refine Wlk.of (fun _ k => XS.lconst X0.here hx rfl (hb hby d12_1) k) ?_
  show Wlk p.tables e below (s₁.setTop (mkF m 2 #[jv (1 : Int64), sd] [(.long (0 : Int64)), (.long (1 : Int64))])) K
  refine Wlk.of (fun _ k => XS.lcmp X0.here hx rfl (hb hby d12_2) rfl k) ?_
  show Wlk p.tables e below (s₁.setTop (mkF m 3 #[jv (1 : Int64), sd] [(.int (lcmpW (1 : Int64) (0 : Int64)))])) K
  refine Wlk.of (fun _ k => XS.ifYes X0.here hx rfl (pc0 := 3) (pc' := 11) rfl (hb hby d12_3) rfl ((if0 _ _).trans (flt (fun q => (by decide : ¬ ((1 : Int64) < (0 : Int64))) ((lw_lt _ _).mp q))).2.1) (by decide) (by decide) k) ?_
  show Wlk p.tables e below (s₁.setTop (mkF m 11 #[jv (1 : Int64), sd] [])) K
  refine Wlk.of (fun _ k => XS.lloadN X0.here hx rfl (hb hby d12_11) rfl k) ?_
  show Wlk p.tables e below (s₁.setTop (mkF m 12 #[jv (1 : Int64), sd] [(.long (1 : Int64))])) K
  refine hK (some (.long (1 : Int64))) X0 (fun q => by cases q) (fun fs hr => retOut X0 hx hret rfl (Or.inr (Or.inl ⟨rfl, rfl, _, rfl⟩)) (hb hby d12_12) hr) ?_ (by decide) (by decide)
  rw [show s₁.heap = h0 from e0]
  exact ⟨rfl, N0, rfl⟩
theorem ef_c_ab3 (m : MethodId)  : entryFrame m #[(.long (3 : Int64))] 2 = mkF m 0 #[jv (3 : Int64), sd] [] := by first | (simp [entryFrame, mkF, argsToLocals, Value.category]; done) | rfl
def Q_c_ab3 (Z : State)  (h0 : Heap) (n0 : Nat) (v : Option Value) (h : Heap) (L : List Loc) : Prop := v = (some (.long (3 : Int64))) ∧ Fr n0 L ∧ h = h0
set_option maxRecDepth 65536 in
set_option maxHeartbeats 40000000 in
theorem c_ab3 (l : Launch) (Z : State) (a0 : Array Value) (hw : ∀ d ∈ tables_1, d.before a0 Z = true)  (h0 : Heap) (n0 : Nat) (Z0 : n0 ≤ h0.size) :
    Ctr l Z h0 (⟨"java/lang/Math", "abs", "(J)J"⟩ : MethodName) jdk_29_method_61_code 2 (some .long) [] ({ frames := 0, cells := 0, slots := 0, locals := 0 } : Room) #[(.long (3 : Int64))] (Q_c_ab3 Z  h0 n0) := by
  refine Ctr.make (Jvm.Free.JP.mathPlain rfl (by decide +kernel)) fun p e s m below meth c s₁ K hret hml hx hby hown hnm hnamed hH hZ X0 e0 hK => ?_
  have hown : s.vm.findClass "java/lang/Math" = some m.cls := hown
  have N0 := Fr.nil n0
  have K0 : Keep h0 h0 [] := Keep.refl _ _
  refine Wlk.of (fun _ k => castTop (ef_c_ab3 m ) k) ?_
  show Wlk p.tables e below (s₁.setTop (mkF m 0 #[jv (3 : Int64), sd] [])) K
  refine Wlk.of (fun _ k => XS.lloadN X0.here hx rfl (hb hby d12_0) rfl k) ?_
  show Wlk p.tables e below (s₁.setTop (mkF m 1 #[jv (3 : Int64), sd] [(.long (3 : Int64))])) K
  refine Wlk.of (fun _ k => XS.lconst X0.here hx rfl (hb hby d12_1) k) ?_
  show Wlk p.tables e below (s₁.setTop (mkF m 2 #[jv (3 : Int64), sd] [(.long (0 : Int64)), (.long (3 : Int64))])) K
  refine Wlk.of (fun _ k => XS.lcmp X0.here hx rfl (hb hby d12_2) rfl k) ?_
  show Wlk p.tables e below (s₁.setTop (mkF m 3 #[jv (3 : Int64), sd] [(.int (lcmpW (3 : Int64) (0 : Int64)))])) K
  refine Wlk.of (fun _ k => XS.ifYes X0.here hx rfl (pc0 := 3) (pc' := 11) rfl (hb hby d12_3) rfl ((if0 _ _).trans (flt (fun q => (by decide : ¬ ((3 : Int64) < (0 : Int64))) ((lw_lt _ _).mp q))).2.1) (by decide) (by decide) k) ?_
  show Wlk p.tables e below (s₁.setTop (mkF m 11 #[jv (3 : Int64), sd] [])) K
  refine Wlk.of (fun _ k => XS.lloadN X0.here hx rfl (hb hby d12_11) rfl k) ?_
  show Wlk p.tables e below (s₁.setTop (mkF m 12 #[jv (3 : Int64), sd] [(.long (3 : Int64))])) K
  refine hK (some (.long (3 : Int64))) X0 (fun q => by cases q) (fun fs hr => retOut X0 hx hret rfl (Or.inr (Or.inl ⟨rfl, rfl, _, rfl⟩)) (hb hby d12_12) hr) ?_ (by decide) (by decide)
  rw [show s₁.heap = h0 from e0]
  exact ⟨rfl, N0, rfl⟩
theorem d23_0 : decode jdk_35_method_42_code 0 = .ok (.lload_n 0, 1) := by decide +kernel
theorem d23_1 : decode jdk_35_method_42_code 1 = .ok (.lload_n 2, 1) := by decide +kernel
theorem d23_2 : decode jdk_35_method_42_code 2 = .ok (.lcmp, 1) := by decide +kernel
theorem d23_3 : decode jdk_35_method_42_code 3 = .ok (.ifCond .ge 7, 3) := by decide +kernel
theorem d23_10 : decode jdk_35_method_42_code 10 = .ok (.lload_n 0, 1) := by decide +kernel
theorem d23_11 : decode jdk_35_method_42_code 11 = .ok (.lload_n 2, 1) := by decide +kernel
theorem d23_12 : decode jdk_35_method_42_code 12 = .ok (.lcmp, 1) := by decide +kernel
theorem d23_13 : decode jdk_35_method_42_code 13 = .ok (.ifCond .ne 7, 3) := by decide +kernel
theorem d23_20 : decode jdk_35_method_42_code 20 = .ok (.iconst 1, 1) := by decide +kernel
theorem d23_21 : decode jdk_35_method_42_code 21 = .ok (.ireturn, 1) := by decide +kernel
theorem ef_c_cm10 (m : MethodId)  : entryFrame m #[(.long (1 : Int64)), (.long (0 : Int64))] 4 = mkF m 0 #[jv (1 : Int64), sd, jv (0 : Int64), sd] [] := by first | (simp [entryFrame, mkF, argsToLocals, Value.category]; done) | rfl
def Q_c_cm10 (Z : State)  (h0 : Heap) (n0 : Nat) (v : Option Value) (h : Heap) (L : List Loc) : Prop := v = (some (.int (1 : Int32))) ∧ Fr n0 L ∧ h = h0
set_option maxRecDepth 65536 in
set_option maxHeartbeats 40000000 in
theorem c_cm10 (l : Launch) (Z : State) (a0 : Array Value) (hw : ∀ d ∈ tables_1, d.before a0 Z = true)  (h0 : Heap) (n0 : Nat) (Z0 : n0 ≤ h0.size) :
    Ctr l Z h0 (⟨"java/lang/Long", "compare", "(JJ)I"⟩ : MethodName) jdk_35_method_42_code 4 (some .int) [] ({ frames := 0, cells := 0, slots := 0, locals := 0 } : Room) #[(.long (1 : Int64)), (.long (0 : Int64))] (Q_c_cm10 Z  h0 n0) := by
  refine Ctr.make (plainFor_of_name pn_7) fun p e s m below meth c s₁ K hret hml hx hby hown hnm hnamed hH hZ X0 e0 hK => ?_
  have hown : s.vm.findClass "java/lang/Long" = some m.cls := hown
  have N0 := Fr.nil n0
  have K0 : Keep h0 h0 [] := Keep.refl _ _
  refine Wlk.of (fun _ k => castTop (ef_c_cm10 m ) k) ?_
  show Wlk p.tables e below (s₁.setTop (mkF m 0 #[jv (1 : Int64), sd, jv (0 : Int64), sd] [])) K
  refine Wlk.of (fun _ k => XS.lloadN X0.here hx rfl (hb hby d23_0) rfl k) ?_
  show Wlk p.tables e below (s₁.setTop (mkF m 1 #[jv (1 : Int64), sd, jv (0 : Int64), sd] [(.long (1 : Int64))])) K
  refine Wlk.of (fun _ k => XS.lloadN X0.here hx rfl (hb hby d23_1) rfl k) ?_
  show Wlk p.tables e below (s₁.setTop (mkF m 2 #[jv (1 : Int64), sd, jv (0 : Int64), sd] [(.long (0 : Int64)), (.long (1 : Int64))])) K
  refine Wlk.of (fun _ k => XS.lcmp X0.here hx rfl (hb hby d23_2) rfl k) ?_
  show Wlk p.tables e below (s₁.setTop (mkF m 3 #[jv (1 : Int64), sd, jv (0 : Int64), sd] [(.int (lcmpW (1 : Int64) (0 : Int64)))])) K
  refine Wlk.of (fun _ k => XS.ifYes X0.here hx rfl (pc0 := 3) (pc' := 10) rfl (hb hby d23_3) rfl ((if0 _ _).trans (flt (fun q => (by decide : ¬ ((1 : Int64) < (0 : Int64))) ((lw_lt _ _).mp q))).2.1) (by decide) (by decide) k) ?_
  show Wlk p.tables e below (s₁.setTop (mkF m 10 #[jv (1 : Int64), sd, jv (0 : Int64), sd] [])) K
  refine Wlk.of (fun _ k => XS.lloadN X0.here hx rfl (hb hby d23_10) rfl k) ?_
  show Wlk p.tables e below (s₁.setTop (mkF m 11 #[jv (1 : Int64), sd, jv (0 : Int64), sd] [(.long (1 : Int64))])) K
  refine Wlk.of (fun _ k => XS.lloadN X0.here hx rfl (hb hby d23_11) rfl k) ?_
  show Wlk p.tables e below (s₁.setTop (mkF m 12 #[jv (1 : Int64), sd, jv (0 : Int64), sd] [(.long (0 : Int64)), (.long (1 : Int64))])) K
  refine Wlk.of (fun _ k => XS.lcmp X0.here hx rfl (hb hby d23_12) rfl k) ?_
  show Wlk p.tables e below (s₁.setTop (mkF m 13 #[jv (1 : Int64), sd, jv (0 : Int64), sd] [(.int (lcmpW (1 : Int64) (0 : Int64)))])) K
  refine Wlk.of (fun _ k => XS.ifYes X0.here hx rfl (pc0 := 13) (pc' := 20) rfl (hb hby d23_13) rfl ((if0 _ _).trans (feq (fun q => (by decide : ¬ ((1 : Int64) = (0 : Int64))) ((lw_eq _ _).mp q))).2) (by decide) (by decide) k) ?_
  show Wlk p.tables e below (s₁.setTop (mkF m 20 #[jv (1 : Int64), sd, jv (0 : Int64), sd] [])) K
  refine Wlk.of (fun _ k => XS.iconst X0.here hx rfl (hb hby d23_20) k) ?_
  show Wlk p.tables e below (s₁.setTop (mkF m 21 #[jv (1 : Int64), sd, jv (0 : Int64), sd] [(.int (1 : Int32))])) K
  refine hK (some (.int (1 : Int32))) X0 (fun q => by cases q) (fun fs hr => retOut X0 hx hret rfl (Or.inl ⟨rfl, Or.inl rfl, _, rfl⟩) (hb hby d23_21) hr) ?_ (by decide) (by decide)
  rw [show s₁.heap = h0 from e0]
  exact ⟨rfl, N0, rfl⟩
theorem d23_6 : decode jdk_35_method_42_code 6 = .ok (.iconst (-1), 1) := by decide +kernel
theorem d23_7 : decode jdk_35_method_42_code 7 = .ok (.goto 14, 3) := by decide +kernel
theorem ef_c_cm12 (m : MethodId)  : entryFrame m #[(.long (1 : Int64)), (.long (2 : Int64))] 4 = mkF m 0 #[jv (1 : Int64), sd, jv (2 : Int64), sd] [] := by first | (simp [entryFrame, mkF, argsToLocals, Value.category]; done) | rfl
def Q_c_cm12 (Z : State)  (h0 : Heap) (n0 : Nat) (v : Option Value) (h : Heap) (L : List Loc) : Prop := v = (some (.int (-1 : Int32))) ∧ Fr n0 L ∧ h = h0
set_option maxRecDepth 65536 in
set_option maxHeartbeats 40000000 in
theorem c_cm12 (l : Launch) (Z : State) (a0 : Array Value) (hw : ∀ d ∈ tables_1, d.before a0 Z = true)  (h0 : Heap) (n0 : Nat) (Z0 : n0 ≤ h0.size) :
    Ctr l Z h0 (⟨"java/lang/Long", "compare", "(JJ)I"⟩ : MethodName) jdk_35_method_42_code 4 (some .int) [] ({ frames := 0, cells := 0, slots := 0, locals := 0 } : Room) #[(.long (1 : Int64)), (.long (2 : Int64))] (Q_c_cm12 Z  h0 n0) := by
  refine Ctr.make (plainFor_of_name pn_7) fun p e s m below meth c s₁ K hret hml hx hby hown hnm hnamed hH hZ X0 e0 hK => ?_
  have hown : s.vm.findClass "java/lang/Long" = some m.cls := hown
  have N0 := Fr.nil n0
  have K0 : Keep h0 h0 [] := Keep.refl _ _
  refine Wlk.of (fun _ k => castTop (ef_c_cm12 m ) k) ?_
  show Wlk p.tables e below (s₁.setTop (mkF m 0 #[jv (1 : Int64), sd, jv (2 : Int64), sd] [])) K
  refine Wlk.of (fun _ k => XS.lloadN X0.here hx rfl (hb hby d23_0) rfl k) ?_
  show Wlk p.tables e below (s₁.setTop (mkF m 1 #[jv (1 : Int64), sd, jv (2 : Int64), sd] [(.long (1 : Int64))])) K
  refine Wlk.of (fun _ k => XS.lloadN X0.here hx rfl (hb hby d23_1) rfl k) ?_
  show Wlk p.tables e below (s₁.setTop (mkF m 2 #[jv (1 : Int64), sd, jv (2 : Int64), sd] [(.long (2 : Int64)), (.long (1 : Int64))])) K
  refine Wlk.of (fun _ k => XS.lcmp X0.here hx rfl (hb hby d23_2) rfl k) ?_
  show Wlk p.tables e below (s₁.setTop (mkF m 3 #[jv (1 : Int64), sd, jv (2 : Int64), sd] [(.int (lcmpW (1 : Int64) (2 : Int64)))])) K
  refine Wlk.of (fun _ k => XS.ifNo X0.here hx rfl (hb hby d23_3) rfl ((if0 _ _).trans (tlt ((lw_lt _ _).mpr (by decide : (1 : Int64) < (2 : Int64)))).2.1) k) ?_
  show Wlk p.tables e below (s₁.setTop (mkF m 6 #[jv (1 : Int64), sd, jv (2 : Int64), sd] [])) K
  refine Wlk.of (fun _ k => XS.iconst X0.here hx rfl (hb hby d23_6) k) ?_
  show Wlk p.tables e below (s₁.setTop (mkF m 7 #[jv (1 : Int64), sd, jv (2 : Int64), sd] [(.int (-1 : Int32))])) K
  refine Wlk.of (fun _ k => XS.goto X0.here hx rfl (pc0 := 7) (pc' := 21) rfl (hb hby d23_7) (by decide) (by decide) k) ?_
  show Wlk p.tables e below (s₁.setTop (mkF m 21 #[jv (1 : Int64), sd, jv (2 : Int64), sd] [(.int (-1 : Int32))])) K
  refine hK (some (.int (-1 : Int32))) X0 (fun q => by cases q) (fun fs hr => retOut X0 hx hret rfl (Or.inl ⟨rfl, Or.inl rfl, _, rfl⟩) (hb hby d23_21) hr) ?_ (by decide) (by decide)
  rw [show s₁.heap = h0 from e0]
  exact ⟨rfl, N0, rfl⟩
theorem d15_0 : decode jdk_18_method_1_code 0 = .ok (.aload_n 0, 1) := by decide +kernel
theorem d15_1 : decode jdk_18_method_1_code 1 = .ok (.invokespecial 1, 3) := by decide +kernel
theorem d15_4 : decode jdk_18_method_1_code 4 = .ok (.return_, 1) := by decide +kernel
theorem pn_66 : plainName "java/lang/Number" = true := by first | (simp [plainName, overriddenIn]; done) | decide +kernel
theorem ef_c_ni (m : MethodId) (a : Addr) : entryFrame m #[(.ref a)] 1 = mkF m 0 #[rv a] [] := by first | (simp [entryFrame, mkF, argsToLocals, Value.category]; done) | rfl
def Q_c_ni (Z : State) (a : Addr) (h0 : Heap) (n0 : Nat) (v : Option Value) (h : Heap) (L : List Loc) : Prop := v = none ∧ Fr n0 L ∧ h = h0
set_option maxRecDepth 65536 in
set_option maxHeartbeats 40000000 in
theorem c_ni (l : Launch) (Z : State) (a0 : Array Value) (hw : ∀ d ∈ tables_1, d.before a0 Z = true) (a : Addr) (h0 : Heap) (n0 : Nat) (Z0 : n0 ≤ h0.size) :
    Ctr l Z h0 (⟨"java/lang/Number", "<init>", "()V"⟩ : MethodName) jdk_18_method_1_code 1 none [] ({ frames := 1, cells := 0, slots := 0, locals := 12 } : Room) #[(.ref a)] (Q_c_ni Z a h0 n0) := by
  refine Ctr.make (plainFor_of_name pn_66) fun p e s m below meth c s₁ K hret hml hx hby hown hnm hnamed hH hZ X0 e0 hK => ?_
  have hown : s.vm.findClass "java/lang/Number" = some m.cls := hown
  have N0 := Fr.nil n0
  have K0 : Keep h0 h0 [] := Keep.refl _ _
  refine Wlk.of (fun _ k => castTop (ef_c_ni m a) k) ?_
  show Wlk p.tables e below (s₁.setTop (mkF m 0 #[rv a] [])) K
  refine Wlk.of (fun _ k => XS.aloadN X0.here hx rfl (hb hby d15_0) rfl rfl k) ?_
  show Wlk p.tables e below (s₁.setTop (mkF m 1 #[rv a] [(.ref a)])) K
  obtain ⟨T1, X1, e1, st1⟩ := initO X0 hx hZ hown (wd hw 105 rfl) (wd hw 47 rfl) (wd hw 48 rfl) e0 (g := (mkF m 1 #[rv a] [(.ref a)])) rfl (by rw [hml]; rfl) rfl (hb hby d15_1) (by decide) (W := 0) (by show 2 * 0 + _ ≤ _; exact Nat.le_of_eq rfl) (by decide)
  refine Wlk.of (fun _ k => st1 _ k) ?_
  show Wlk p.tables e below (T1.setTop (mkF m 4 #[rv a] [])) K
  refine hK none X1 (fun q => rfl) (fun fs hr => X1.returnOut hx hret (hb hby d15_4) hr) ?_ (by decide) (by decide)
  rw [show T1.heap = h0 from e1]
  exact ⟨rfl, N0, rfl⟩
theorem pd_67 : parseMethodDescriptor "()V" = some ⟨[], none⟩ := by decide +kernel
theorem d14_0 : decode jdk_117_method_9_code 0 = .ok (.aload_n 0, 1) := by decide +kernel
theorem d14_1 : decode jdk_117_method_9_code 1 = .ok (.invokespecial 113, 3) := by decide +kernel
theorem d14_4 : decode jdk_117_method_9_code 4 = .ok (.aload_n 0, 1) := by decide +kernel
theorem d14_5 : decode jdk_117_method_9_code 5 = .ok (.dload_n 1, 1) := by decide +kernel
theorem d14_6 : decode jdk_117_method_9_code 6 = .ok (.putfield 118, 3) := by decide +kernel
theorem d14_9 : decode jdk_117_method_9_code 9 = .ok (.return_, 1) := by decide +kernel
theorem ef_c_di (m : MethodId) (a : Addr) (x : UInt64) : entryFrame m #[(.ref a), (.double x)] 3 = mkF m 0 #[rv a, dv x, sd] [] := by first | (simp [entryFrame, mkF, argsToLocals, Value.category]; done) | rfl
def Q_c_di (Z : State) (a : Addr) (x : UInt64) (h0 : Heap) (n0 : Nat) (v : Option Value) (h : Heap) (L : List Loc) : Prop := v = none ∧ Fr n0 L ∧ Keep h0 h [a] ∧ Fld Z h a "java/lang/Double" "value" "D" (.double x)
set_option maxRecDepth 65536 in
set_option maxHeartbeats 40000000 in
theorem c_di (l : Launch) (Z : State) (a0 : Array Value) (hw : ∀ d ∈ tables_1, d.before a0 Z = true) (a : Addr) (x : UInt64) (h0 : Heap) (n0 : Nat) (Z0 : n0 ≤ h0.size) (E_a : Exa Z h0 a "java/lang/Double") (F_a_value : Fld Z h0 a "java/lang/Double" "value" "D" (.double (0 : UInt64))) (g_a : n0 ≤ a) :
    Ctr l Z h0 (⟨"java/lang/Double", "<init>", "(D)V"⟩ : MethodName) jdk_117_method_9_code 3 none [] ({ frames := 2, cells := 0, slots := 0, locals := 24 } : Room) #[(.ref a), (.double x)] (Q_c_di Z a x h0 n0) := by
  refine Ctr.make (plainFor_of_name pn_11) fun p e s m below meth c s₁ K hret hml hx hby hown hnm hnamed hH hZ X0 e0 hK => ?_
  have hown : s.vm.findClass "java/lang/Double" = some m.cls := hown
  have N0 := Fr.nil n0
  have K0 : Keep h0 h0 [a] := Keep.refl _ _
  refine Wlk.of (fun _ k => castTop (ef_c_di m a x) k) ?_
  show Wlk p.tables e below (s₁.setTop (mkF m 0 #[rv a, dv x, sd] [])) K
  refine Wlk.of (fun _ k => XS.aloadN X0.here hx rfl (hb hby d14_0) rfl rfl k) ?_
  show Wlk p.tables e below (s₁.setTop (mkF m 1 #[rv a, dv x, sd] [(.ref a)])) K
  obtain ⟨v1, T1, L1, X1, q1, st1⟩ := Ctr.special (c_ni l Z a0 hw a h0 n0 (Nat.le_trans Z0 K0.1) ) X0 hx hH e0 hown rfl (wd hw 99 rfl) (wd hw 100 rfl) (wd hw 103 rfl) (wd hw 104 rfl) (by decide) pd_67 (g := (mkF m 1 #[rv a, dv x, sd] [(.ref a)])) rfl (by rw [hml]; rfl) (a := a) (argsL := []) (rest := []) rfl rfl rfl (W := 0) (by show 2 * 0 + _ ≤ _; exact Nat.le_of_eq rfl) (by decide) (by decide) (hb hby d14_1) (by decide) (by decide)
  obtain ⟨rfl, N1q, hh1⟩ := q1
  have N2 := Fr.app N0 N1q
  refine Wlk.of (fun _ k => st1 _ k) ?_
  show Wlk p.tables e below (T1.setTop (mkF m 4 #[rv a, dv x, sd] [])) K
  refine Wlk.of (fun _ k => XS.aloadN X1.here hx rfl (hb hby d14_4) rfl rfl k) ?_
  show Wlk p.tables e below (T1.setTop (mkF m 5 #[rv a, dv x, sd] [(.ref a)])) K
  refine Wlk.of (fun _ k => XS.dloadN X1.here hx rfl (hb hby d14_5) rfl k) ?_
  show Wlk p.tables e below (T1.setTop (mkF m 6 #[rv a, dv x, sd] [(.double x), (.ref a)])) K
  obtain ⟨T3, h3, X3, e3, W3, st3⟩ := putF X1 hx hZ hown (host := "") (Or.inl (wd hw 106 rfl)) Via.refl hh1 F_a_value E_a (Or.inr ⟨(wd hw 107 rfl), rfl, hnm⟩) (wd hw 94 rfl) (ty := .double) (by decide) rfl rfl (g := (mkF m 6 #[rv a, dv x, sd] [(.double x), (.ref a)])) rfl rfl (hb hby d14_6)
  have Fw3 := F_a_value.same W3
  refine Wlk.of (fun _ k => st3 _ k) ?_
  have K4 : Keep h0 h3 [a] := K0.wr W3 (Or.inl (List.mem_of_getElem? (i := 0) rfl))
  have N5 := Fr.snoc X3 N2 g_a
  show Wlk p.tables e below (T3.setTop (mkF m 9 #[rv a, dv x, sd] [])) K
  refine hK none X3 (fun q => rfl) (fun fs hr => X3.returnOut hx hret (hb hby d14_9) hr) ?_ (by decide) (by decide)
  rw [show T3.heap = h3 from e3]
  exact ⟨rfl, N5, K4, Fw3⟩
theorem pd_74 : parseMethodDescriptor "(D)V" = some ⟨[.double], none⟩ := by decide +kernel
theorem d13_0 : decode jdk_117_method_4_code 0 = .ok (.new 1, 3) := by decide +kernel
theorem d13_3 : decode jdk_117_method_4_code 3 = .ok (.dup, 1) := by decide +kernel
theorem d13_4 : decode jdk_117_method_4_code 4 = .ok (.dload_n 0, 1) := by decide +kernel
theorem d13_5 : decode jdk_117_method_4_code 5 = .ok (.invokespecial 105, 3) := by decide +kernel
theorem d13_8 : decode jdk_117_method_4_code 8 = .ok (.areturn, 1) := by decide +kernel
theorem ef_c_dvo (m : MethodId) (x : UInt64) : entryFrame m #[(.double x)] 2 = mkF m 0 #[dv x, sd] [] := by first | (simp [entryFrame, mkF, argsToLocals, Value.category]; done) | rfl
def Q_c_dvo (Z : State) (x : UInt64) (h0 : Heap) (n0 : Nat) (v : Option Value) (h : Heap) (L : List Loc) : Prop := ∃ r : Addr, v = (some (.ref r)) ∧ Fr n0 L ∧ Keep h0 h [] ∧ h0.size ≤ r ∧ Exa Z h r "java/lang/Double" ∧ Fld Z h r "java/lang/Double" "value" "D" (.double x)
set_option maxRecDepth 65536 in
set_option maxHeartbeats 40000000 in
theorem c_dvo (l : Launch) (Z : State) (a0 : Array Value) (hw : ∀ d ∈ tables_1, d.before a0 Z = true) (x : UInt64) (h0 : Heap) (n0 : Nat) (Z0 : n0 ≤ h0.size) :
    Ctr l Z h0 (⟨"java/lang/Double", "valueOf", "(D)Ljava/lang/Double;"⟩ : MethodName) jdk_117_method_4_code 2 (some (.object "java/lang/Double")) [] ({ frames := 3, cells := 1, slots := 1, locals := 39 } : Room) #[(.double x)] (Q_c_dvo Z x h0 n0) := by
  refine Ctr.make (plainFor_of_name pn_11) fun p e s m below meth c s₁ K hret hml hx hby hown hnm hnamed hH hZ X0 e0 hK => ?_
  have hown : s.vm.findClass "java/lang/Double" = some m.cls := hown
  have N0 := Fr.nil n0
  have K0 : Keep h0 h0 [] := Keep.refl _ _
  refine Wlk.of (fun _ k => castTop (ef_c_dvo m x) k) ?_
  show Wlk p.tables e below (s₁.setTop (mkF m 0 #[dv x, sd] [])) K
  obtain ⟨T1, h1, X1, e1, E1, A1, D1, -, st1⟩ := newO X0 hx hZ hown (wd hw 93 rfl) (wd hw 94 rfl) (wd hw 91 rfl) e0 (g := (mkF m 0 #[dv x, sd] [])) rfl (hb hby d13_0) (by decide) (by decide)
  obtain ⟨b1, g1⟩ : ∃ z, z = h0.size := ⟨_, rfl⟩
  rw [← g1] at A1 D1 st1
  have sz_b1 : h0.size ≤ b1 := Nat.le_trans K0.1 (Nat.le_of_eq g1.symm)
  have g_b1 : n0 ≤ b1 := Nat.le_trans Z0 sz_b1
  have K3 : Keep h0 h1 [] := K0.ext E1
  have F_b1_value : Fld Z h1 b1 "java/lang/Double" "value" "D" (.double (0 : UInt64)) := D1 (Or.inr (wd hw 107 rfl)) (ty := .double) (by decide)
  refine Wlk.of (fun _ k => st1 _ k) ?_
  show Wlk p.tables e below (T1.setTop (mkF m 3 #[dv x, sd] [(.ref b1)])) K
  refine Wlk.of (fun _ k => XS.dup X1.here hx rfl (hb hby d13_3) rfl rfl k) ?_
  show Wlk p.tables e below (T1.setTop (mkF m 4 #[dv x, sd] [(.ref b1), (.ref b1)])) K
  refine Wlk.of (fun _ k => XS.dloadN X1.here hx rfl (hb hby d13_4) rfl k) ?_
  show Wlk p.tables e below (T1.setTop (mkF m 5 #[dv x, sd] [(.double x), (.ref b1), (.ref b1)])) K
  obtain ⟨v4, T4, L4, X4, q4, st4⟩ := Ctr.special (c_di l Z a0 hw b1 x h1 n0 (Nat.le_trans Z0 K3.1) A1 F_b1_value g_b1) X1 hx hH e1 hown rfl (wd hw 95 rfl) (wd hw 96 rfl) (wd hw 91 rfl) (wd hw 98 rfl) (by decide) pd_74 (g := (mkF m 5 #[dv x, sd] [(.double x), (.ref b1), (.ref b1)])) rfl (by rw [hml]; rfl) (a := b1) (argsL := [(.double x)]) (rest := [(.ref b1)]) rfl rfl rfl (W := 1) (by show 2 * 0 + _ ≤ _; exact Nat.le_of_eq rfl) (by decide) (by decide) (hb hby d13_5) (by decide) (by decide)
  obtain ⟨rfl, N4q, K4q, p4_0⟩ := q4
  have N5 := Fr.app N0 N4q
  refine Wlk.of (fun _ k => st4 _ k) ?_
  have K6 : Keep h0 T4.heap [] := K3.trans K4q (allS (Or.inr sz_b1) all0)
  show Wlk p.tables e below (T4.setTop (mkF m 8 #[dv x, sd] [(.ref b1)])) K
  have f7 : Exa Z T4.heap b1 "java/lang/Double" := (A1.keep K4q)
  refine hK (some (.ref b1)) X4 (fun q => by cases q) (fun fs hr => retOut X4 hx hret rfl (Or.inr (Or.inr (Or.inr (Or.inr ⟨rfl, rfl, rfl⟩)))) (hb hby d13_8) hr) ?_ (by decide) (by decide)
  skip
  exact ⟨b1, rfl, N5, K6, sz_b1, f7, p4_0⟩
theorem pd_80 : parseMethodDescriptor "()J" = some ⟨[], some .long⟩ := by decide +kernel
theorem pd_81 : parseMethodDescriptor "(JJ)I" = some ⟨[.long, .long], some .int⟩ := by decide +kernel
theorem d22_0 : decode prog_1_method_15_code 0 = .ok (.aload_n 0, 1) := by decide +kernel
theorem d22_1 : decode prog_1_method_15_code 1 = .ok (.checkcast 228, 3) := by decide +kernel
theorem d22_4 : decode prog_1_method_15_code 4 = .ok (.invokevirtual 239, 3) := by decide +kernel
theorem d22_7 : decode prog_1_method_15_code 7 = .ok (.aload_n 1, 1) := by decide +kernel
theorem d22_8 : decode prog_1_method_15_code 8 = .ok (.checkcast 228, 3) := by decide +kernel
theorem d22_11 : decode prog_1_method_15_code 11 = .ok (.invokevirtual 239, 3) := by decide +kernel
theorem d22_14 : decode prog_1_method_15_code 14 = .ok (.invokestatic 243, 3) := by decide +kernel
theorem d22_17 : decode prog_1_method_15_code 17 = .ok (.ireturn, 1) := by decide +kernel
theorem pn_90 : plainName "com/example/gapweave/gapweave/AggregateFunction" = true := by first | (simp [plainName, overriddenIn]; done) | decide +kernel
theorem ef_c_la10 (m : MethodId) (u : Addr) (w : Addr) : entryFrame m #[(.ref u), (.ref w)] 2 = mkF m 0 #[rv u, rv w] [] := by first | (simp [entryFrame, mkF, argsToLocals, Value.category]; done) | rfl
def Q_c_la10 (Z : State) (u : Addr) (w : Addr) (h0 : Heap) (n0 : Nat) (v : Option Value) (h : Heap) (L : List Loc) : Prop := v = (some (.int (1 : Int32))) ∧ Fr n0 L ∧ h = h0
set_option maxRecDepth 65536 in
set_option maxHeartbeats 40000000 in
theorem c_la10 (l : Launch) (Z : State) (a0 : Array Value) (hw : ∀ d ∈ tables_1, d.before a0 Z = true) (u : Addr) (w : Addr) (h0 : Heap) (n0 : Nat) (Z0 : n0 ≤ h0.size) (E_u : Exa Z h0 u "java/lang/Long") (F_u_value : Fld Z h0 u "java/lang/Long" "value" "J" (.long (1 : Int64))) (E_w : Exa Z h0 w "java/lang/Long") (F_w_value : Fld Z h0 w "java/lang/Long" "value" "J" (.long (0 : Int64))) :
    Ctr l Z h0 (⟨"com/example/gapweave/gapweave/AggregateFunction", "lambda$order$0", "(Ljava/lang/Object;Ljava/lang/Object;)I"⟩ : MethodName) prog_1_method_15_code 2 (some .int) [] ({ frames := 1, cells := 0, slots := 0, locals := 15 } : Room) #[(.ref u), (.ref w)] (Q_c_la10 Z u w h0 n0) := by
  refine Ctr.make (plainFor_of_name pn_90) fun p e s m below meth c s₁ K hret hml hx hby hown hnm hnamed hH hZ X0 e0 hK => ?_
  have hown : s.vm.findClass "com/example/gapweave/gapweave/AggregateFunction" = some m.cls := hown
  have N0 := Fr.nil n0
  have K0 : Keep h0 h0 [] := Keep.refl _ _
  refine Wlk.of (fun _ k => castTop (ef_c_la10 m u w) k) ?_
  show Wlk p.tables e below (s₁.setTop (mkF m 0 #[rv u, rv w] [])) K
  refine Wlk.of (fun _ k => XS.aloadN X0.here hx rfl (hb hby d22_0) rfl rfl k) ?_
  show Wlk p.tables e below (s₁.setTop (mkF m 1 #[rv u, rv w] [(.ref u)])) K
  obtain ⟨T1, X1, e1, st1⟩ := castY X0 hx hZ hown (wd hw 168 rfl) e0 (Ins.of_exa E_u (wd hw 59 rfl)) (g := (mkF m 1 #[rv u, rv w] [(.ref u)])) rfl rfl (hb hby d22_1)
  refine Wlk.of (fun _ k => st1 _ k) ?_
  show Wlk p.tables e below (T1.setTop (mkF m 4 #[rv u, rv w] [(.ref u)])) K
  obtain ⟨v2, T2, L2, X2, q2, st2⟩ := Ctr.virtual (y := (⟨"java/lang/Number", "longValue", "()J"⟩ : MethodName)) (c_lv l Z a0 hw u (1 : Int64) h0 n0 (Nat.le_trans Z0 K0.1) F_u_value) X1 hx hH e1 hown (wd hw 169 rfl) (wd hw 61 rfl) (own_nfSup (a0 := #[]) (mvT hZ (wd hw 113 rfl))) (wd hw 62 rfl) (wd hw 63 rfl) (wd hw 10 rfl) (wd hw 64 rfl) (by decide) E_u pd_80 (g := (mkF m 4 #[rv u, rv w] [(.ref u)])) rfl (by rw [hml]; rfl) (argsL := []) (rest := []) rfl rfl rfl (W := 0) (by show 2 * 0 + _ ≤ _; exact Nat.le_of_eq rfl) (by decide) (by decide) (hb hby d22_4) (by decide) (by decide)
  obtain ⟨rfl, N2q, hh2⟩ := q2
  have N3 := Fr.app N0 N2q
  refine Wlk.of (fun _ k => st2 _ k) ?_
  show Wlk p.tables e below (T2.setTop (mkF m 7 #[rv u, rv w] [(.long (1 : Int64))])) K
  refine Wlk.of (fun _ k => XS.aloadN X2.here hx rfl (hb hby d22_7) rfl rfl k) ?_
  show Wlk p.tables e below (T2.setTop (mkF m 8 #[rv u, rv w] [(.ref w), (.long (1 : Int64))])) K
  obtain ⟨T4, X4, e4, st4⟩ := castY X2 hx hZ hown (wd hw 168 rfl) hh2 (Ins.of_exa E_w (wd hw 59 rfl)) (g := (mkF m 8 #[rv u, rv w] [(.ref w), (.long (1 : Int64))])) rfl rfl (hb hby d22_8)
  refine Wlk.of (fun _ k => st4 _ k) ?_
  show Wlk p.tables e below (T4.setTop (mkF m 11 #[rv u, rv w] [(.ref w), (.long (1 : Int64))])) K
  obtain ⟨v5, T5, L5, X5, q5, st5⟩ := Ctr.virtual (y := (⟨"java/lang/Number", "longValue", "()J"⟩ : MethodName)) (c_lv l Z a0 hw w (0 : Int64) h0 n0 (Nat.le_trans Z0 K0.1) F_w_value) X4 hx hH e4 hown (wd hw 169 rfl) (wd hw 61 rfl) (own_nfSup (a0 := #[]) (mvT hZ (wd hw 113 rfl))) (wd hw 62 rfl) (wd hw 63 rfl) (wd hw 10 rfl) (wd hw 64 rfl) (by decide) E_w pd_80 (g := (mkF m 11 #[rv u, rv w] [(.ref w), (.long (1 : Int64))])) rfl (by rw [hml]; rfl) (argsL := []) (rest := [(.long (1 : Int64))]) rfl rfl rfl (W := 2) (by show 2 * 0 + _ ≤ _; exact Nat.le_of_eq rfl) (by decide) (by decide) (hb hby d22_11) (by decide) (by decide)
  obtain ⟨rfl, N5q, hh5⟩ := q5
  have N6 := Fr.app N3 N5q
  refine Wlk.of (fun _ k => st5 _ k) ?_
  show Wlk p.tables e below (T5.setTop (mkF m 14 #[rv u, rv w] [(.long (0 : Int64)), (.long (1 : Int64))])) K
  obtain ⟨v7, T7, L7, X7, q7, st7⟩ := Ctr.static (c_cm10 l Z a0 hw  h0 n0 (Nat.le_trans Z0 K0.1) ) X5 hx hH hh5 hown (wd hw 170 rfl) (wd hw 171 rfl) (wd hw 10 rfl) (wd hw 172 rfl) (by decide) pd_81 (g := (mkF m 14 #[rv u, rv w] [(.long (0 : Int64)), (.long (1 : Int64))])) rfl (by rw [hml]; rfl) (argsL := [(.long (1 : Int64)), (.long (0 : Int64))]) (rest := []) rfl rfl rfl (W := 0) (by show 2 * 0 + _ ≤ _; exact Nat.le_of_eq rfl) (by decide) (by decide) (hb hby d22_14) (by decide) (by decide)
  obtain ⟨rfl, N7q, hh7⟩ := q7
  have N8 := Fr.app N6 N7q
  refine Wlk.of (fun _ k => st7 _ k) ?_
  show Wlk p.tables e below (T7.setTop (mkF m 17 #[rv u, rv w] [(.int (1 : Int32))])) K
  refine hK (some (.int (1 : Int32))) X7 (fun q => by cases q) (fun fs hr => retOut X7 hx hret rfl (Or.inl ⟨rfl, Or.inl rfl, _, rfl⟩) (hb hby d22_17) hr) ?_ (by decide) (by decide)
  rw [show T7.heap = h0 from hh7]
  exact ⟨rfl, N8, rfl⟩
theorem ef_c_la12 (m : MethodId) (u : Addr) (w : Addr) : entryFrame m #[(.ref u), (.ref w)] 2 = mkF m 0 #[rv u, rv w] [] := by first | (simp [entryFrame, mkF, argsToLocals, Value.category]; done) | rfl
def Q_c_la12 (Z : State) (u : Addr) (w : Addr) (h0 : Heap) (n0 : Nat) (v : Option Value) (h : Heap) (L : List Loc) : Prop := v = (some (.int (-1 : Int32))) ∧ Fr n0 L ∧ h = h0
set_option maxRecDepth 65536 in
set_option maxHeartbeats 40000000 in
theorem c_la12 (l : Launch) (Z : State) (a0 : Array Value) (hw : ∀ d ∈ tables_1, d.before a0 Z = true) (u : Addr) (w : Addr) (h0 : Heap) (n0 : Nat) (Z0 : n0 ≤ h0.size) (E_u : Exa Z h0 u "java/lang/Long") (F_u_value : Fld Z h0 u "java/lang/Long" "value" "J" (.long (1 : Int64))) (E_w : Exa Z h0 w "java/lang/Long") (F_w_value : Fld Z h0 w "java/lang/Long" "value" "J" (.long (2 : Int64))) :
    Ctr l Z h0 (⟨"com/example/gapweave/gapweave/AggregateFunction", "lambda$order$0", "(Ljava/lang/Object;Ljava/lang/Object;)I"⟩ : MethodName) prog_1_method_15_code 2 (some .int) [] ({ frames := 1, cells := 0, slots := 0, locals := 15 } : Room) #[(.ref u), (.ref w)] (Q_c_la12 Z u w h0 n0) := by
  refine Ctr.make (plainFor_of_name pn_90) fun p e s m below meth c s₁ K hret hml hx hby hown hnm hnamed hH hZ X0 e0 hK => ?_
  have hown : s.vm.findClass "com/example/gapweave/gapweave/AggregateFunction" = some m.cls := hown
  have N0 := Fr.nil n0
  have K0 : Keep h0 h0 [] := Keep.refl _ _
  refine Wlk.of (fun _ k => castTop (ef_c_la12 m u w) k) ?_
  show Wlk p.tables e below (s₁.setTop (mkF m 0 #[rv u, rv w] [])) K
  refine Wlk.of (fun _ k => XS.aloadN X0.here hx rfl (hb hby d22_0) rfl rfl k) ?_
  show Wlk p.tables e below (s₁.setTop (mkF m 1 #[rv u, rv w] [(.ref u)])) K
  obtain ⟨T1, X1, e1, st1⟩ := castY X0 hx hZ hown (wd hw 168 rfl) e0 (Ins.of_exa E_u (wd hw 59 rfl)) (g := (mkF m 1 #[rv u, rv w] [(.ref u)])) rfl rfl (hb hby d22_1)
  refine Wlk.of (fun _ k => st1 _ k) ?_
  show Wlk p.tables e below (T1.setTop (mkF m 4 #[rv u, rv w] [(.ref u)])) K
  obtain ⟨v2, T2, L2, X2, q2, st2⟩ := Ctr.virtual (y := (⟨"java/lang/Number", "longValue", "()J"⟩ : MethodName)) (c_lv l Z a0 hw u (1 : Int64) h0 n0 (Nat.le_trans Z0 K0.1) F_u_value) X1 hx hH e1 hown (wd hw 169 rfl) (wd hw 61 rfl) (own_nfSup (a0 := #[]) (mvT hZ (wd hw 113 rfl))) (wd hw 62 rfl) (wd hw 63 rfl) (wd hw 10 rfl) (wd hw 64 rfl) (by decide) E_u pd_80 (g := (mkF m 4 #[rv u, rv w] [(.ref u)])) rfl (by rw [hml]; rfl) (argsL := []) (rest := []) rfl rfl rfl (W := 0) (by show 2 * 0 + _ ≤ _; exact Nat.le_of_eq rfl) (by decide) (by decide) (hb hby d22_4) (by decide) (by decide)
  obtain ⟨rfl, N2q, hh2⟩ := q2
  have N3 := Fr.app N0 N2q
  refine Wlk.of (fun _ k => st2 _ k) ?_
  show Wlk p.tables e below (T2.setTop (mkF m 7 #[rv u, rv w] [(.long (1 : Int64))])) K
  refine Wlk.of (fun _ k => XS.aloadN X2.here hx rfl (hb hby d22_7) rfl rfl k) ?_
  show Wlk p.tables e below (T2.setTop (mkF m 8 #[rv u, rv w] [(.ref w), (.long (1 : Int64))])) K
  obtain ⟨T4, X4, e4, st4⟩ := castY X2 hx hZ hown (wd hw 168 rfl) hh2 (Ins.of_exa E_w (wd hw 59 rfl)) (g := (mkF m 8 #[rv u, rv w] [(.ref w), (.long (1 : Int64))])) rfl rfl (hb hby d22_8)
  refine Wlk.of (fun _ k => st4 _ k) ?_
  show Wlk p.tables e below (T4.setTop (mkF m 11 #[rv u, rv w] [(.ref w), (.long (1 : Int64))])) K
  obtain ⟨v5, T5, L5, X5, q5, st5⟩ := Ctr.virtual (y := (⟨"java/lang/Number", "longValue", "()J"⟩ : MethodName)) (c_lv l Z a0 hw w (2 : Int64) h0 n0 (Nat.le_trans Z0 K0.1) F_w_value) X4 hx hH e4 hown (wd hw 169 rfl) (wd hw 61 rfl) (own_nfSup (a0 := #[]) (mvT hZ (wd hw 113 rfl))) (wd hw 62 rfl) (wd hw 63 rfl) (wd hw 10 rfl) (wd hw 64 rfl) (by decide) E_w pd_80 (g := (mkF m 11 #[rv u, rv w] [(.ref w), (.long (1 : Int64))])) rfl (by rw [hml]; rfl) (argsL := []) (rest := [(.long (1 : Int64))]) rfl rfl rfl (W := 2) (by show 2 * 0 + _ ≤ _; exact Nat.le_of_eq rfl) (by decide) (by decide) (hb hby d22_11) (by decide) (by decide)
  obtain ⟨rfl, N5q, hh5⟩ := q5
  have N6 := Fr.app N3 N5q
  refine Wlk.of (fun _ k => st5 _ k) ?_
  show Wlk p.tables e below (T5.setTop (mkF m 14 #[rv u, rv w] [(.long (2 : Int64)), (.long (1 : Int64))])) K
  obtain ⟨v7, T7, L7, X7, q7, st7⟩ := Ctr.static (c_cm12 l Z a0 hw  h0 n0 (Nat.le_trans Z0 K0.1) ) X5 hx hH hh5 hown (wd hw 170 rfl) (wd hw 171 rfl) (wd hw 10 rfl) (wd hw 172 rfl) (by decide) pd_81 (g := (mkF m 14 #[rv u, rv w] [(.long (2 : Int64)), (.long (1 : Int64))])) rfl (by rw [hml]; rfl) (argsL := [(.long (1 : Int64)), (.long (2 : Int64))]) (rest := []) rfl rfl rfl (W := 0) (by show 2 * 0 + _ ≤ _; exact Nat.le_of_eq rfl) (by decide) (by decide) (hb hby d22_14) (by decide) (by decide)
  obtain ⟨rfl, N7q, hh7⟩ := q7
  have N8 := Fr.app N6 N7q
  refine Wlk.of (fun _ k => st7 _ k) ?_
  show Wlk p.tables e below (T7.setTop (mkF m 17 #[rv u, rv w] [(.int (-1 : Int32))])) K
  refine hK (some (.int (-1 : Int32))) X7 (fun q => by cases q) (fun fs hr => retOut X7 hx hret rfl (Or.inl ⟨rfl, Or.inl rfl, _, rfl⟩) (hb hby d22_17) hr) ?_ (by decide) (by decide)
  rw [show T7.heap = h0 from hh7]
  exact ⟨rfl, N8, rfl⟩
theorem d6_0 : decode prog_9_method_1_code 0 = .ok (.aload_n 0, 1) := by decide +kernel
theorem d6_1 : decode prog_9_method_1_code 1 = .ok (.invokespecial 1, 3) := by decide +kernel
theorem d6_4 : decode prog_9_method_1_code 4 = .ok (.return_, 1) := by decide +kernel
theorem pn_94 : plainName "com/example/gapweave/gapweave/AggregateFunction$IntegerMean" = true := by first | (simp [plainName, overriddenIn]; done) | decide +kernel
theorem ef_c_iIntegerMean (m : MethodId) (a : Addr) : entryFrame m #[(.ref a)] 1 = mkF m 0 #[rv a] [] := by first | (simp [entryFrame, mkF, argsToLocals, Value.category]; done) | rfl
def Q_c_iIntegerMean (Z : State) (a : Addr) (h0 : Heap) (n0 : Nat) (v : Option Value) (h : Heap) (L : List Loc) : Prop := v = none ∧ Fr n0 L ∧ h = h0
set_option maxRecDepth 65536 in
set_option maxHeartbeats 40000000 in
theorem c_iIntegerMean (l : Launch) (Z : State) (a0 : Array Value) (hw : ∀ d ∈ tables_1, d.before a0 Z = true) (a : Addr) (h0 : Heap) (n0 : Nat) (Z0 : n0 ≤ h0.size) :
    Ctr l Z h0 (⟨"com/example/gapweave/gapweave/AggregateFunction$IntegerMean", "<init>", "()V"⟩ : MethodName) prog_9_method_1_code 1 none [] ({ frames := 1, cells := 0, slots := 0, locals := 12 } : Room) #[(.ref a)] (Q_c_iIntegerMean Z a h0 n0) := by
  refine Ctr.make (plainFor_of_name pn_94) fun p e s m below meth c s₁ K hret hml hx hby hown hnm hnamed hH hZ X0 e0 hK => ?_
  have hown : s.vm.findClass "com/example/gapweave/gapweave/AggregateFunction$IntegerMean" = some m.cls := hown
  have N0 := Fr.nil n0
  have K0 : Keep h0 h0 [] := Keep.refl _ _
  refine Wlk.of (fun _ k => castTop (ef_c_iIntegerMean m a) k) ?_
  show Wlk p.tables e below (s₁.setTop (mkF m 0 #[rv a] [])) K
  refine Wlk.of (fun _ k => XS.aloadN X0.here hx rfl (hb hby d6_0) rfl rfl k) ?_
  show Wlk p.tables e below (s₁.setTop (mkF m 1 #[rv a] [(.ref a)])) K
  obtain ⟨T1, X1, e1, st1⟩ := initO X0 hx hZ hown (wd hw 46 rfl) (wd hw 47 rfl) (wd hw 48 rfl) e0 (g := (mkF m 1 #[rv a] [(.ref a)])) rfl (by rw [hml]; rfl) rfl (hb hby d6_1) (by decide) (W := 0) (by show 2 * 0 + _ ≤ _; exact Nat.le_of_eq rfl) (by decide)
  refine Wlk.of (fun _ k => st1 _ k) ?_
  show Wlk p.tables e below (T1.setTop (mkF m 4 #[rv a] [])) K
  refine hK none X1 (fun q => rfl) (fun fs hr => X1.returnOut hx hret (hb hby d6_4) hr) ?_ (by decide) (by decide)
  rw [show T1.heap = h0 from e1]
  exact ⟨rfl, N0, rfl⟩
theorem d34_0 : decode prog_10_method_1_code 0 = .ok (.aload_n 0, 1) := by decide +kernel
theorem d34_1 : decode prog_10_method_1_code 1 = .ok (.invokespecial 1, 3) := by decide +kernel
theorem d34_4 : decode prog_10_method_1_code 4 = .ok (.return_, 1) := by decide +kernel
theorem pn_98 : plainName "com/example/gapweave/gapweave/AggregateFunction$IntegerSum" = true := by first | (simp [plainName, overriddenIn]; done) | decide +kernel
theorem ef_c_iIntegerSum (m : MethodId) (a : Addr) : entryFrame m #[(.ref a)] 1 = mkF m 0 #[rv a] [] := by first | (simp [entryFrame, mkF, argsToLocals, Value.category]; done) | rfl
def Q_c_iIntegerSum (Z : State) (a : Addr) (h0 : Heap) (n0 : Nat) (v : Option Value) (h : Heap) (L : List Loc) : Prop := v = none ∧ Fr n0 L ∧ h = h0
set_option maxRecDepth 65536 in
set_option maxHeartbeats 40000000 in
theorem c_iIntegerSum (l : Launch) (Z : State) (a0 : Array Value) (hw : ∀ d ∈ tables_1, d.before a0 Z = true) (a : Addr) (h0 : Heap) (n0 : Nat) (Z0 : n0 ≤ h0.size) :
    Ctr l Z h0 (⟨"com/example/gapweave/gapweave/AggregateFunction$IntegerSum", "<init>", "()V"⟩ : MethodName) prog_10_method_1_code 1 none [] ({ frames := 1, cells := 0, slots := 0, locals := 12 } : Room) #[(.ref a)] (Q_c_iIntegerSum Z a h0 n0) := by
  refine Ctr.make (plainFor_of_name pn_98) fun p e s m below meth c s₁ K hret hml hx hby hown hnm hnamed hH hZ X0 e0 hK => ?_
  have hown : s.vm.findClass "com/example/gapweave/gapweave/AggregateFunction$IntegerSum" = some m.cls := hown
  have N0 := Fr.nil n0
  have K0 : Keep h0 h0 [] := Keep.refl _ _
  refine Wlk.of (fun _ k => castTop (ef_c_iIntegerSum m a) k) ?_
  show Wlk p.tables e below (s₁.setTop (mkF m 0 #[rv a] [])) K
  refine Wlk.of (fun _ k => XS.aloadN X0.here hx rfl (hb hby d34_0) rfl rfl k) ?_
  show Wlk p.tables e below (s₁.setTop (mkF m 1 #[rv a] [(.ref a)])) K
  obtain ⟨T1, X1, e1, st1⟩ := initO X0 hx hZ hown (wd hw 262 rfl) (wd hw 47 rfl) (wd hw 48 rfl) e0 (g := (mkF m 1 #[rv a] [(.ref a)])) rfl (by rw [hml]; rfl) rfl (hb hby d34_1) (by decide) (W := 0) (by show 2 * 0 + _ ≤ _; exact Nat.le_of_eq rfl) (by decide)
  refine Wlk.of (fun _ k => st1 _ k) ?_
  show Wlk p.tables e below (T1.setTop (mkF m 4 #[rv a] [])) K
  refine hK none X1 (fun q => rfl) (fun fs hr => X1.returnOut hx hret (hb hby d34_4) hr) ?_ (by decide) (by decide)
  rw [show T1.heap = h0 from e1]
  exact ⟨rfl, N0, rfl⟩
theorem d31_0 : decode prog_4_method_1_code 0 = .ok (.aload_n 0, 1) := by decide +kernel
theorem d31_1 : decode prog_4_method_1_code 1 = .ok (.invokespecial 1, 3) := by decide +kernel
theorem d31_4 : decode prog_4_method_1_code 4 = .ok (.return_, 1) := by decide +kernel
theorem pn_102 : plainName "com/example/gapweave/gapweave/AggregateFunction$Count" = true := by first | (simp [plainName, overriddenIn]; done) | decide +kernel
theorem ef_c_iCount (m : MethodId) (a : Addr) : entryFrame m #[(.ref a)] 1 = mkF m 0 #[rv a] [] := by first | (simp [entryFrame, mkF, argsToLocals, Value.category]; done) | rfl
def Q_c_iCount (Z : State) (a : Addr) (h0 : Heap) (n0 : Nat) (v : Option Value) (h : Heap) (L : List Loc) : Prop := v = none ∧ Fr n0 L ∧ h = h0
set_option maxRecDepth 65536 in
set_option maxHeartbeats 40000000 in
theorem c_iCount (l : Launch) (Z : State) (a0 : Array Value) (hw : ∀ d ∈ tables_1, d.before a0 Z = true) (a : Addr) (h0 : Heap) (n0 : Nat) (Z0 : n0 ≤ h0.size) :
    Ctr l Z h0 (⟨"com/example/gapweave/gapweave/AggregateFunction$Count", "<init>", "()V"⟩ : MethodName) prog_4_method_1_code 1 none [] ({ frames := 1, cells := 0, slots := 0, locals := 12 } : Room) #[(.ref a)] (Q_c_iCount Z a h0 n0) := by
  refine Ctr.make (plainFor_of_name pn_102) fun p e s m below meth c s₁ K hret hml hx hby hown hnm hnamed hH hZ X0 e0 hK => ?_
  have hown : s.vm.findClass "com/example/gapweave/gapweave/AggregateFunction$Count" = some m.cls := hown
  have N0 := Fr.nil n0
  have K0 : Keep h0 h0 [] := Keep.refl _ _
  refine Wlk.of (fun _ k => castTop (ef_c_iCount m a) k) ?_
  show Wlk p.tables e below (s₁.setTop (mkF m 0 #[rv a] [])) K
  refine Wlk.of (fun _ k => XS.aloadN X0.here hx rfl (hb hby d31_0) rfl rfl k) ?_
  show Wlk p.tables e below (s₁.setTop (mkF m 1 #[rv a] [(.ref a)])) K
  obtain ⟨T1, X1, e1, st1⟩ := initO X0 hx hZ hown (wd hw 239 rfl) (wd hw 47 rfl) (wd hw 48 rfl) e0 (g := (mkF m 1 #[rv a] [(.ref a)])) rfl (by rw [hml]; rfl) rfl (hb hby d31_1) (by decide) (W := 0) (by show 2 * 0 + _ ≤ _; exact Nat.le_of_eq rfl) (by decide)
  refine Wlk.of (fun _ k => st1 _ k) ?_
  show Wlk p.tables e below (T1.setTop (mkF m 4 #[rv a] [])) K
  refine hK none X1 (fun q => rfl) (fun fs hr => X1.returnOut hx hret (hb hby d31_4) hr) ?_ (by decide) (by decide)
  rw [show T1.heap = h0 from e1]
  exact ⟨rfl, N0, rfl⟩
theorem d25_0 : decode prog_8_method_1_code 0 = .ok (.aload_n 0, 1) := by decide +kernel
theorem d25_1 : decode prog_8_method_1_code 1 = .ok (.invokespecial 1, 3) := by decide +kernel
theorem d25_4 : decode prog_8_method_1_code 4 = .ok (.return_, 1) := by decide +kernel
theorem pn_106 : plainName "com/example/gapweave/gapweave/AggregateFunction$First" = true := by first | (simp [plainName, overriddenIn]; done) | decide +kernel
theorem ef_c_iFirst (m : MethodId) (a : Addr) : entryFrame m #[(.ref a)] 1 = mkF m 0 #[rv a] [] := by first | (simp [entryFrame, mkF, argsToLocals, Value.category]; done) | rfl
def Q_c_iFirst (Z : State) (a : Addr) (h0 : Heap) (n0 : Nat) (v : Option Value) (h : Heap) (L : List Loc) : Prop := v = none ∧ Fr n0 L ∧ h = h0
set_option maxRecDepth 65536 in
set_option maxHeartbeats 40000000 in
theorem c_iFirst (l : Launch) (Z : State) (a0 : Array Value) (hw : ∀ d ∈ tables_1, d.before a0 Z = true) (a : Addr) (h0 : Heap) (n0 : Nat) (Z0 : n0 ≤ h0.size) :
    Ctr l Z h0 (⟨"com/example/gapweave/gapweave/AggregateFunction$First", "<init>", "()V"⟩ : MethodName) prog_8_method_1_code 1 none [] ({ frames := 1, cells := 0, slots := 0, locals := 12 } : Room) #[(.ref a)] (Q_c_iFirst Z a h0 n0) := by
  refine Ctr.make (plainFor_of_name pn_106) fun p e s m below meth c s₁ K hret hml hx hby hown hnm hnamed hH hZ X0 e0 hK => ?_
  have hown : s.vm.findClass "com/example/gapweave/gapweave/AggregateFunction$First" = some m.cls := hown
  have N0 := Fr.nil n0
  have K0 : Keep h0 h0 [] := Keep.refl _ _
  refine Wlk.of (fun _ k => castTop (ef_c_iFirst m a) k) ?_
  show Wlk p.tables e below (s₁.setTop (mkF m 0 #[rv a] [])) K
  refine Wlk.of (fun _ k => XS.aloadN X0.here hx rfl (hb hby d25_0) rfl rfl k) ?_
  show Wlk p.tables e below (s₁.setTop (mkF m 1 #[rv a] [(.ref a)])) K
  obtain ⟨T1, X1, e1, st1⟩ := initO X0 hx hZ hown (wd hw 195 rfl) (wd hw 47 rfl) (wd hw 48 rfl) e0 (g := (mkF m 1 #[rv a] [(.ref a)])) rfl (by rw [hml]; rfl) rfl (hb hby d25_1) (by decide) (W := 0) (by show 2 * 0 + _ ≤ _; exact Nat.le_of_eq rfl) (by decide)
  refine Wlk.of (fun _ k => st1 _ k) ?_
  show Wlk p.tables e below (T1.setTop (mkF m 4 #[rv a] [])) K
  refine hK none X1 (fun q => rfl) (fun fs hr => X1.returnOut hx hret (hb hby d25_4) hr) ?_ (by decide) (by decide)
  rw [show T1.heap = h0 from e1]
  exact ⟨rfl, N0, rfl⟩
theorem d28_0 : decode prog_11_method_1_code 0 = .ok (.aload_n 0, 1) := by decide +kernel
theorem d28_1 : decode prog_11_method_1_code 1 = .ok (.invokespecial 1, 3) := by decide +kernel
theorem d28_4 : decode prog_11_method_1_code 4 = .ok (.return_, 1) := by decide +kernel
theorem pn_110 : plainName "com/example/gapweave/gapweave/AggregateFunction$Last" = true := by first | (simp [plainName, overriddenIn]; done) | decide +kernel
theorem ef_c_iLast (m : MethodId) (a : Addr) : entryFrame m #[(.ref a)] 1 = mkF m 0 #[rv a] [] := by first | (simp [entryFrame, mkF, argsToLocals, Value.category]; done) | rfl
def Q_c_iLast (Z : State) (a : Addr) (h0 : Heap) (n0 : Nat) (v : Option Value) (h : Heap) (L : List Loc) : Prop := v = none ∧ Fr n0 L ∧ h = h0
set_option maxRecDepth 65536 in
set_option maxHeartbeats 40000000 in
theorem c_iLast (l : Launch) (Z : State) (a0 : Array Value) (hw : ∀ d ∈ tables_1, d.before a0 Z = true) (a : Addr) (h0 : Heap) (n0 : Nat) (Z0 : n0 ≤ h0.size) :
    Ctr l Z h0 (⟨"com/example/gapweave/gapweave/AggregateFunction$Last", "<init>", "()V"⟩ : MethodName) prog_11_method_1_code 1 none [] ({ frames := 1, cells := 0, slots := 0, locals := 12 } : Room) #[(.ref a)] (Q_c_iLast Z a h0 n0) := by
  refine Ctr.make (plainFor_of_name pn_110) fun p e s m below meth c s₁ K hret hml hx hby hown hnm hnamed hH hZ X0 e0 hK => ?_
  have hown : s.vm.findClass "com/example/gapweave/gapweave/AggregateFunction$Last" = some m.cls := hown
  have N0 := Fr.nil n0
  have K0 : Keep h0 h0 [] := Keep.refl _ _
  refine Wlk.of (fun _ k => castTop (ef_c_iLast m a) k) ?_
  show Wlk p.tables e below (s₁.setTop (mkF m 0 #[rv a] [])) K
  refine Wlk.of (fun _ k => XS.aloadN X0.here hx rfl (hb hby d28_0) rfl rfl k) ?_
  show Wlk p.tables e below (s₁.setTop (mkF m 1 #[rv a] [(.ref a)])) K
  obtain ⟨T1, X1, e1, st1⟩ := initO X0 hx hZ hown (wd hw 217 rfl) (wd hw 47 rfl) (wd hw 48 rfl) e0 (g := (mkF m 1 #[rv a] [(.ref a)])) rfl (by rw [hml]; rfl) rfl (hb hby d28_1) (by decide) (W := 0) (by show 2 * 0 + _ ≤ _; exact Nat.le_of_eq rfl) (by decide)
  refine Wlk.of (fun _ k => st1 _ k) ?_
  show Wlk p.tables e below (T1.setTop (mkF m 4 #[rv a] [])) K
  refine hK none X1 (fun q => rfl) (fun fs hr => X1.returnOut hx hret (hb hby d28_4) hr) ?_ (by decide) (by decide)
  rw [show T1.heap = h0 from e1]
  exact ⟨rfl, N0, rfl⟩
theorem pd_111 : parseMethodDescriptor "(JJ)J" = some ⟨[.long, .long], some .long⟩ := by decide +kernel
theorem d8_0 : decode prog_9_method_2_code 0 = .ok (.aload_n 2, 1) := by decide +kernel
theorem d8_1 : decode prog_9_method_2_code 1 = .ok (.checkcast 7, 3) := by decide +kernel
theorem d8_4 : decode prog_9_method_2_code 4 = .ok (.invokevirtual 9, 3) := by decide +kernel
theorem d8_7 : decode prog_9_method_2_code 7 = .ok (.lstore_n 3, 1) := by decide +kernel
theorem d8_8 : decode prog_9_method_2_code 8 = .ok (.aload_n 0, 1) := by decide +kernel
theorem d8_9 : decode prog_9_method_2_code 9 = .ok (.dup, 1) := by decide +kernel
theorem d8_10 : decode prog_9_method_2_code 10 = .ok (.getfield 13, 3) := by decide +kernel
theorem d8_13 : decode prog_9_method_2_code 13 = .ok (.lconst 1, 1) := by decide +kernel
theorem d8_14 : decode prog_9_method_2_code 14 = .ok (.ladd, 1) := by decide +kernel
theorem d8_15 : decode prog_9_method_2_code 15 = .ok (.putfield 13, 3) := by decide +kernel
theorem d8_18 : decode prog_9_method_2_code 18 = .ok (.aload_n 0, 1) := by decide +kernel
theorem d8_19 : decode prog_9_method_2_code 19 = .ok (.getfield 19, 3) := by decide +kernel
theorem d8_22 : decode prog_9_method_2_code 22 = .ok (.ifnonnull 29, 3) := by decide +kernel
theorem d8_25 : decode prog_9_method_2_code 25 = .ok (.aload_n 0, 1) := by decide +kernel
theorem d8_26 : decode prog_9_method_2_code 26 = .ok (.aload_n 0, 1) := by decide +kernel
theorem d8_27 : decode prog_9_method_2_code 27 = .ok (.getfield 23, 3) := by decide +kernel
theorem d8_30 : decode prog_9_method_2_code 30 = .ok (.lload_n 3, 1) := by decide +kernel
theorem d8_31 : decode prog_9_method_2_code 31 = .ok (.invokestatic 26, 3) := by decide +kernel
theorem d8_34 : decode prog_9_method_2_code 34 = .ok (.putfield 23, 3) := by decide +kernel
theorem d8_37 : decode prog_9_method_2_code 37 = .ok (.return_, 1) := by decide +kernel
theorem ef_c_ma00 (m : MethodId) (a : Addr) (u : Addr) (w : Addr) : entryFrame m #[(.ref a), (.ref u), (.ref w)] 6 = mkF m 0 #[rv a, rv u, rv w, un, un, un] [] := by first | (simp [entryFrame, mkF, argsToLocals, Value.category]; done) | rfl
def Q_c_ma00 (Z : State) (a : Addr) (u : Addr) (w : Addr) (h0 : Heap) (n0 : Nat) (v : Option Value) (h : Heap) (L : List Loc) : Prop := v = none ∧ Fr n0 L ∧ Keep h0 h [a] ∧ Fld Z h a "com/example/gapweave/gapweave/AggregateFunction$IntegerMean" "count" "J" (.long (1 : Int64)) ∧ Fld Z h a "com/example/gapweave/gapweave/AggregateFunction$IntegerMean" "bigSum" "Ljava/math/BigInteger;" .null ∧ Fld Z h a "com/example/gapweave/gapweave/AggregateFunction$IntegerMean" "sum" "J" (.long (0 : Int64))
set_option maxRecDepth 65536 in
set_option maxHeartbeats 40000000 in
theorem c_ma00 (l : Launch) (Z : State) (a0 : Array Value) (hw : ∀ d ∈ tables_1, d.before a0 Z = true) (a : Addr) (u : Addr) (w : Addr) (h0 : Heap) (n0 : Nat) (Z0 : n0 ≤ h0.size) (E_a : Exa Z h0 a "com/example/gapweave/gapweave/AggregateFunction$IntegerMean") (F_a_count : Fld Z h0 a "com/example/gapweave/gapweave/AggregateFunction$IntegerMean" "count" "J" (.long (0 : Int64))) (F_a_bigSum : Fld Z h0 a "com/example/gapweave/gapweave/AggregateFunction$IntegerMean" "bigSum" "Ljava/math/BigInteger;" .null) (F_a_sum : Fld Z h0 a "com/example/gapweave/gapweave/AggregateFunction$IntegerMean" "sum" "J" (.long (0 : Int64))) (E_w : Exa Z h0 w "java/lang/Long") (F_w_value : Fld Z h0 w "java/lang/Long" "value" "J" (.long (0 : Int64))) (g_a : n0 ≤ a) :
    CtrW l Z h0 (⟨"com/example/gapweave/gapweave/AggregateFunction$IntegerMean", "add", "(Ljava/lang/Object;Ljava/lang/Object;)V"⟩ : MethodName) prog_9_method_2_code 6 none [((25 : Nat), (37 : Nat), (38 : Nat), (32 : Nat))] ({ frames := 1, cells := 0, slots := 0, locals := 18 } : Room) #[(.ref a), (.ref u), (.ref w)] (Q_c_ma00 Z a u w h0 n0) := by
  refine CtrW.make (plainFor_of_name pn_94) fun p e s m below meth c s₁ K hret hml hx hby hown hnm hnamed hH hZ X0 e0 hK => ?_
  have hown : s.vm.findClass "com/example/gapweave/gapweave/AggregateFunction$IntegerMean" = some m.cls := hown
  have N0 := Fr.nil n0
  have K0 : Keep h0 h0 [a] := Keep.refl _ _
  refine Wlk.of (fun _ k => castTop (ef_c_ma00 m a u w) k) ?_
  show Wlk p.tables e below (s₁.setTop (mkF m 0 #[rv a, rv u, rv w, un, un, un] [])) K
  refine Wlk.of (fun _ k => XS.aloadN X0.here hx rfl (hb hby d8_0) rfl rfl k) ?_
  show Wlk p.tables e below (s₁.setTop (mkF m 1 #[rv a, rv u, rv w, un, un, un] [(.ref w)])) K
  obtain ⟨T1, X1, e1, st1⟩ := castY X0 hx hZ hown (wd hw 58 rfl) e0 (Ins.of_exa E_w (wd hw 59 rfl)) (g := (mkF m 1 #[rv a, rv u, rv w, un, un, un] [(.ref w)])) rfl rfl (hb hby d8_1)
  refine Wlk.of (fun _ k => st1 _ k) ?_
  show Wlk p.tables e below (T1.setTop (mkF m 4 #[rv a, rv u, rv w, un, un, un] [(.ref w)])) K
  obtain ⟨v2, T2, L2, X2, q2, st2⟩ := Ctr.virtual (y := (⟨"java/lang/Number", "longValue", "()J"⟩ : MethodName)) (c_lv l Z a0 hw w (0 : Int64) h0 n0 (Nat.le_trans Z0 K0.1) F_w_value) X1 hx hH e1 hown (wd hw 60 rfl) (wd hw 61 rfl) (own_nfSup (a0 := #[]) (mvT hZ (wd hw 113 rfl))) (wd hw 62 rfl) (wd hw 63 rfl) (wd hw 10 rfl) (wd hw 64 rfl) (by decide) E_w pd_80 (g := (mkF m 4 #[rv a, rv u, rv w, un, un, un] [(.ref w)])) rfl (by rw [hml]; rfl) (argsL := []) (rest := []) rfl rfl rfl (W := 0) (by show 2 * 0 + _ ≤ _; exact Nat.le_of_eq rfl) (by decide) (by decide) (hb hby d8_4) (by decide) (by decide)
  obtain ⟨rfl, N2q, hh2⟩ := q2
  have N3 := Fr.app N0 N2q
  refine Wlk.of (fun _ k => st2 _ k) ?_
  show Wlk p.tables e below (T2.setTop (mkF m 7 #[rv a, rv u, rv w, un, un, un] [(.long (0 : Int64))])) K
  refine Wlk.of (fun _ k => XS.lstoreN X2.here hx rfl (hb hby d8_7) rfl (l' := #[rv a, rv u, rv w, jv (0 : Int64), sd, un]) rfl k) ?_
  show Wlk p.tables e below (T2.setTop (mkF m 8 #[rv a, rv u, rv w, jv (0 : Int64), sd, un] [])) K
  refine Wlk.of (fun _ k => XS.aloadN X2.here hx rfl (hb hby d8_8) rfl rfl k) ?_
  show Wlk p.tables e below (T2.setTop (mkF m 9 #[rv a, rv u, rv w, jv (0 : Int64), sd, un] [(.ref a)])) K
  refine Wlk.of (fun _ k => XS.dup X2.here hx rfl (hb hby d8_9) rfl rfl k) ?_
  show Wlk p.tables e below (T2.setTop (mkF m 10 #[rv a, rv u, rv w, jv (0 : Int64), sd, un] [(.ref a), (.ref a)])) K
  obtain ⟨T4, X4, e4, st4⟩ := getF X2 hx hZ hown (host := "") (Or.inl (wd hw 67 rfl)) Via.refl hh2 F_a_count (g := (mkF m 10 #[rv a, rv u, rv w, jv (0 : Int64), sd, un] [(.ref a), (.ref a)])) rfl rfl (hb hby d8_10)
  refine Wlk.of (fun _ k => st4 _ k) ?_
  show Wlk p.tables e below (T4.setTop (mkF m 13 #[rv a, rv u, rv w, jv (0 : Int64), sd, un] [(.long (0 : Int64)), (.ref a)])) K
  refine Wlk.of (fun _ k => XS.lconst X4.here hx rfl (hb hby d8_13) k) ?_
  show Wlk p.tables e below (T4.setTop (mkF m 14 #[rv a, rv u, rv w, jv (0 : Int64), sd, un] [(.long (1 : Int64)), (.long (0 : Int64)), (.ref a)])) K
  refine Wlk.of (fun _ k => XS.ladd X4.here hx rfl (hb hby d8_14) rfl k) ?_
  show Wlk p.tables e below (T4.setTop (mkF m 15 #[rv a, rv u, rv w, jv (0 : Int64), sd, un] [(.long (1 : Int64)), (.ref a)])) K
  obtain ⟨T5, h5, X5, e5, W5, st5⟩ := putF X4 hx hZ hown (host := "") (Or.inl (wd hw 67 rfl)) Via.refl e4 F_a_count E_a (Or.inl (wd hw 68 rfl)) (wd hw 41 rfl) (ty := .long) (by decide) rfl rfl (g := (mkF m 15 #[rv a, rv u, rv w, jv (0 : Int64), sd, un] [(.long (1 : Int64)), (.ref a)])) rfl rfl (hb hby d8_15)
  have Fw5 := F_a_count.same W5
  refine Wlk.of (fun _ k => st5 _ k) ?_
  have K6 : Keep h0 h5 [a] := K0.wr W5 (Or.inl (List.mem_of_getElem? (i := 0) rfl))
  have N7 := Fr.snoc X5 N3 g_a
  show Wlk p.tables e below (T5.setTop (mkF m 18 #[rv a, rv u, rv w, jv (0 : Int64), sd, un] [])) K
  refine Wlk.of (fun _ k => XS.aloadN X5.here hx rfl (hb hby d8_18) rfl rfl k) ?_
  show Wlk p.tables e below (T5.setTop (mkF m 19 #[rv a, rv u, rv w, jv (0 : Int64), sd, un] [(.ref a)])) K
  have f8 : Fld Z h5 a "com/example/gapweave/gapweave/AggregateFunction$IntegerMean" "bigSum" "Ljava/math/BigInteger;" .null := (F_a_bigSum.other W5 (Or.inr (slot_ne (Or.inl (wd hw 70 rfl)) (Or.inl (wd hw 68 rfl)) (by decide) (t := (.object "java/math/BigInteger")) (t' := .long) (by decide) (by decide))))
  obtain ⟨T9, X9, e9, st9⟩ := getF X5 hx hZ hown (host := "") (Or.inl (wd hw 69 rfl)) Via.refl e5 f8 (g := (mkF m 19 #[rv a, rv u, rv w, jv (0 : Int64), sd, un] [(.ref a)])) rfl rfl (hb hby d8_19)
  refine Wlk.of (fun _ k => st9 _ k) ?_
  show Wlk p.tables e below (T9.setTop (mkF m 22 #[rv a, rv u, rv w, jv (0 : Int64), sd, un] [.null])) K
  refine Wlk.of (fun _ k => XT.ifnonnullNo X9.here hx rfl (hb hby d8_22) rfl k) ?_
  show Wlk p.tables e below (T9.setTop (mkF m 25 #[rv a, rv u, rv w, jv (0 : Int64), sd, un] [])) K
  refine Wlk.of (fun _ k => XS.aloadN X9.here hx rfl (hb hby d8_25) rfl rfl k) ?_
  show Wlk p.tables e below (T9.setTop (mkF m 26 #[rv a, rv u, rv w, jv (0 : Int64), sd, un] [(.ref a)])) K
  refine Wlk.of (fun _ k => XS.aloadN X9.here hx rfl (hb hby d8_26) rfl rfl k) ?_
  show Wlk p.tables e below (T9.setTop (mkF m 27 #[rv a, rv u, rv w, jv (0 : Int64), sd, un] [(.ref a), (.ref a)])) K
  have f10 : Fld Z h5 a "com/example/gapweave/gapweave/AggregateFunction$IntegerMean" "sum" "J" (.long (0 : Int64)) := (F_a_sum.other W5 (Or.inr (slot_ne (Or.inl (wd hw 72 rfl)) (Or.inl (wd hw 68 rfl)) (by decide) (t := .long) (t' := .long) (by decide) (by decide))))
  obtain ⟨T11, X11, e11, st11⟩ := getF X9 hx hZ hown (host := "") (Or.inl (wd hw 71 rfl)) Via.refl e9 f10 (g := (mkF m 27 #[rv a, rv u, rv w, jv (0 : Int64), sd, un] [(.ref a), (.ref a)])) rfl rfl (hb hby d8_27)
  refine Wlk.of (fun _ k => st11 _ k) ?_
  show Wlk p.tables e below (T11.setTop (mkF m 30 #[rv a, rv u, rv w, jv (0 : Int64), sd, un] [(.long (0 : Int64)), (.ref a)])) K
  refine Wlk.of (fun _ k => XS.lloadN X11.here hx rfl (hb hby d8_30) rfl k) ?_
  show Wlk p.tables e below (T11.setTop (mkF m 31 #[rv a, rv u, rv w, jv (0 : Int64), sd, un] [(.long (0 : Int64)), (.long (0 : Int64)), (.ref a)])) K
  obtain ⟨v12, T12, L12, X12, q12, st12⟩ := Ctr.static (c_ax00 l Z a0 hw  h5 n0 (Nat.le_trans Z0 K6.1) ) X11 hx hH e11 hown (wd hw 73 rfl) (wd hw 74 rfl) (wd hw 75 rfl) (wd hw 76 rfl) (by decide) pd_111 (g := (mkF m 31 #[rv a, rv u, rv w, jv (0 : Int64), sd, un] [(.long (0 : Int64)), (.long (0 : Int64)), (.ref a)])) rfl (by rw [hml]; rfl) (argsL := [(.long (0 : Int64)), (.long (0 : Int64))]) (rest := [(.ref a)]) rfl rfl rfl (W := 1) (by show 2 * 0 + _ ≤ _; exact Nat.le_of_eq rfl) (by decide) (by decide) (hb hby d8_31) (by decide) (by decide)
  obtain ⟨rfl, N12q, hh12⟩ := q12
  have N13 := Fr.app N7 N12q
  refine Wlk.of (fun _ k => st12 _ k) ?_
  show Wlk p.tables e below (T12.setTop (mkF m 34 #[rv a, rv u, rv w, jv (0 : Int64), sd, un] [(.long (0 : Int64)), (.ref a)])) K
  have f14 : Exa Z h5 a "com/example/gapweave/gapweave/AggregateFunction$IntegerMean" := (E_a.wr W5)
  obtain ⟨T15, h15, X15, e15, W15, st15⟩ := putF X12 hx hZ hown (host := "") (Or.inl (wd hw 71 rfl)) Via.refl hh12 f10 f14 (Or.inl (wd hw 72 rfl)) (wd hw 41 rfl) (ty := .long) (by decide) rfl rfl (g := (mkF m 34 #[rv a, rv u, rv w, jv (0 : Int64), sd, un] [(.long (0 : Int64)), (.ref a)])) rfl rfl (hb hby d8_34)
  have Fw15 := f10.same W15
  refine Wlk.of (fun _ k => st15 _ k) ?_
  have K16 : Keep h0 h15 [a] := K6.wr W15 (Or.inl (List.mem_of_getElem? (i := 0) rfl))
  have N17 := Fr.snoc X15 N13 g_a
  show Wlk p.tables e below (T15.setTop (mkF m 37 #[rv a, rv u, rv w, jv (0 : Int64), sd, un] [])) K
  have f18 : Fld Z h15 a "com/example/gapweave/gapweave/AggregateFunction$IntegerMean" "count" "J" (.long (1 : Int64)) := (Fw5.other W15 (Or.inr (slot_ne (Or.inl (wd hw 68 rfl)) (Or.inl (wd hw 72 rfl)) (by decide) (t := .long) (t' := .long) (by decide) (by decide))))
  have f19 : Fld Z h15 a "com/example/gapweave/gapweave/AggregateFunction$IntegerMean" "bigSum" "Ljava/math/BigInteger;" .null := (f8.other W15 (Or.inr (slot_ne (Or.inl (wd hw 70 rfl)) (Or.inl (wd hw 72 rfl)) (by decide) (t := (.object "java/math/BigInteger")) (t' := .long) (by decide) (by decide))))
  refine hK none X15 (fun q => rfl) (fun fs hr => X15.returnOut hx hret (hb hby d8_37) hr) ?_ (by decide) (by decide)
  rw [show T15.heap = h15 from e15]
  exact ⟨rfl, N17, K16, f18, f19, Fw15⟩
theorem d35_0 : decode prog_10_method_2_code 0 = .ok (.aload_n 0, 1) := by decide +kernel
theorem d35_1 : decode prog_10_method_2_code 1 = .ok (.aload_n 0, 1) := by decide +kernel
theorem d35_2 : decode prog_10_method_2_code 2 = .ok (.getfield 7, 3) := by decide +kernel
theorem d35_5 : decode prog_10_method_2_code 5 = .ok (.aload_n 2, 1) := by decide +kernel
theorem d35_6 : decode prog_10_method_2_code 6 = .ok (.checkcast 13, 3) := by decide +kernel
theorem d35_9 : decode prog_10_method_2_code 9 = .ok (.invokevirtual 15, 3) := by decide +kernel
theorem d35_12 : decode prog_10_method_2_code 12 = .ok (.invokestatic 19, 3) := by decide +kernel
theorem d35_15 : decode prog_10_method_2_code 15 = .ok (.putfield 7, 3) := by decide +kernel
theorem d35_18 : decode prog_10_method_2_code 18 = .ok (.aload_n 0, 1) := by decide +kernel
theorem d35_19 : decode prog_10_method_2_code 19 = .ok (.iconst 1, 1) := by decide +kernel
theorem d35_20 : decode prog_10_method_2_code 20 = .ok (.putfield 25, 3) := by decide +kernel
theorem d35_23 : decode prog_10_method_2_code 23 = .ok (.return_, 1) := by decide +kernel
theorem ef_c_sa000 (m : MethodId) (a : Addr) (u : Addr) (w : Addr) : entryFrame m #[(.ref a), (.ref u), (.ref w)] 3 = mkF m 0 #[rv a, rv u, rv w] [] := by first | (simp [entryFrame, mkF, argsToLocals, Value.category]; done) | rfl
def Q_c_sa000 (Z : State) (a : Addr) (u : Addr) (w : Addr) (h0 : Heap) (n0 : Nat) (v : Option Value) (h : Heap) (L : List Loc) : Prop := v = none ∧ Fr n0 L ∧ Keep h0 h [a] ∧ Fld Z h a "com/example/gapweave/gapweave/AggregateFunction$IntegerSum" "sum" "J" (.long (0 : Int64)) ∧ Fld Z h a "com/example/gapweave/gapweave/AggregateFunction$IntegerSum" "any" "Z" (.int (1 : Int32))
set_option maxRecDepth 65536 in
set_option maxHeartbeats 40000000 in
theorem c_sa000 (l : Launch) (Z : State) (a0 : Array Value) (hw : ∀ d ∈ tables_1, d.before a0 Z = true) (a : Addr) (u : Addr) (w : Addr) (h0 : Heap) (n0 : Nat) (Z0 : n0 ≤ h0.size) (E_a : Exa Z h0 a "com/example/gapweave/gapweave/AggregateFunction$IntegerSum") (F_a_sum : Fld Z h0 a "com/example/gapweave/gapweave/AggregateFunction$IntegerSum" "sum" "J" (.long (0 : Int64))) (F_a_any : Fld Z h0 a "com/example/gapweave/gapweave/AggregateFunction$IntegerSum" "any" "Z" (.int (0 : Int32))) (E_w : Exa Z h0 w "java/lang/Long") (F_w_value : Fld Z h0 w "java/lang/Long" "value" "J" (.long (0 : Int64))) (g_a : n0 ≤ a) :
    Ctr l Z h0 (⟨"com/example/gapweave/gapweave/AggregateFunction$IntegerSum", "add", "(Ljava/lang/Object;Ljava/lang/Object;)V"⟩ : MethodName) prog_10_method_2_code 3 none [] ({ frames := 1, cells := 0, slots := 0, locals := 18 } : Room) #[(.ref a), (.ref u), (.ref w)] (Q_c_sa000 Z a u w h0 n0) := by
  refine Ctr.make (plainFor_of_name pn_98) fun p e s m below meth c s₁ K hret hml hx hby hown hnm hnamed hH hZ X0 e0 hK => ?_
  have hown : s.vm.findClass "com/example/gapweave/gapweave/AggregateFunction$IntegerSum" = some m.cls := hown
  have N0 := Fr.nil n0
  have K0 : Keep h0 h0 [a] := Keep.refl _ _
  refine Wlk.of (fun _ k => castTop (ef_c_sa000 m a u w) k) ?_
  show Wlk p.tables e below (s₁.setTop (mkF m 0 #[rv a, rv u, rv w] [])) K
  refine Wlk.of (fun _ k => XS.aloadN X0.here hx rfl (hb hby d35_0) rfl rfl k) ?_
  show Wlk p.tables e below (s₁.setTop (mkF m 1 #[rv a, rv u, rv w] [(.ref a)])) K
  refine Wlk.of (fun _ k => XS.aloadN X0.here hx rfl (hb hby d35_1) rfl rfl k) ?_
  show Wlk p.tables e below (s₁.setTop (mkF m 2 #[rv a, rv u, rv w] [(.ref a), (.ref a)])) K
  obtain ⟨T1, X1, e1, st1⟩ := getF X0 hx hZ hown (host := "") (Or.inl (wd hw 269 rfl)) Via.refl e0 F_a_sum (g := (mkF m 2 #[rv a, rv u, rv w] [(.ref a), (.ref a)])) rfl rfl (hb hby d35_2)
  refine Wlk.of (fun _ k => st1 _ k) ?_
  show Wlk p.tables e below (T1.setTop (mkF m 5 #[rv a, rv u, rv w] [(.long (0 : Int64)), (.ref a)])) K
  refine Wlk.of (fun _ k => XS.aloadN X1.here hx rfl (hb hby d35_5) rfl rfl k) ?_
  show Wlk p.tables e below (T1.setTop (mkF m 6 #[rv a, rv u, rv w] [(.ref w), (.long (0 : Int64)), (.ref a)])) K
  obtain ⟨T2, X2, e2, st2⟩ := castY X1 hx hZ hown (wd hw 271 rfl) e1 (Ins.of_exa E_w (wd hw 59 rfl)) (g := (mkF m 6 #[rv a, rv u, rv w] [(.ref w), (.long (0 : Int64)), (.ref a)])) rfl rfl (hb hby d35_6)
  refine Wlk.of (fun _ k => st2 _ k) ?_
  show Wlk p.tables e below (T2.setTop (mkF m 9 #[rv a, rv u, rv w] [(.ref w), (.long (0 : Int64)), (.ref a)])) K
  obtain ⟨v3, T3, L3, X3, q3, st3⟩ := Ctr.virtual (y := (⟨"java/lang/Number", "longValue", "()J"⟩ : MethodName)) (c_lv l Z a0 hw w (0 : Int64) h0 n0 (Nat.le_trans Z0 K0.1) F_w_value) X2 hx hH e2 hown (wd hw 272 rfl) (wd hw 61 rfl) (own_nfSup (a0 := #[]) (mvT hZ (wd hw 113 rfl))) (wd hw 62 rfl) (wd hw 63 rfl) (wd hw 10 rfl) (wd hw 64 rfl) (by decide) E_w pd_80 (g := (mkF m 9 #[rv a, rv u, rv w] [(.ref w), (.long (0 : Int64)), (.ref a)])) rfl (by rw [hml]; rfl) (argsL := []) (rest := [(.long (0 : Int64)), (.ref a)]) rfl rfl rfl (W := 3) (by show 2 * 0 + _ ≤ _; exact Nat.le_of_eq rfl) (by decide) (by decide) (hb hby d35_9) (by decide) (by decide)
  obtain ⟨rfl, N3q, hh3⟩ := q3
  have N4 := Fr.app N0 N3q
  refine Wlk.of (fun _ k => st3 _ k) ?_
  show Wlk p.tables e below (T3.setTop (mkF m 12 #[rv a, rv u, rv w] [(.long (0 : Int64)), (.long (0 : Int64)), (.ref a)])) K
  obtain ⟨v5, T5, L5, X5, q5, st5⟩ := Ctr.static (c_ax00 l Z a0 hw  h0 n0 (Nat.le_trans Z0 K0.1) ) X3 hx hH hh3 hown (wd hw 273 rfl) (wd hw 74 rfl) (wd hw 75 rfl) (wd hw 76 rfl) (by decide) pd_111 (g := (mkF m 12 #[rv a, rv u, rv w] [(.long (0 : Int64)), (.long (0 : Int64)), (.ref a)])) rfl (by rw [hml]; rfl) (argsL := [(.long (0 : Int64)), (.long (0 : Int64))]) (rest := [(.ref a)]) rfl rfl rfl (W := 1) (by show 2 * 0 + _ ≤ _; exact Nat.le_of_eq rfl) (by decide) (by decide) (hb hby d35_12) (by decide) (by decide)
  obtain ⟨rfl, N5q, hh5⟩ := q5
  have N6 := Fr.app N4 N5q
  refine Wlk.of (fun _ k => st5 _ k) ?_
  show Wlk p.tables e below (T5.setTop (mkF m 15 #[rv a, rv u, rv w] [(.long (0 : Int64)), (.ref a)])) K
  obtain ⟨T7, h7, X7, e7, W7, st7⟩ := putF X5 hx hZ hown (host := "") (Or.inl (wd hw 269 rfl)) Via.refl hh5 F_a_sum E_a (Or.inl (wd hw 270 rfl)) (wd hw 257 rfl) (ty := .long) (by decide) rfl rfl (g := (mkF m 15 #[rv a, rv u, rv w] [(.long (0 : Int64)), (.ref a)])) rfl rfl (hb hby d35_15)
  have Fw7 := F_a_sum.same W7
  refine Wlk.of (fun _ k => st7 _ k) ?_
  have K8 : Keep h0 h7 [a] := K0.wr W7 (Or.inl (List.mem_of_getElem? (i := 0) rfl))
  have N9 := Fr.snoc X7 N6 g_a
  show Wlk p.tables e below (T7.setTop (mkF m 18 #[rv a, rv u, rv w] [])) K
  refine Wlk.of (fun _ k => XS.aloadN X7.here hx rfl (hb hby d35_18) rfl rfl k) ?_
  show Wlk p.tables e below (T7.setTop (mkF m 19 #[rv a, rv u, rv w] [(.ref a)])) K
  refine Wlk.of (fun _ k => XS.iconst X7.here hx rfl (hb hby d35_19) k) ?_
  show Wlk p.tables e below (T7.setTop (mkF m 20 #[rv a, rv u, rv w] [(.int (1 : Int32)), (.ref a)])) K
  have f10 : Fld Z h7 a "com/example/gapweave/gapweave/AggregateFunction$IntegerSum" "any" "Z" (.int (0 : Int32)) := (F_a_any.other W7 (Or.inr (slot_ne (Or.inl (wd hw 275 rfl)) (Or.inl (wd hw 270 rfl)) (by decide) (t := .boolean) (t' := .long) (by decide) (by decide))))
  have f11 : Exa Z h7 a "com/example/gapweave/gapweave/AggregateFunction$IntegerSum" := (E_a.wr W7)
  obtain ⟨T12, h12, X12, e12, W12, st12⟩ := putF X7 hx hZ hown (host := "") (Or.inl (wd hw 274 rfl)) Via.refl e7 f10 f11 (Or.inl (wd hw 275 rfl)) (wd hw 257 rfl) (ty := .boolean) (by decide) rfl rfl (g := (mkF m 20 #[rv a, rv u, rv w] [(.int (1 : Int32)), (.ref a)])) rfl rfl (hb hby d35_20)
  have Fw12 := f10.same W12
  refine Wlk.of (fun _ k => st12 _ k) ?_
  have K13 : Keep h0 h12 [a] := K8.wr W12 (Or.inl (List.mem_of_getElem? (i := 0) rfl))
  have N14 := Fr.snoc X12 N9 g_a
  show Wlk p.tables e below (T12.setTop (mkF m 23 #[rv a, rv u, rv w] [])) K
  have f15 : Fld Z h12 a "com/example/gapweave/gapweave/AggregateFunction$IntegerSum" "sum" "J" (.long (0 : Int64)) := (Fw7.other W12 (Or.inr (slot_ne (Or.inl (wd hw 270 rfl)) (Or.inl (wd hw 275 rfl)) (by decide) (t := .long) (t' := .boolean) (by decide) (by decide))))
  refine hK none X12 (fun q => rfl) (fun fs hr => X12.returnOut hx hret (hb hby d35_23) hr) ?_ (by decide) (by decide)
  rw [show T12.heap = h12 from e12]
  exact ⟨rfl, N14, K13, f15, Fw12⟩
theorem ef_c_ma02 (m : MethodId) (a : Addr) (u : Addr) (w : Addr) : entryFrame m #[(.ref a), (.ref u), (.ref w)] 6 = mkF m 0 #[rv a, rv u, rv w, un, un, un] [] := by first | (simp [entryFrame, mkF, argsToLocals, Value.category]; done) | rfl
def Q_c_ma02 (Z : State) (a : Addr) (u : Addr) (w : Addr) (h0 : Heap) (n0 : Nat) (v : Option Value) (h : Heap) (L : List Loc) : Prop := v = none ∧ Fr n0 L ∧ Keep h0 h [a] ∧ Fld Z h a "com/example/gapweave/gapweave/AggregateFunction$IntegerMean" "count" "J" (.long (1 : Int64)) ∧ Fld Z h a "com/example/gapweave/gapweave/AggregateFunction$IntegerMean" "bigSum" "Ljava/math/BigInteger;" .null ∧ Fld Z h a "com/example/gapweave/gapweave/AggregateFunction$IntegerMean" "sum" "J" (.long (2 : Int64))
set_option maxRecDepth 65536 in
set_option maxHeartbeats 40000000 in
theorem c_ma02 (l : Launch) (Z : State) (a0 : Array Value) (hw : ∀ d ∈ tables_1, d.before a0 Z = true) (a : Addr) (u : Addr) (w : Addr) (h0 : Heap) (n0 : Nat) (Z0 : n0 ≤ h0.size) (E_a : Exa Z h0 a "com/example/gapweave/gapweave/AggregateFunction$IntegerMean") (F_a_count : Fld Z h0 a "com/example/gapweave/gapweave/AggregateFunction$IntegerMean" "count" "J" (.long (0 : Int64))) (F_a_bigSum : Fld Z h0 a "com/example/gapweave/gapweave/AggregateFunction$IntegerMean" "bigSum" "Ljava/math/BigInteger;" .null) (F_a_sum : Fld Z h0 a "com/example/gapweave/gapweave/AggregateFunction$IntegerMean" "sum" "J" (.long (0 : Int64))) (E_w : Exa Z h0 w "java/lang/Long") (F_w_value : Fld Z h0 w "java/lang/Long" "value" "J" (.long (2 : Int64))) (g_a : n0 ≤ a) :
    CtrW l Z h0 (⟨"com/example/gapweave/gapweave/AggregateFunction$IntegerMean", "add", "(Ljava/lang/Object;Ljava/lang/Object;)V"⟩ : MethodName) prog_9_method_2_code 6 none [((25 : Nat), (37 : Nat), (38 : Nat), (32 : Nat))] ({ frames := 1, cells := 0, slots := 0, locals := 18 } : Room) #[(.ref a), (.ref u), (.ref w)] (Q_c_ma02 Z a u w h0 n0) := by
  refine CtrW.make (plainFor_of_name pn_94) fun p e s m below meth c s₁ K hret hml hx hby hown hnm hnamed hH hZ X0 e0 hK => ?_
  have hown : s.vm.findClass "com/example/gapweave/gapweave/AggregateFunction$IntegerMean" = some m.cls := hown
  have N0 := Fr.nil n0
  have K0 : Keep h0 h0 [a] := Keep.refl _ _
  refine Wlk.of (fun _ k => castTop (ef_c_ma02 m a u w) k) ?_
  show Wlk p.tables e below (s₁.setTop (mkF m 0 #[rv a, rv u, rv w, un, un, un] [])) K
  refine Wlk.of (fun _ k => XS.aloadN X0.here hx rfl (hb hby d8_0) rfl rfl k) ?_
  show Wlk p.tables e below (s₁.setTop (mkF m 1 #[rv a, rv u, rv w, un, un, un] [(.ref w)])) K
  obtain ⟨T1, X1, e1, st1⟩ := castY X0 hx hZ hown (wd hw 58 rfl) e0 (Ins.of_exa E_w (wd hw 59 rfl)) (g := (mkF m 1 #[rv a, rv u, rv w, un, un, un] [(.ref w)])) rfl rfl (hb hby d8_1)
  refine Wlk.of (fun _ k => st1 _ k) ?_
  show Wlk p.tables e below (T1.setTop (mkF m 4 #[rv a, rv u, rv w, un, un, un] [(.ref w)])) K
  obtain ⟨v2, T2, L2, X2, q2, st2⟩ := Ctr.virtual (y := (⟨"java/lang/Number", "longValue", "()J"⟩ : MethodName)) (c_lv l Z a0 hw w (2 : Int64) h0 n0 (Nat.le_trans Z0 K0.1) F_w_value) X1 hx hH e1 hown (wd hw 60 rfl) (wd hw 61 rfl) (own_nfSup (a0 := #[]) (mvT hZ (wd hw 113 rfl))) (wd hw 62 rfl) (wd hw 63 rfl) (wd hw 10 rfl) (wd hw 64 rfl) (by decide) E_w pd_80 (g := (mkF m 4 #[rv a, rv u, rv w, un, un, un] [(.ref w)])) rfl (by rw [hml]; rfl) (argsL := []) (rest := []) rfl rfl rfl (W := 0) (by show 2 * 0 + _ ≤ _; exact Nat.le_of_eq rfl) (by decide) (by decide) (hb hby d8_4) (by decide) (by decide)
  obtain ⟨rfl, N2q, hh2⟩ := q2
  have N3 := Fr.app N0 N2q
  refine Wlk.of (fun _ k => st2 _ k) ?_
  show Wlk p.tables e below (T2.setTop (mkF m 7 #[rv a, rv u, rv w, un, un, un] [(.long (2 : Int64))])) K
  refine Wlk.of (fun _ k => XS.lstoreN X2.here hx rfl (hb hby d8_7) rfl (l' := #[rv a, rv u, rv w, jv (2 : Int64), sd, un]) rfl k) ?_
  show Wlk p.tables e below (T2.setTop (mkF m 8 #[rv a, rv u, rv w, jv (2 : Int64), sd, un] [])) K
  refine Wlk.of (fun _ k => XS.aloadN X2.here hx rfl (hb hby d8_8) rfl rfl k) ?_
  show Wlk p.tables e below (T2.setTop (mkF m 9 #[rv a, rv u, rv w, jv (2 : Int64), sd, un] [(.ref a)])) K
  refine Wlk.of (fun _ k => XS.dup X2.here hx rfl (hb hby d8_9) rfl rfl k) ?_
  show Wlk p.tables e below (T2.setTop (mkF m 10 #[rv a, rv u, rv w, jv (2 : Int64), sd, un] [(.ref a), (.ref a)])) K
  obtain ⟨T4, X4, e4, st4⟩ := getF X2 hx hZ hown (host := "") (Or.inl (wd hw 67 rfl)) Via.refl hh2 F_a_count (g := (mkF m 10 #[rv a, rv u, rv w, jv (2 : Int64), sd, un] [(.ref a), (.ref a)])) rfl rfl (hb hby d8_10)
  refine Wlk.of (fun _ k => st4 _ k) ?_
  show Wlk p.tables e below (T4.setTop (mkF m 13 #[rv a, rv u, rv w, jv (2 : Int64), sd, un] [(.long (0 : Int64)), (.ref a)])) K
  refine Wlk.of (fun _ k => XS.lconst X4.here hx rfl (hb hby d8_13) k) ?_
  show Wlk p.tables e below (T4.setTop (mkF m 14 #[rv a, rv u, rv w, jv (2 : Int64), sd, un] [(.long (1 : Int64)), (.long (0 : Int64)), (.ref a)])) K
  refine Wlk.of (fun _ k => XS.ladd X4.here hx rfl (hb hby d8_14) rfl k) ?_
  show Wlk p.tables e below (T4.setTop (mkF m 15 #[rv a, rv u, rv w, jv (2 : Int64), sd, un] [(.long (1 : Int64)), (.ref a)])) K
  obtain ⟨T5, h5, X5, e5, W5, st5⟩ := putF X4 hx hZ hown (host := "") (Or.inl (wd hw 67 rfl)) Via.refl e4 F_a_count E_a (Or.inl (wd hw 68 rfl)) (wd hw 41 rfl) (ty := .long) (by decide) rfl rfl (g := (mkF m 15 #[rv a, rv u, rv w, jv (2 : Int64), sd, un] [(.long (1 : Int64)), (.ref a)])) rfl rfl (hb hby d8_15)
  have Fw5 := F_a_count.same W5
  refine Wlk.of (fun _ k => st5 _ k) ?_
  have K6 : Keep h0 h5 [a] := K0.wr W5 (Or.inl (List.mem_of_getElem? (i := 0) rfl))
  have N7 := Fr.snoc X5 N3 g_a
  show Wlk p.tables e below (T5.setTop (mkF m 18 #[rv a, rv u, rv w, jv (2 : Int64), sd, un] [])) K
  refine Wlk.of (fun _ k => XS.aloadN X5.here hx rfl (hb hby d8_18) rfl rfl k) ?_
  show Wlk p.tables e below (T5.setTop (mkF m 19 #[rv a, rv u, rv w, jv (2 : Int64), sd, un] [(.ref a)])) K
  have f8 : Fld Z h5 a "com/example/gapweave/gapweave/AggregateFunction$IntegerMean" "bigSum" "Ljava/math/BigInteger;" .null := (F_a_bigSum.other W5 (Or.inr (slot_ne (Or.inl (wd hw 70 rfl)) (Or.inl (wd hw 68 rfl)) (by decide) (t := (.object "java/math/BigInteger")) (t' := .long) (by decide) (by decide))))
  obtain ⟨T9, X9, e9, st9⟩ := getF X5 hx hZ hown (host := "") (Or.inl (wd hw 69 rfl)) Via.refl e5 f8 (g := (mkF m 19 #[rv a, rv u, rv w, jv (2 : Int64), sd, un] [(.ref a)])) rfl rfl (hb hby d8_19)
  refine Wlk.of (fun _ k => st9 _ k) ?_
  show Wlk p.tables e below (T9.setTop (mkF m 22 #[rv a, rv u, rv w, jv (2 : Int64), sd, un] [.null])) K
  refine Wlk.of (fun _ k => XT.ifnonnullNo X9.here hx rfl (hb hby d8_22) rfl k) ?_
  show Wlk p.tables e below (T9.setTop (mkF m 25 #[rv a, rv u, rv w, jv (2 : Int64), sd, un] [])) K
  refine Wlk.of (fun _ k => XS.aloadN X9.here hx rfl (hb hby d8_25) rfl rfl k) ?_
  show Wlk p.tables e below (T9.setTop (mkF m 26 #[rv a, rv u, rv w, jv (2 : Int64), sd, un] [(.ref a)])) K
  refine Wlk.of (fun _ k => XS.aloadN X9.here hx rfl (hb hby d8_26) rfl rfl k) ?_
  show Wlk p.tables e below (T9.setTop (mkF m 27 #[rv a, rv u, rv w, jv (2 : Int64), sd, un] [(.ref a), (.ref a)])) K
  have f10 : Fld Z h5 a "com/example/gapweave/gapweave/AggregateFunction$IntegerMean" "sum" "J" (.long (0 : Int64)) := (F_a_sum.other W5 (Or.inr (slot_ne (Or.inl (wd hw 72 rfl)) (Or.inl (wd hw 68 rfl)) (by decide) (t := .long) (t' := .long) (by decide) (by decide))))
  obtain ⟨T11, X11, e11, st11⟩ := getF X9 hx hZ hown (host := "") (Or.inl (wd hw 71 rfl)) Via.refl e9 f10 (g := (mkF m 27 #[rv a, rv u, rv w, jv (2 : Int64), sd, un] [(.ref a), (.ref a)])) rfl rfl (hb hby d8_27)
  refine Wlk.of (fun _ k => st11 _ k) ?_
  show Wlk p.tables e below (T11.setTop (mkF m 30 #[rv a, rv u, rv w, jv (2 : Int64), sd, un] [(.long (0 : Int64)), (.ref a)])) K
  refine Wlk.of (fun _ k => XS.lloadN X11.here hx rfl (hb hby d8_30) rfl k) ?_
  show Wlk p.tables e below (T11.setTop (mkF m 31 #[rv a, rv u, rv w, jv (2 : Int64), sd, un] [(.long (2 : Int64)), (.long (0 : Int64)), (.ref a)])) K
  obtain ⟨v12, T12, L12, X12, q12, st12⟩ := Ctr.static (c_ax02 l Z a0 hw  h5 n0 (Nat.le_trans Z0 K6.1) ) X11 hx hH e11 hown (wd hw 73 rfl) (wd hw 74 rfl) (wd hw 75 rfl) (wd hw 76 rfl) (by decide) pd_111 (g := (mkF m 31 #[rv a, rv u, rv w, jv (2 : Int64), sd, un] [(.long (2 : Int64)), (.long (0 : Int64)), (.ref a)])) rfl (by rw [hml]; rfl) (argsL := [(.long (0 : Int64)), (.long (2 : Int64))]) (rest := [(.ref a)]) rfl rfl rfl (W := 1) (by show 2 * 0 + _ ≤ _; exact Nat.le_of_eq rfl) (by decide) (by decide) (hb hby d8_31) (by decide) (by decide)
  obtain ⟨rfl, N12q, hh12⟩ := q12
  have N13 := Fr.app N7 N12q
  refine Wlk.of (fun _ k => st12 _ k) ?_
  show Wlk p.tables e below (T12.setTop (mkF m 34 #[rv a, rv u, rv w, jv (2 : Int64), sd, un] [(.long (2 : Int64)), (.ref a)])) K
  have f14 : Exa Z h5 a "com/example/gapweave/gapweave/AggregateFunction$IntegerMean" := (E_a.wr W5)
  obtain ⟨T15, h15, X15, e15, W15, st15⟩ := putF X12 hx hZ hown (host := "") (Or.inl (wd hw 71 rfl)) Via.refl hh12 f10 f14 (Or.inl (wd hw 72 rfl)) (wd hw 41 rfl) (ty := .long) (by decide) rfl rfl (g := (mkF m 34 #[rv a, rv u, rv w, jv (2 : Int64), sd, un] [(.long (2 : Int64)), (.ref a)])) rfl rfl (hb hby d8_34)
  have Fw15 := f10.same W15
  refine Wlk.of (fun _ k => st15 _ k) ?_
  have K16 : Keep h0 h15 [a] := K6.wr W15 (Or.inl (List.mem_of_getElem? (i := 0) rfl))
  have N17 := Fr.snoc X15 N13 g_a
  show Wlk p.tables e below (T15.setTop (mkF m 37 #[rv a, rv u, rv w, jv (2 : Int64), sd, un] [])) K
  have f18 : Fld Z h15 a "com/example/gapweave/gapweave/AggregateFunction$IntegerMean" "count" "J" (.long (1 : Int64)) := (Fw5.other W15 (Or.inr (slot_ne (Or.inl (wd hw 68 rfl)) (Or.inl (wd hw 72 rfl)) (by decide) (t := .long) (t' := .long) (by decide) (by decide))))
  have f19 : Fld Z h15 a "com/example/gapweave/gapweave/AggregateFunction$IntegerMean" "bigSum" "Ljava/math/BigInteger;" .null := (f8.other W15 (Or.inr (slot_ne (Or.inl (wd hw 70 rfl)) (Or.inl (wd hw 72 rfl)) (by decide) (t := (.object "java/math/BigInteger")) (t' := .long) (by decide) (by decide))))
  refine hK none X15 (fun q => rfl) (fun fs hr => X15.returnOut hx hret (hb hby d8_37) hr) ?_ (by decide) (by decide)
  rw [show T15.heap = h15 from e15]
  exact ⟨rfl, N17, K16, f18, f19, Fw15⟩
theorem ef_c_sa002 (m : MethodId) (a : Addr) (u : Addr) (w : Addr) : entryFrame m #[(.ref a), (.ref u), (.ref w)] 3 = mkF m 0 #[rv a, rv u, rv w] [] := by first | (simp [entryFrame, mkF, argsToLocals, Value.category]; done) | rfl
def Q_c_sa002 (Z : State) (a : Addr) (u : Addr) (w : Addr) (h0 : Heap) (n0 : Nat) (v : Option Value) (h : Heap) (L : List Loc) : Prop := v = none ∧ Fr n0 L ∧ Keep h0 h [a] ∧ Fld Z h a "com/example/gapweave/gapweave/AggregateFunction$IntegerSum" "sum" "J" (.long (2 : Int64)) ∧ Fld Z h a "com/example/gapweave/gapweave/AggregateFunction$IntegerSum" "any" "Z" (.int (1 : Int32))
set_option maxRecDepth 65536 in
set_option maxHeartbeats 40000000 in
theorem c_sa002 (l : Launch) (Z : State) (a0 : Array Value) (hw : ∀ d ∈ tables_1, d.before a0 Z = true) (a : Addr) (u : Addr) (w : Addr) (h0 : Heap) (n0 : Nat) (Z0 : n0 ≤ h0.size) (E_a : Exa Z h0 a "com/example/gapweave/gapweave/AggregateFunction$IntegerSum") (F_a_sum : Fld Z h0 a "com/example/gapweave/gapweave/AggregateFunction$IntegerSum" "sum" "J" (.long (0 : Int64))) (F_a_any : Fld Z h0 a "com/example/gapweave/gapweave/AggregateFunction$IntegerSum" "any" "Z" (.int (0 : Int32))) (E_w : Exa Z h0 w "java/lang/Long") (F_w_value : Fld Z h0 w "java/lang/Long" "value" "J" (.long (2 : Int64))) (g_a : n0 ≤ a) :
    Ctr l Z h0 (⟨"com/example/gapweave/gapweave/AggregateFunction$IntegerSum", "add", "(Ljava/lang/Object;Ljava/lang/Object;)V"⟩ : MethodName) prog_10_method_2_code 3 none [] ({ frames := 1, cells := 0, slots := 0, locals := 18 } : Room) #[(.ref a), (.ref u), (.ref w)] (Q_c_sa002 Z a u w h0 n0) := by
  refine Ctr.make (plainFor_of_name pn_98) fun p e s m below meth c s₁ K hret hml hx hby hown hnm hnamed hH hZ X0 e0 hK => ?_
  have hown : s.vm.findClass "com/example/gapweave/gapweave/AggregateFunction$IntegerSum" = some m.cls := hown
  have N0 := Fr.nil n0
  have K0 : Keep h0 h0 [a] := Keep.refl _ _
  refine Wlk.of (fun _ k => castTop (ef_c_sa002 m a u w) k) ?_
  show Wlk p.tables e below (s₁.setTop (mkF m 0 #[rv a, rv u, rv w] [])) K
  refine Wlk.of (fun _ k => XS.aloadN X0.here hx rfl (hb hby d35_0) rfl rfl k) ?_
  show Wlk p.tables e below (s₁.setTop (mkF m 1 #[rv a, rv u, rv w] [(.ref a)])) K
  refine Wlk.of (fun _ k => XS.aloadN X0.here hx rfl (hb hby d35_1) rfl rfl k) ?_
  show Wlk p.tables e below (s₁.setTop (mkF m 2 #[rv a, rv u, rv w] [(.ref a), (.ref a)])) K
  obtain ⟨T1, X1, e1, st1⟩ := getF X0 hx hZ hown (host := "") (Or.inl (wd hw 269 rfl)) Via.refl e0 F_a_sum (g := (mkF m 2 #[rv a, rv u, rv w] [(.ref a), (.ref a)])) rfl rfl (hb hby d35_2)
  refine Wlk.of (fun _ k => st1 _ k) ?_
  show Wlk p.tables e below (T1.setTop (mkF m 5 #[rv a, rv u, rv w] [(.long (0 : Int64)), (.ref a)])) K
  refine Wlk.of (fun _ k => XS.aloadN X1.here hx rfl (hb hby d35_5) rfl rfl k) ?_
  show Wlk p.tables e below (T1.setTop (mkF m 6 #[rv a, rv u, rv w] [(.ref w), (.long (0 : Int64)), (.ref a)])) K
  obtain ⟨T2, X2, e2, st2⟩ := castY X1 hx hZ hown (wd hw 271 rfl) e1 (Ins.of_exa E_w (wd hw 59 rfl)) (g := (mkF m 6 #[rv a, rv u, rv w] [(.ref w), (.long (0 : Int64)), (.ref a)])) rfl rfl (hb hby d35_6)
  refine Wlk.of (fun _ k => st2 _ k) ?_
  show Wlk p.tables e below (T2.setTop (mkF m 9 #[rv a, rv u, rv w] [(.ref w), (.long (0 : Int64)), (.ref a)])) K
  obtain ⟨v3, T3, L3, X3, q3, st3⟩ := Ctr.virtual (y := (⟨"java/lang/Number", "longValue", "()J"⟩ : MethodName)) (c_lv l Z a0 hw w (2 : Int64) h0 n0 (Nat.le_trans Z0 K0.1) F_w_value) X2 hx hH e2 hown (wd hw 272 rfl) (wd hw 61 rfl) (own_nfSup (a0 := #[]) (mvT hZ (wd hw 113 rfl))) (wd hw 62 rfl) (wd hw 63 rfl) (wd hw 10 rfl) (wd hw 64 rfl) (by decide) E_w pd_80 (g := (mkF m 9 #[rv a, rv u, rv w] [(.ref w), (.long (0 : Int64)), (.ref a)])) rfl (by rw [hml]; rfl) (argsL := []) (rest := [(.long (0 : Int64)), (.ref a)]) rfl rfl rfl (W := 3) (by show 2 * 0 + _ ≤ _; exact Nat.le_of_eq rfl) (by decide) (by decide) (hb hby d35_9) (by decide) (by decide)
  obtain ⟨rfl, N3q, hh3⟩ := q3
  have N4 := Fr.app N0 N3q
  refine Wlk.of (fun _ k => st3 _ k) ?_
  show Wlk p.tables e below (T3.setTop (mkF m 12 #[rv a, rv u, rv w] [(.long (2 : Int64)), (.long (0 : Int64)), (.ref a)])) K
  obtain ⟨v5, T5, L5, X5, q5, st5⟩ := Ctr.static (c_ax02 l Z a0 hw  h0 n0 (Nat.le_trans Z0 K0.1) ) X3 hx hH hh3 hown (wd hw 273 rfl) (wd hw 74 rfl) (wd hw 75 rfl) (wd hw 76 rfl) (by decide) pd_111 (g := (mkF m 12 #[rv a, rv u, rv w] [(.long (2 : Int64)), (.long (0 : Int64)), (.ref a)])) rfl (by rw [hml]; rfl) (argsL := [(.long (0 : Int64)), (.long (2 : Int64))]) (rest := [(.ref a)]) rfl rfl rfl (W := 1) (by show 2 * 0 + _ ≤ _; exact Nat.le_of_eq rfl) (by decide) (by decide) (hb hby d35_12) (by decide) (by decide)
  obtain ⟨rfl, N5q, hh5⟩ := q5
  have N6 := Fr.app N4 N5q
  refine Wlk.of (fun _ k => st5 _ k) ?_
  show Wlk p.tables e below (T5.setTop (mkF m 15 #[rv a, rv u, rv w] [(.long (2 : Int64)), (.ref a)])) K
  obtain ⟨T7, h7, X7, e7, W7, st7⟩ := putF X5 hx hZ hown (host := "") (Or.inl (wd hw 269 rfl)) Via.refl hh5 F_a_sum E_a (Or.inl (wd hw 270 rfl)) (wd hw 257 rfl) (ty := .long) (by decide) rfl rfl (g := (mkF m 15 #[rv a, rv u, rv w] [(.long (2 : Int64)), (.ref a)])) rfl rfl (hb hby d35_15)
  have Fw7 := F_a_sum.same W7
  refine Wlk.of (fun _ k => st7 _ k) ?_
  have K8 : Keep h0 h7 [a] := K0.wr W7 (Or.inl (List.mem_of_getElem? (i := 0) rfl))
  have N9 := Fr.snoc X7 N6 g_a
  show Wlk p.tables e below (T7.setTop (mkF m 18 #[rv a, rv u, rv w] [])) K
  refine Wlk.of (fun _ k => XS.aloadN X7.here hx rfl (hb hby d35_18) rfl rfl k) ?_
  show Wlk p.tables e below (T7.setTop (mkF m 19 #[rv a, rv u, rv w] [(.ref a)])) K
  refine Wlk.of (fun _ k => XS.iconst X7.here hx rfl (hb hby d35_19) k) ?_
  show Wlk p.tables e below (T7.setTop (mkF m 20 #[rv a, rv u, rv w] [(.int (1 : Int32)), (.ref a)])) K
  have f10 : Fld Z h7 a "com/example/gapweave/gapweave/AggregateFunction$IntegerSum" "any" "Z" (.int (0 : Int32)) := (F_a_any.other W7 (Or.inr (slot_ne (Or.inl (wd hw 275 rfl)) (Or.inl (wd hw 270 rfl)) (by decide) (t := .boolean) (t' := .long) (by decide) (by decide))))
  have f11 : Exa Z h7 a "com/example/gapweave/gapweave/AggregateFunction$IntegerSum" := (E_a.wr W7)
  obtain ⟨T12, h12, X12, e12, W12, st12⟩ := putF X7 hx hZ hown (host := "") (Or.inl (wd hw 274 rfl)) Via.refl e7 f10 f11 (Or.inl (wd hw 275 rfl)) (wd hw 257 rfl) (ty := .boolean) (by decide) rfl rfl (g := (mkF m 20 #[rv a, rv u, rv w] [(.int (1 : Int32)), (.ref a)])) rfl rfl (hb hby d35_20)
  have Fw12 := f10.same W12
  refine Wlk.of (fun _ k => st12 _ k) ?_
  have K13 : Keep h0 h12 [a] := K8.wr W12 (Or.inl (List.mem_of_getElem? (i := 0) rfl))
  have N14 := Fr.snoc X12 N9 g_a
  show Wlk p.tables e below (T12.setTop (mkF m 23 #[rv a, rv u, rv w] [])) K
  have f15 : Fld Z h12 a "com/example/gapweave/gapweave/AggregateFunction$IntegerSum" "sum" "J" (.long (2 : Int64)) := (Fw7.other W12 (Or.inr (slot_ne (Or.inl (wd hw 270 rfl)) (Or.inl (wd hw 275 rfl)) (by decide) (t := .long) (t' := .boolean) (by decide) (by decide))))
  refine hK none X12 (fun q => rfl) (fun fs hr => X12.returnOut hx hret (hb hby d35_23) hr) ?_ (by decide) (by decide)
  rw [show T12.heap = h12 from e12]
  exact ⟨rfl, N14, K13, f15, Fw12⟩
theorem ef_c_ma01 (m : MethodId) (a : Addr) (u : Addr) (w : Addr) : entryFrame m #[(.ref a), (.ref u), (.ref w)] 6 = mkF m 0 #[rv a, rv u, rv w, un, un, un] [] := by first | (simp [entryFrame, mkF, argsToLocals, Value.category]; done) | rfl
def Q_c_ma01 (Z : State) (a : Addr) (u : Addr) (w : Addr) (h0 : Heap) (n0 : Nat) (v : Option Value) (h : Heap) (L : List Loc) : Prop := v = none ∧ Fr n0 L ∧ Keep h0 h [a] ∧ Fld Z h a "com/example/gapweave/gapweave/AggregateFunction$IntegerMean" "count" "J" (.long (2 : Int64)) ∧ Fld Z h a "com/example/gapweave/gapweave/AggregateFunction$IntegerMean" "bigSum" "Ljava/math/BigInteger;" .null ∧ Fld Z h a "com/example/gapweave/gapweave/AggregateFunction$IntegerMean" "sum" "J" (.long (1 : Int64))
set_option maxRecDepth 65536 in
set_option maxHeartbeats 40000000 in
theorem c_ma01 (l : Launch) (Z : State) (a0 : Array Value) (hw : ∀ d ∈ tables_1, d.before a0 Z = true) (a : Addr) (u : Addr) (w : Addr) (h0 : Heap) (n0 : Nat) (Z0 : n0 ≤ h0.size) (E_a : Exa Z h0 a "com/example/gapweave/gapweave/AggregateFunction$IntegerMean") (F_a_count : Fld Z h0 a "com/example/gapweave/gapweave/AggregateFunction$IntegerMean" "count" "J" (.long (1 : Int64))) (F_a_bigSum : Fld Z h0 a "com/example/gapweave/gapweave/AggregateFunction$IntegerMean" "bigSum" "Ljava/math/BigInteger;" .null) (F_a_sum : Fld Z h0 a "com/example/gapweave/gapweave/AggregateFunction$IntegerMean" "sum" "J" (.long (0 : Int64))) (E_w : Exa Z h0 w "java/lang/Long") (F_w_value : Fld Z h0 w "java/lang/Long" "value" "J" (.long (1 : Int64))) (g_a : n0 ≤ a) :
    CtrW l Z h0 (⟨"com/example/gapweave/gapweave/AggregateFunction$IntegerMean", "add", "(Ljava/lang/Object;Ljava/lang/Object;)V"⟩ : MethodName) prog_9_method_2_code 6 none [((25 : Nat), (37 : Nat), (38 : Nat), (32 : Nat))] ({ frames := 1, cells := 0, slots := 0, locals := 18 } : Room) #[(.ref a), (.ref u), (.ref w)] (Q_c_ma01 Z a u w h0 n0) := by
  refine CtrW.make (plainFor_of_name pn_94) fun p e s m below meth c s₁ K hret hml hx hby hown hnm hnamed hH hZ X0 e0 hK => ?_
  have hown : s.vm.findClass "com/example/gapweave/gapweave/AggregateFunction$IntegerMean" = some m.cls := hown
  have N0 := Fr.nil n0
  have K0 : Keep h0 h0 [a] := Keep.refl _ _
  refine Wlk.of (fun _ k => castTop (ef_c_ma01 m a u w) k) ?_
  show Wlk p.tables e below (s₁.setTop (mkF m 0 #[rv a, rv u, rv w, un, un, un] [])) K
  refine Wlk.of (fun _ k => XS.aloadN X0.here hx rfl (hb hby d8_0) rfl rfl k) ?_
  show Wlk p.tables e below (s₁.setTop (mkF m 1 #[rv a, rv u, rv w, un, un, un] [(.ref w)])) K
  obtain ⟨T1, X1, e1, st1⟩ := castY X0 hx hZ hown (wd hw 58 rfl) e0 (Ins.of_exa E_w (wd hw 59 rfl)) (g := (mkF m 1 #[rv a, rv u, rv w, un, un, un] [(.ref w)])) rfl rfl (hb hby d8_1)
  refine Wlk.of (fun _ k => st1 _ k) ?_
  show Wlk p.tables e below (T1.setTop (mkF m 4 #[rv a, rv u, rv w, un, un, un] [(.ref w)])) K
  obtain ⟨v2, T2, L2, X2, q2, st2⟩ := Ctr.virtual (y := (⟨"java/lang/Number", "longValue", "()J"⟩ : MethodName)) (c_lv l Z a0 hw w (1 : Int64) h0 n0 (Nat.le_trans Z0 K0.1) F_w_value) X1 hx hH e1 hown (wd hw 60 rfl) (wd hw 61 rfl) (own_nfSup (a0 := #[]) (mvT hZ (wd hw 113 rfl))) (wd hw 62 rfl) (wd hw 63 rfl) (wd hw 10 rfl) (wd hw 64 rfl) (by decide) E_w pd_80 (g := (mkF m 4 #[rv a, rv u, rv w, un, un, un] [(.ref w)])) rfl (by rw [hml]; rfl) (argsL := []) (rest := []) rfl rfl rfl (W := 0) (by show 2 * 0 + _ ≤ _; exact Nat.le_of_eq rfl) (by decide) (by decide) (hb hby d8_4) (by decide) (by decide)
  obtain ⟨rfl, N2q, hh2⟩ := q2
  have N3 := Fr.app N0 N2q
  refine Wlk.of (fun _ k => st2 _ k) ?_
  show Wlk p.tables e below (T2.setTop (mkF m 7 #[rv a, rv u, rv w, un, un, un] [(.long (1 : Int64))])) K
  refine Wlk.of (fun _ k => XS.lstoreN X2.here hx rfl (hb hby d8_7) rfl (l' := #[rv a, rv u, rv w, jv (1 : Int64), sd, un]) rfl k) ?_
  show Wlk p.tables e below (T2.setTop (mkF m 8 #[rv a, rv u, rv w, jv (1 : Int64), sd, un] [])) K
  refine Wlk.of (fun _ k => XS.aloadN X2.here hx rfl (hb hby d8_8) rfl rfl k) ?_
  show Wlk p.tables e below (T2.setTop (mkF m 9 #[rv a, rv u, rv w, jv (1 : Int64), sd, un] [(.ref a)])) K
  refine Wlk.of (fun _ k => XS.dup X2.here hx rfl (hb hby d8_9) rfl rfl k) ?_
  show Wlk p.tables e below (T2.setTop (mkF m 10 #[rv a, rv u, rv w, jv (1 : Int64), sd, un] [(.ref a), (.ref a)])) K
  obtain ⟨T4, X4, e4, st4⟩ := getF X2 hx hZ hown (host := "") (Or.inl (wd hw 67 rfl)) Via.refl hh2 F_a_count (g := (mkF m 10 #[rv a, rv u, rv w, jv (1 : Int64), sd, un] [(.ref a), (.ref a)])) rfl rfl (hb hby d8_10)
  refine Wlk.of (fun _ k => st4 _ k) ?_
  show Wlk p.tables e below (T4.setTop (mkF m 13 #[rv a, rv u, rv w, jv (1 : Int64), sd, un] [(.long (1 : Int64)), (.ref a)])) K
  refine Wlk.of (fun _ k => XS.lconst X4.here hx rfl (hb hby d8_13) k) ?_
  show Wlk p.tables e below (T4.setTop (mkF m 14 #[rv a, rv u, rv w, jv (1 : Int64), sd, un] [(.long (1 : Int64)), (.long (1 : Int64)), (.ref a)])) K
  refine Wlk.of (fun _ k => XS.ladd X4.here hx rfl (hb hby d8_14) rfl k) ?_
  show Wlk p.tables e below (T4.setTop (mkF m 15 #[rv a, rv u, rv w, jv (1 : Int64), sd, un] [(.long (2 : Int64)), (.ref a)])) K
  obtain ⟨T5, h5, X5, e5, W5, st5⟩ := putF X4 hx hZ hown (host := "") (Or.inl (wd hw 67 rfl)) Via.refl e4 F_a_count E_a (Or.inl (wd hw 68 rfl)) (wd hw 41 rfl) (ty := .long) (by decide) rfl rfl (g := (mkF m 15 #[rv a, rv u, rv w, jv (1 : Int64), sd, un] [(.long (2 : Int64)), (.ref a)])) rfl rfl (hb hby d8_15)
  have Fw5 := F_a_count.same W5
  refine Wlk.of (fun _ k => st5 _ k) ?_
  have K6 : Keep h0 h5 [a] := K0.wr W5 (Or.inl (List.mem_of_getElem? (i := 0) rfl))
  have N7 := Fr.snoc X5 N3 g_a
  show Wlk p.tables e below (T5.setTop (mkF m 18 #[rv a, rv u, rv w, jv (1 : Int64), sd, un] [])) K
  refine Wlk.of (fun _ k => XS.aloadN X5.here hx rfl (hb hby d8_18) rfl rfl k) ?_
  show Wlk p.tables e below (T5.setTop (mkF m 19 #[rv a, rv u, rv w, jv (1 : Int64), sd, un] [(.ref a)])) K
  have f8 : Fld Z h5 a "com/example/gapweave/gapweave/AggregateFunction$IntegerMean" "bigSum" "Ljava/math/BigInteger;" .null := (F_a_bigSum.other W5 (Or.inr (slot_ne (Or.inl (wd hw 70 rfl)) (Or.inl (wd hw 68 rfl)) (by decide) (t := (.object "java/math/BigInteger")) (t' := .long) (by decide) (by decide))))
  obtain ⟨T9, X9, e9, st9⟩ := getF X5 hx hZ hown (host := "") (Or.inl (wd hw 69 rfl)) Via.refl e5 f8 (g := (mkF m 19 #[rv a, rv u, rv w, jv (1 : Int64), sd, un] [(.ref a)])) rfl rfl (hb hby d8_19)
  refine Wlk.of (fun _ k => st9 _ k) ?_
  show Wlk p.tables e below (T9.setTop (mkF m 22 #[rv a, rv u, rv w, jv (1 : Int64), sd, un] [.null])) K
  refine Wlk.of (fun _ k => XT.ifnonnullNo X9.here hx rfl (hb hby d8_22) rfl k) ?_
  show Wlk p.tables e below (T9.setTop (mkF m 25 #[rv a, rv u, rv w, jv (1 : Int64), sd, un] [])) K
  refine Wlk.of (fun _ k => XS.aloadN X9.here hx rfl (hb hby d8_25) rfl rfl k) ?_
  show Wlk p.tables e below (T9.setTop (mkF m 26 #[rv a, rv u, rv w, jv (1 : Int64), sd, un] [(.ref a)])) K
  refine Wlk.of (fun _ k => XS.aloadN X9.here hx rfl (hb hby d8_26) rfl rfl k) ?_
  show Wlk p.tables e below (T9.setTop (mkF m 27 #[rv a, rv u, rv w, jv (1 : Int64), sd, un] [(.ref a), (.ref a)])) K
  have f10 : Fld Z h5 a "com/example/gapweave/gapweave/AggregateFunction$IntegerMean" "sum" "J" (.long (0 : Int64)) := (F_a_sum.other W5 (Or.inr (slot_ne (Or.inl (wd hw 72 rfl)) (Or.inl (wd hw 68 rfl)) (by decide) (t := .long) (t' := .long) (by decide) (by decide))))
  obtain ⟨T11, X11, e11, st11⟩ := getF X9 hx hZ hown (host := "") (Or.inl (wd hw 71 rfl)) Via.refl e9 f10 (g := (mkF m 27 #[rv a, rv u, rv w, jv (1 : Int64), sd, un] [(.ref a), (.ref a)])) rfl rfl (hb hby d8_27)
  refine Wlk.of (fun _ k => st11 _ k) ?_
  show Wlk p.tables e below (T11.setTop (mkF m 30 #[rv a, rv u, rv w, jv (1 : Int64), sd, un] [(.long (0 : Int64)), (.ref a)])) K
  refine Wlk.of (fun _ k => XS.lloadN X11.here hx rfl (hb hby d8_30) rfl k) ?_
  show Wlk p.tables e below (T11.setTop (mkF m 31 #[rv a, rv u, rv w, jv (1 : Int64), sd, un] [(.long (1 : Int64)), (.long (0 : Int64)), (.ref a)])) K
  obtain ⟨v12, T12, L12, X12, q12, st12⟩ := Ctr.static (c_ax01 l Z a0 hw  h5 n0 (Nat.le_trans Z0 K6.1) ) X11 hx hH e11 hown (wd hw 73 rfl) (wd hw 74 rfl) (wd hw 75 rfl) (wd hw 76 rfl) (by decide) pd_111 (g := (mkF m 31 #[rv a, rv u, rv w, jv (1 : Int64), sd, un] [(.long (1 : Int64)), (.long (0 : Int64)), (.ref a)])) rfl (by rw [hml]; rfl) (argsL := [(.long (0 : Int64)), (.long (1 : Int64))]) (rest := [(.ref a)]) rfl rfl rfl (W := 1) (by show 2 * 0 + _ ≤ _; exact Nat.le_of_eq rfl) (by decide) (by decide) (hb hby d8_31) (by decide) (by decide)
  obtain ⟨rfl, N12q, hh12⟩ := q12
  have N13 := Fr.app N7 N12q
  refine Wlk.of (fun _ k => st12 _ k) ?_
  show Wlk p.tables e below (T12.setTop (mkF m 34 #[rv a, rv u, rv w, jv (1 : Int64), sd, un] [(.long (1 : Int64)), (.ref a)])) K
  have f14 : Exa Z h5 a "com/example/gapweave/gapweave/AggregateFunction$IntegerMean" := (E_a.wr W5)
  obtain ⟨T15, h15, X15, e15, W15, st15⟩ := putF X12 hx hZ hown (host := "") (Or.inl (wd hw 71 rfl)) Via.refl hh12 f10 f14 (Or.inl (wd hw 72 rfl)) (wd hw 41 rfl) (ty := .long) (by decide) rfl rfl (g := (mkF m 34 #[rv a, rv u, rv w, jv (1 : Int64), sd, un] [(.long (1 : Int64)), (.ref a)])) rfl rfl (hb hby d8_34)
  have Fw15 := f10.same W15
  refine Wlk.of (fun _ k => st15 _ k) ?_
  have K16 : Keep h0 h15 [a] := K6.wr W15 (Or.inl (List.mem_of_getElem? (i := 0) rfl))
  have N17 := Fr.snoc X15 N13 g_a
  show Wlk p.tables e below (T15.setTop (mkF m 37 #[rv a, rv u, rv w, jv (1 : Int64), sd, un] [])) K
  have f18 : Fld Z h15 a "com/example/gapweave/gapweave/AggregateFunction$IntegerMean" "count" "J" (.long (2 : Int64)) := (Fw5.other W15 (Or.inr (slot_ne (Or.inl (wd hw 68 rfl)) (Or.inl (wd hw 72 rfl)) (by decide) (t := .long) (t' := .long) (by decide) (by decide))))
  have f19 : Fld Z h15 a "com/example/gapweave/gapweave/AggregateFunction$IntegerMean" "bigSum" "Ljava/math/BigInteger;" .null := (f8.other W15 (Or.inr (slot_ne (Or.inl (wd hw 70 rfl)) (Or.inl (wd hw 72 rfl)) (by decide) (t := (.object "java/math/BigInteger")) (t' := .long) (by decide) (by decide))))
  refine hK none X15 (fun q => rfl) (fun fs hr => X15.returnOut hx hret (hb hby d8_37) hr) ?_ (by decide) (by decide)
  rw [show T15.heap = h15 from e15]
  exact ⟨rfl, N17, K16, f18, f19, Fw15⟩
theorem ef_c_sa101 (m : MethodId) (a : Addr) (u : Addr) (w : Addr) : entryFrame m #[(.ref a), (.ref u), (.ref w)] 3 = mkF m 0 #[rv a, rv u, rv w] [] := by first | (simp [entryFrame, mkF, argsToLocals, Value.category]; done) | rfl
def Q_c_sa101 (Z : State) (a : Addr) (u : Addr) (w : Addr) (h0 : Heap) (n0 : Nat) (v : Option Value) (h : Heap) (L : List Loc) : Prop := v = none ∧ Fr n0 L ∧ Keep h0 h [a] ∧ Fld Z h a "com/example/gapweave/gapweave/AggregateFunction$IntegerSum" "sum" "J" (.long (1 : Int64)) ∧ Fld Z h a "com/example/gapweave/gapweave/AggregateFunction$IntegerSum" "any" "Z" (.int (1 : Int32))
set_option maxRecDepth 65536 in
set_option maxHeartbeats 40000000 in
theorem c_sa101 (l : Launch) (Z : State) (a0 : Array Value) (hw : ∀ d ∈ tables_1, d.before a0 Z = true) (a : Addr) (u : Addr) (w : Addr) (h0 : Heap) (n0 : Nat) (Z0 : n0 ≤ h0.size) (E_a : Exa Z h0 a "com/example/gapweave/gapweave/AggregateFunction$IntegerSum") (F_a_sum : Fld Z h0 a "com/example/gapweave/gapweave/AggregateFunction$IntegerSum" "sum" "J" (.long (0 : Int64))) (F_a_any : Fld Z h0 a "com/example/gapweave/gapweave/AggregateFunction$IntegerSum" "any" "Z" (.int (1 : Int32))) (E_w : Exa Z h0 w "java/lang/Long") (F_w_value : Fld Z h0 w "java/lang/Long" "value" "J" (.long (1 : Int64))) (g_a : n0 ≤ a) :
    Ctr l Z h0 (⟨"com/example/gapweave/gapweave/AggregateFunction$IntegerSum", "add", "(Ljava/lang/Object;Ljava/lang/Object;)V"⟩ : MethodName) prog_10_method_2_code 3 none [] ({ frames := 1, cells := 0, slots := 0, locals := 18 } : Room) #[(.ref a), (.ref u), (.ref w)] (Q_c_sa101 Z a u w h0 n0) := by
  refine Ctr.make (plainFor_of_name pn_98) fun p e s m below meth c s₁ K hret hml hx hby hown hnm hnamed hH hZ X0 e0 hK => ?_
  have hown : s.vm.findClass "com/example/gapweave/gapweave/AggregateFunction$IntegerSum" = some m.cls := hown
  have N0 := Fr.nil n0
  have K0 : Keep h0 h0 [a] := Keep.refl _ _
  refine Wlk.of (fun _ k => castTop (ef_c_sa101 m a u w) k) ?_
  show Wlk p.tables e below (s₁.setTop (mkF m 0 #[rv a, rv u, rv w] [])) K
  refine Wlk.of (fun _ k => XS.aloadN X0.here hx rfl (hb hby d35_0) rfl rfl k) ?_
  show Wlk p.tables e below (s₁.setTop (mkF m 1 #[rv a, rv u, rv w] [(.ref a)])) K
  refine Wlk.of (fun _ k => XS.aloadN X0.here hx rfl (hb hby d35_1) rfl rfl k) ?_
  show Wlk p.tables e below (s₁.setTop (mkF m 2 #[rv a, rv u, rv w] [(.ref a), (.ref a)])) K
  obtain ⟨T1, X1, e1, st1⟩ := getF X0 hx hZ hown (host := "") (Or.inl (wd hw 269 rfl)) Via.refl e0 F_a_sum (g := (mkF m 2 #[rv a, rv u, rv w] [(.ref a), (.ref a)])) rfl rfl (hb hby d35_2)
  refine Wlk.of (fun _ k => st1 _ k) ?_
  show Wlk p.tables e below (T1.setTop (mkF m 5 #[rv a, rv u, rv w] [(.long (0 : Int64)), (.ref a)])) K
  refine Wlk.of (fun _ k => XS.aloadN X1.here hx rfl (hb hby d35_5) rfl rfl k) ?_
  show Wlk p.tables e below (T1.setTop (mkF m 6 #[rv a, rv u, rv w] [(.ref w), (.long (0 : Int64)), (.ref a)])) K
  obtain ⟨T2, X2, e2, st2⟩ := castY X1 hx hZ hown (wd hw 271 rfl) e1 (Ins.of_exa E_w (wd hw 59 rfl)) (g := (mkF m 6 #[rv a, rv u, rv w] [(.ref w), (.long (0 : Int64)), (.ref a)])) rfl rfl (hb hby d35_6)
  refine Wlk.of (fun _ k => st2 _ k) ?_
  show Wlk p.tables e below (T2.setTop (mkF m 9 #[rv a, rv u, rv w] [(.ref w), (.long (0 : Int64)), (.ref a)])) K
  obtain ⟨v3, T3, L3, X3, q3, st3⟩ := Ctr.virtual (y := (⟨"java/lang/Number", "longValue", "()J"⟩ : MethodName)) (c_lv l Z a0 hw w (1 : Int64) h0 n0 (Nat.le_trans Z0 K0.1) F_w_value) X2 hx hH e2 hown (wd hw 272 rfl) (wd hw 61 rfl) (own_nfSup (a0 := #[]) (mvT hZ (wd hw 113 rfl))) (wd hw 62 rfl) (wd hw 63 rfl) (wd hw 10 rfl) (wd hw 64 rfl) (by decide) E_w pd_80 (g := (mkF m 9 #[rv a, rv u, rv w] [(.ref w), (.long (0 : Int64)), (.ref a)])) rfl (by rw [hml]; rfl) (argsL := []) (rest := [(.long (0 : Int64)), (.ref a)]) rfl rfl rfl (W := 3) (by show 2 * 0 + _ ≤ _; exact Nat.le_of_eq rfl) (by decide) (by decide) (hb hby d35_9) (by decide) (by decide)
  obtain ⟨rfl, N3q, hh3⟩ := q3
  have N4 := Fr.app N0 N3q
  refine Wlk.of (fun _ k => st3 _ k) ?_
  show Wlk p.tables e below (T3.setTop (mkF m 12 #[rv a, rv u, rv w] [(.long (1 : Int64)), (.long (0 : Int64)), (.ref a)])) K
  obtain ⟨v5, T5, L5, X5, q5, st5⟩ := Ctr.static (c_ax01 l Z a0 hw  h0 n0 (Nat.le_trans Z0 K0.1) ) X3 hx hH hh3 hown (wd hw 273 rfl) (wd hw 74 rfl) (wd hw 75 rfl) (wd hw 76 rfl) (by decide) pd_111 (g := (mkF m 12 #[rv a, rv u, rv w] [(.long (1 : Int64)), (.long (0 : Int64)), (.ref a)])) rfl (by rw [hml]; rfl) (argsL := [(.long (0 : Int64)), (.long (1 : Int64))]) (rest := [(.ref a)]) rfl rfl rfl (W := 1) (by show 2 * 0 + _ ≤ _; exact Nat.le_of_eq rfl) (by decide) (by decide) (hb hby d35_12) (by decide) (by decide)
  obtain ⟨rfl, N5q, hh5⟩ := q5
  have N6 := Fr.app N4 N5q
  refine Wlk.of (fun _ k => st5 _ k) ?_
  show Wlk p.tables e below (T5.setTop (mkF m 15 #[rv a, rv u, rv w] [(.long (1 : Int64)), (.ref a)])) K
  obtain ⟨T7, h7, X7, e7, W7, st7⟩ := putF X5 hx hZ hown (host := "") (Or.inl (wd hw 269 rfl)) Via.refl hh5 F_a_sum E_a (Or.inl (wd hw 270 rfl)) (wd hw 257 rfl) (ty := .long) (by decide) rfl rfl (g := (mkF m 15 #[rv a, rv u, rv w] [(.long (1 : Int64)), (.ref a)])) rfl rfl (hb hby d35_15)
  have Fw7 := F_a_sum.same W7
  refine Wlk.of (fun _ k => st7 _ k) ?_
  have K8 : Keep h0 h7 [a] := K0.wr W7 (Or.inl (List.mem_of_getElem? (i := 0) rfl))
  have N9 := Fr.snoc X7 N6 g_a
  show Wlk p.tables e below (T7.setTop (mkF m 18 #[rv a, rv u, rv w] [])) K
  refine Wlk.of (fun _ k => XS.aloadN X7.here hx rfl (hb hby d35_18) rfl rfl k) ?_
  show Wlk p.tables e below (T7.setTop (mkF m 19 #[rv a, rv u, rv w] [(.ref a)])) K
  refine Wlk.of (fun _ k => XS.iconst X7.here hx rfl (hb hby d35_19) k) ?_
  show Wlk p.tables e below (T7.setTop (mkF m 20 #[rv a, rv u, rv w] [(.int (1 : Int32)), (.ref a)])) K
  have f10 : Fld Z h7 a "com/example/gapweave/gapweave/AggregateFunction$IntegerSum" "any" "Z" (.int (1 : Int32)) := (F_a_any.other W7 (Or.inr (slot_ne (Or.inl (wd hw 275 rfl)) (Or.inl (wd hw 270 rfl)) (by decide) (t := .boolean) (t' := .long) (by decide) (by decide))))
  have f11 : Exa Z h7 a "com/example/gapweave/gapweave/AggregateFunction$IntegerSum" := (E_a.wr W7)
  obtain ⟨T12, h12, X12, e12, W12, st12⟩ := putF X7 hx hZ hown (host := "") (Or.inl (wd hw 274 rfl)) Via.refl e7 f10 f11 (Or.inl (wd hw 275 rfl)) (wd hw 257 rfl) (ty := .boolean) (by decide) rfl rfl (g := (mkF m 20 #[rv a, rv u, rv w] [(.int (1 : Int32)), (.ref a)])) rfl rfl (hb hby d35_20)
  have Fw12 := f10.same W12
  refine Wlk.of (fun _ k => st12 _ k) ?_
  have K13 : Keep h0 h12 [a] := K8.wr W12 (Or.inl (List.mem_of_getElem? (i := 0) rfl))
  have N14 := Fr.snoc X12 N9 g_a
  show Wlk p.tables e below (T12.setTop (mkF m 23 #[rv a, rv u, rv w] [])) K
  have f15 : Fld Z h12 a "com/example/gapweave/gapweave/AggregateFunction$IntegerSum" "sum" "J" (.long (1 : Int64)) := (Fw7.other W12 (Or.inr (slot_ne (Or.inl (wd hw 270 rfl)) (Or.inl (wd hw 275 rfl)) (by decide) (t := .long) (t' := .boolean) (by decide) (by decide))))
  refine hK none X12 (fun q => rfl) (fun fs hr => X12.returnOut hx hret (hb hby d35_23) hr) ?_ (by decide) (by decide)
  rw [show T12.heap = h12 from e12]
  exact ⟨rfl, N14, K13, f15, Fw12⟩
theorem ef_c_ma21 (m : MethodId) (a : Addr) (u : Addr) (w : Addr) : entryFrame m #[(.ref a), (.ref u), (.ref w)] 6 = mkF m 0 #[rv a, rv u, rv w, un, un, un] [] := by first | (simp [entryFrame, mkF, argsToLocals, Value.category]; done) | rfl
def Q_c_ma21 (Z : State) (a : Addr) (u : Addr) (w : Addr) (h0 : Heap) (n0 : Nat) (v : Option Value) (h : Heap) (L : List Loc) : Prop := v = none ∧ Fr n0 L ∧ Keep h0 h [a] ∧ Fld Z h a "com/example/gapweave/gapweave/AggregateFunction$IntegerMean" "count" "J" (.long (2 : Int64)) ∧ Fld Z h a "com/example/gapweave/gapweave/AggregateFunction$IntegerMean" "bigSum" "Ljava/math/BigInteger;" .null ∧ Fld Z h a "com/example/gapweave/gapweave/AggregateFunction$IntegerMean" "sum" "J" (.long (3 : Int64))
set_option maxRecDepth 65536 in
set_option maxHeartbeats 40000000 in
theorem c_ma21 (l : Launch) (Z : State) (a0 : Array Value) (hw : ∀ d ∈ tables_1, d.before a0 Z = true) (a : Addr) (u : Addr) (w : Addr) (h0 : Heap) (n0 : Nat) (Z0 : n0 ≤ h0.size) (E_a : Exa Z h0 a "com/example/gapweave/gapweave/AggregateFunction$IntegerMean") (F_a_count : Fld Z h0 a "com/example/gapweave/gapweave/AggregateFunction$IntegerMean" "count" "J" (.long (1 : Int64))) (F_a_bigSum : Fld Z h0 a "com/example/gapweave/gapweave/AggregateFunction$IntegerMean" "bigSum" "Ljava/math/BigInteger;" .null) (F_a_sum : Fld Z h0 a "com/example/gapweave/gapweave/AggregateFunction$IntegerMean" "sum" "J" (.long (2 : Int64))) (E_w : Exa Z h0 w "java/lang/Long") (F_w_value : Fld Z h0 w "java/lang/Long" "value" "J" (.long (1 : Int64))) (g_a : n0 ≤ a) :
    CtrW l Z h0 (⟨"com/example/gapweave/gapweave/AggregateFunction$IntegerMean", "add", "(Ljava/lang/Object;Ljava/lang/Object;)V"⟩ : MethodName) prog_9_method_2_code 6 none [((25 : Nat), (37 : Nat), (38 : Nat), (32 : Nat))] ({ frames := 1, cells := 0, slots := 0, locals := 18 } : Room) #[(.ref a), (.ref u), (.ref w)] (Q_c_ma21 Z a u w h0 n0) := by
  refine CtrW.make (plainFor_of_name pn_94) fun p e s m below meth c s₁ K hret hml hx hby hown hnm hnamed hH hZ X0 e0 hK => ?_
  have hown : s.vm.findClass "com/example/gapweave/gapweave/AggregateFunction$IntegerMean" = some m.cls := hown
  have N0 := Fr.nil n0
  have K0 : Keep h0 h0 [a] := Keep.refl _ _
  refine Wlk.of (fun _ k => castTop (ef_c_ma21 m a u w) k) ?_
  show Wlk p.tables e below (s₁.setTop (mkF m 0 #[rv a, rv u, rv w, un, un, un] [])) K
  refine Wlk.of (fun _ k => XS.aloadN X0.here hx rfl (hb hby d8_0) rfl rfl k) ?_
  show Wlk p.tables e below (s₁.setTop (mkF m 1 #[rv a, rv u, rv w, un, un, un] [(.ref w)])) K
  obtain ⟨T1, X1, e1, st1⟩ := castY X0 hx hZ hown (wd hw 58 rfl) e0 (Ins.of_exa E_w (wd hw 59 rfl)) (g := (mkF m 1 #[rv a, rv u, rv w, un, un, un] [(.ref w)])) rfl rfl (hb hby d8_1)
  refine Wlk.of (fun _ k => st1 _ k) ?_
  show Wlk p.tables e below (T1.setTop (mkF m 4 #[rv a, rv u, rv w, un, un, un] [(.ref w)])) K
  obtain ⟨v2, T2, L2, X2, q2, st2⟩ := Ctr.virtual (y := (⟨"java/lang/Number", "longValue", "()J"⟩ : MethodName)) (c_lv l Z a0 hw w (1 : Int64) h0 n0 (Nat.le_trans Z0 K0.1) F_w_value) X1 hx hH e1 hown (wd hw 60 rfl) (wd hw 61 rfl) (own_nfSup (a0 := #[]) (mvT hZ (wd hw 113 rfl))) (wd hw 62 rfl) (wd hw 63 rfl) (wd hw 10 rfl) (wd hw 64 rfl) (by decide) E_w pd_80 (g := (mkF m 4 #[rv a, rv u, rv w, un, un, un] [(.ref w)])) rfl (by rw [hml]; rfl) (argsL := []) (rest := []) rfl rfl rfl (W := 0) (by show 2 * 0 + _ ≤ _; exact Nat.le_of_eq rfl) (by decide) (by decide) (hb hby d8_4) (by decide) (by decide)
  obtain ⟨rfl, N2q, hh2⟩ := q2
  have N3 := Fr.app N0 N2q
  refine Wlk.of (fun _ k => st2 _ k) ?_
  show Wlk p.tables e below (T2.setTop (mkF m 7 #[rv a, rv u, rv w, un, un, un] [(.long (1 : Int64))])) K
  refine Wlk.of (fun _ k => XS.lstoreN X2.here hx rfl (hb hby d8_7) rfl (l' := #[rv a, rv u, rv w, jv (1 : Int64), sd, un]) rfl k) ?_
  show Wlk p.tables e below (T2.setTop (mkF m 8 #[rv a, rv u, rv w, jv (1 : Int64), sd, un] [])) K
  refine Wlk.of (fun _ k => XS.aloadN X2.here hx rfl (hb hby d8_8) rfl rfl k) ?_
  show Wlk p.tables e below (T2.setTop (mkF m 9 #[rv a, rv u, rv w, jv (1 : Int64), sd, un] [(.ref a)])) K
  refine Wlk.of (fun _ k => XS.dup X2.here hx rfl (hb hby d8_9) rfl rfl k) ?_
  show Wlk p.tables e below (T2.setTop (mkF m 10 #[rv a, rv u, rv w, jv (1 : Int64), sd, un] [(.ref a), (.ref a)])) K
  obtain ⟨T4, X4, e4, st4⟩ := getF X2 hx hZ hown (host := "") (Or.inl (wd hw 67 rfl)) Via.refl hh2 F_a_count (g := (mkF m 10 #[rv a, rv u, rv w, jv (1 : Int64), sd, un] [(.ref a), (.ref a)])) rfl rfl (hb hby d8_10)
  refine Wlk.of (fun _ k => st4 _ k) ?_
  show Wlk p.tables e below (T4.setTop (mkF m 13 #[rv a, rv u, rv w, jv (1 : Int64), sd, un] [(.long (1 : Int64)), (.ref a)])) K
  refine Wlk.of (fun _ k => XS.lconst X4.here hx rfl (hb hby d8_13) k) ?_
  show Wlk p.tables e below (T4.setTop (mkF m 14 #[rv a, rv u, rv w, jv (1 : Int64), sd, un] [(.long (1 : Int64)), (.long (1 : Int64)), (.ref a)])) K
  refine Wlk.of (fun _ k => XS.ladd X4.here hx rfl (hb hby d8_14) rfl k) ?_
  show Wlk p.tables e below (T4.setTop (mkF m 15 #[rv a, rv u, rv w, jv (1 : Int64), sd, un] [(.long (2 : Int64)), (.ref a)])) K
  obtain ⟨T5, h5, X5, e5, W5, st5⟩ := putF X4 hx hZ hown (host := "") (Or.inl (wd hw 67 rfl)) Via.refl e4 F_a_count E_a (Or.inl (wd hw 68 rfl)) (wd hw 41 rfl) (ty := .long) (by decide) rfl rfl (g := (mkF m 15 #[rv a, rv u, rv w, jv (1 : Int64), sd, un] [(.long (2 : Int64)), (.ref a)])) rfl rfl (hb hby d8_15)
  have Fw5 := F_a_count.same W5
  refine Wlk.of (fun _ k => st5 _ k) ?_
  have K6 : Keep h0 h5 [a] := K0.wr W5 (Or.inl (List.mem_of_getElem? (i := 0) rfl))
  have N7 := Fr.snoc X5 N3 g_a
  show Wlk p.tables e below (T5.setTop (mkF m 18 #[rv a, rv u, rv w, jv (1 : Int64), sd, un] [])) K
  refine Wlk.of (fun _ k => XS.aloadN X5.here hx rfl (hb hby d8_18) rfl rfl k) ?_
  show Wlk p.tables e below (T5.setTop (mkF m 19 #[rv a, rv u, rv w, jv (1 : Int64), sd, un] [(.ref a)])) K
  have f8 : Fld Z h5 a "com/example/gapweave/gapweave/AggregateFunction$IntegerMean" "bigSum" "Ljava/math/BigInteger;" .null := (F_a_bigSum.other W5 (Or.inr (slot_ne (Or.inl (wd hw 70 rfl)) (Or.inl (wd hw 68 rfl)) (by decide) (t := (.object "java/math/BigInteger")) (t' := .long) (by decide) (by decide))))
  obtain ⟨T9, X9, e9, st9⟩ := getF X5 hx hZ hown (host := "") (Or.inl (wd hw 69 rfl)) Via.refl e5 f8 (g := (mkF m 19 #[rv a, rv u, rv w, jv (1 : Int64), sd, un] [(.ref a)])) rfl rfl (hb hby d8_19)
  refine Wlk.of (fun _ k => st9 _ k) ?_
  show Wlk p.tables e below (T9.setTop (mkF m 22 #[rv a, rv u, rv w, jv (1 : Int64), sd, un] [.null])) K
  refine Wlk.of (fun _ k => XT.ifnonnullNo X9.here hx rfl (hb hby d8_22) rfl k) ?_
  show Wlk p.tables e below (T9.setTop (mkF m 25 #[rv a, rv u, rv w, jv (1 : Int64), sd, un] [])) K
  refine Wlk.of (fun _ k => XS.aloadN X9.here hx rfl (hb hby d8_25) rfl rfl k) ?_
  show Wlk p.tables e below (T9.setTop (mkF m 26 #[rv a, rv u, rv w, jv (1 : Int64), sd, un] [(.ref a)])) K
  refine Wlk.of (fun _ k => XS.aloadN X9.here hx rfl (hb hby d8_26) rfl rfl k) ?_
  show Wlk p.tables e below (T9.setTop (mkF m 27 #[rv a, rv u, rv w, jv (1 : Int64), sd, un] [(.ref a), (.ref a)])) K
  have f10 : Fld Z h5 a "com/example/gapweave/gapweave/AggregateFunction$IntegerMean" "sum" "J" (.long (2 : Int64)) := (F_a_sum.other W5 (Or.inr (slot_ne (Or.inl (wd hw 72 rfl)) (Or.inl (wd hw 68 rfl)) (by decide) (t := .long) (t' := .long) (by decide) (by decide))))
  obtain ⟨T11, X11, e11, st11⟩ := getF X9 hx hZ hown (host := "") (Or.inl (wd hw 71 rfl)) Via.refl e9 f10 (g := (mkF m 27 #[rv a, rv u, rv w, jv (1 : Int64), sd, un] [(.ref a), (.ref a)])) rfl rfl (hb hby d8_27)
  refine Wlk.of (fun _ k => st11 _ k) ?_
  show Wlk p.tables e below (T11.setTop (mkF m 30 #[rv a, rv u, rv w, jv (1 : Int64), sd, un] [(.long (2 : Int64)), (.ref a)])) K
  refine Wlk.of (fun _ k => XS.lloadN X11.here hx rfl (hb hby d8_30) rfl k) ?_
  show Wlk p.tables e below (T11.setTop (mkF m 31 #[rv a, rv u, rv w, jv (1 : Int64), sd, un] [(.long (1 : Int64)), (.long (2 : Int64)), (.ref a)])) K
  obtain ⟨v12, T12, L12, X12, q12, st12⟩ := Ctr.static (c_ax21 l Z a0 hw  h5 n0 (Nat.le_trans Z0 K6.1) ) X11 hx hH e11 hown (wd hw 73 rfl) (wd hw 74 rfl) (wd hw 75 rfl) (wd hw 76 rfl) (by decide) pd_111 (g := (mkF m 31 #[rv a, rv u, rv w, jv (1 : Int64), sd, un] [(.long (1 : Int64)), (.long (2 : Int64)), (.ref a)])) rfl (by rw [hml]; rfl) (argsL := [(.long (2 : Int64)), (.long (1 : Int64))]) (rest := [(.ref a)]) rfl rfl rfl (W := 1) (by show 2 * 0 + _ ≤ _; exact Nat.le_of_eq rfl) (by decide) (by decide) (hb hby d8_31) (by decide) (by decide)
  obtain ⟨rfl, N12q, hh12⟩ := q12
  have N13 := Fr.app N7 N12q
  refine Wlk.of (fun _ k => st12 _ k) ?_
  show Wlk p.tables e below (T12.setTop (mkF m 34 #[rv a, rv u, rv w, jv (1 : Int64), sd, un] [(.long (3 : Int64)), (.ref a)])) K
  have f14 : Exa Z h5 a "com/example/gapweave/gapweave/AggregateFunction$IntegerMean" := (E_a.wr W5)
  obtain ⟨T15, h15, X15, e15, W15, st15⟩ := putF X12 hx hZ hown (host := "") (Or.inl (wd hw 71 rfl)) Via.refl hh12 f10 f14 (Or.inl (wd hw 72 rfl)) (wd hw 41 rfl) (ty := .long) (by decide) rfl rfl (g := (mkF m 34 #[rv a, rv u, rv w, jv (1 : Int64), sd, un] [(.long (3 : Int64)), (.ref a)])) rfl rfl (hb hby d8_34)
  have Fw15 := f10.same W15
  refine Wlk.of (fun _ k => st15 _ k) ?_
  have K16 : Keep h0 h15 [a] := K6.wr W15 (Or.inl (List.mem_of_getElem? (i := 0) rfl))
  have N17 := Fr.snoc X15 N13 g_a
  show Wlk p.tables e below (T15.setTop (mkF m 37 #[rv a, rv u, rv w, jv (1 : Int64), sd, un] [])) K
  have f18 : Fld Z h15 a "com/example/gapweave/gapweave/AggregateFunction$IntegerMean" "count" "J" (.long (2 : Int64)) := (Fw5.other W15 (Or.inr (slot_ne (Or.inl (wd hw 68 rfl)) (Or.inl (wd hw 72 rfl)) (by decide) (t := .long) (t' := .long) (by decide) (by decide))))
  have f19 : Fld Z h15 a "com/example/gapweave/gapweave/AggregateFunction$IntegerMean" "bigSum" "Ljava/math/BigInteger;" .null := (f8.other W15 (Or.inr (slot_ne (Or.inl (wd hw 70 rfl)) (Or.inl (wd hw 72 rfl)) (by decide) (t := (.object "java/math/BigInteger")) (t' := .long) (by decide) (by decide))))
  refine hK none X15 (fun q => rfl) (fun fs hr => X15.returnOut hx hret (hb hby d8_37) hr) ?_ (by decide) (by decide)
  rw [show T15.heap = h15 from e15]
  exact ⟨rfl, N17, K16, f18, f19, Fw15⟩
theorem ef_c_sa121 (m : MethodId) (a : Addr) (u : Addr) (w : Addr) : entryFrame m #[(.ref a), (.ref u), (.ref w)] 3 = mkF m 0 #[rv a, rv u, rv w] [] := by first | (simp [entryFrame, mkF, argsToLocals, Value.category]; done) | rfl
def Q_c_sa121 (Z : State) (a : Addr) (u : Addr) (w : Addr) (h0 : Heap) (n0 : Nat) (v : Option Value) (h : Heap) (L : List Loc) : Prop := v = none ∧ Fr n0 L ∧ Keep h0 h [a] ∧ Fld Z h a "com/example/gapweave/gapweave/AggregateFunction$IntegerSum" "sum" "J" (.long (3 : Int64)) ∧ Fld Z h a "com/example/gapweave/gapweave/AggregateFunction$IntegerSum" "any" "Z" (.int (1 : Int32))
set_option maxRecDepth 65536 in
set_option maxHeartbeats 40000000 in
theorem c_sa121 (l : Launch) (Z : State) (a0 : Array Value) (hw : ∀ d ∈ tables_1, d.before a0 Z = true) (a : Addr) (u : Addr) (w : Addr) (h0 : Heap) (n0 : Nat) (Z0 : n0 ≤ h0.size) (E_a : Exa Z h0 a "com/example/gapweave/gapweave/AggregateFunction$IntegerSum") (F_a_sum : Fld Z h0 a "com/example/gapweave/gapweave/AggregateFunction$IntegerSum" "sum" "J" (.long (2 : Int64))) (F_a_any : Fld Z h0 a "com/example/gapweave/gapweave/AggregateFunction$IntegerSum" "any" "Z" (.int (1 : Int32))) (E_w : Exa Z h0 w "java/lang/Long") (F_w_value : Fld Z h0 w "java/lang/Long" "value" "J" (.long (1 : Int64))) (g_a : n0 ≤ a) :
    Ctr l Z h0 (⟨"com/example/gapweave/gapweave/AggregateFunction$IntegerSum", "add", "(Ljava/lang/Object;Ljava/lang/Object;)V"⟩ : MethodName) prog_10_method_2_code 3 none [] ({ frames := 1, cells := 0, slots := 0, locals := 18 } : Room) #[(.ref a), (.ref u), (.ref w)] (Q_c_sa121 Z a u w h0 n0) := by
  refine Ctr.make (plainFor_of_name pn_98) fun p e s m below meth c s₁ K hret hml hx hby hown hnm hnamed hH hZ X0 e0 hK => ?_
  have hown : s.vm.findClass "com/example/gapweave/gapweave/AggregateFunction$IntegerSum" = some m.cls := hown
  have N0 := Fr.nil n0
  have K0 : Keep h0 h0 [a] := Keep.refl _ _
  refine Wlk.of (fun _ k => castTop (ef_c_sa121 m a u w) k) ?_
  show Wlk p.tables e below (s₁.setTop (mkF m 0 #[rv a, rv u, rv w] [])) K
  refine Wlk.of (fun _ k => XS.aloadN X0.here hx rfl (hb hby d35_0) rfl rfl k) ?_
  show Wlk p.tables e below (s₁.setTop (mkF m 1 #[rv a, rv u, rv w] [(.ref a)])) K
  refine Wlk.of (fun _ k => XS.aloadN X0.here hx rfl (hb hby d35_1) rfl rfl k) ?_
  show Wlk p.tables e below (s₁.setTop (mkF m 2 #[rv a, rv u, rv w] [(.ref a), (.ref a)])) K
  obtain ⟨T1, X1, e1, st1⟩ := getF X0 hx hZ hown (host := "") (Or.inl (wd hw 269 rfl)) Via.refl e0 F_a_sum (g := (mkF m 2 #[rv a, rv u, rv w] [(.ref a), (.ref a)])) rfl rfl (hb hby d35_2)
  refine Wlk.of (fun _ k => st1 _ k) ?_
  show Wlk p.tables e below (T1.setTop (mkF m 5 #[rv a, rv u, rv w] [(.long (2 : Int64)), (.ref a)])) K
  refine Wlk.of (fun _ k => XS.aloadN X1.here hx rfl (hb hby d35_5) rfl rfl k) ?_
  show Wlk p.tables e below (T1.setTop (mkF m 6 #[rv a, rv u, rv w] [(.ref w), (.long (2 : Int64)), (.ref a)])) K
  obtain ⟨T2, X2, e2, st2⟩ := castY X1 hx hZ hown (wd hw 271 rfl) e1 (Ins.of_exa E_w (wd hw 59 rfl)) (g := (mkF m 6 #[rv a, rv u, rv w] [(.ref w), (.long (2 : Int64)), (.ref a)])) rfl rfl (hb hby d35_6)
  refine Wlk.of (fun _ k => st2 _ k) ?_
  show Wlk p.tables e below (T2.setTop (mkF m 9 #[rv a, rv u, rv w] [(.ref w), (.long (2 : Int64)), (.ref a)])) K
  obtain ⟨v3, T3, L3, X3, q3, st3⟩ := Ctr.virtual (y := (⟨"java/lang/Number", "longValue", "()J"⟩ : MethodName)) (c_lv l Z a0 hw w (1 : Int64) h0 n0 (Nat.le_trans Z0 K0.1) F_w_value) X2 hx hH e2 hown (wd hw 272 rfl) (wd hw 61 rfl) (own_nfSup (a0 := #[]) (mvT hZ (wd hw 113 rfl))) (wd hw 62 rfl) (wd hw 63 rfl) (wd hw 10 rfl) (wd hw 64 rfl) (by decide) E_w pd_80 (g := (mkF m 9 #[rv a, rv u, rv w] [(.ref w), (.long (2 : Int64)), (.ref a)])) rfl (by rw [hml]; rfl) (argsL := []) (rest := [(.long (2 : Int64)), (.ref a)]) rfl rfl rfl (W := 3) (by show 2 * 0 + _ ≤ _; exact Nat.le_of_eq rfl) (by decide) (by decide) (hb hby d35_9) (by decide) (by decide)
  obtain ⟨rfl, N3q, hh3⟩ := q3
  have N4 := Fr.app N0 N3q
  refine Wlk.of (fun _ k => st3 _ k) ?_
  show Wlk p.tables e below (T3.setTop (mkF m 12 #[rv a, rv u, rv w] [(.long (1 : Int64)), (.long (2 : Int64)), (.ref a)])) K
  obtain ⟨v5, T5, L5, X5, q5, st5⟩ := Ctr.static (c_ax21 l Z a0 hw  h0 n0 (Nat.le_trans Z0 K0.1) ) X3 hx hH hh3 hown (wd hw 273 rfl) (wd hw 74 rfl) (wd hw 75 rfl) (wd hw 76 rfl) (by decide) pd_111 (g := (mkF m 12 #[rv a, rv u, rv w] [(.long (1 : Int64)), (.long (2 : Int64)), (.ref a)])) rfl (by rw [hml]; rfl) (argsL := [(.long (2 : Int64)), (.long (1 : Int64))]) (rest := [(.ref a)]) rfl rfl rfl (W := 1) (by show 2 * 0 + _ ≤ _; exact Nat.le_of_eq rfl) (by decide) (by decide) (hb hby d35_12) (by decide) (by decide)
  obtain ⟨rfl, N5q, hh5⟩ := q5
  have N6 := Fr.app N4 N5q
  refine Wlk.of (fun _ k => st5 _ k) ?_
  show Wlk p.tables e below (T5.setTop (mkF m 15 #[rv a, rv u, rv w] [(.long (3 : Int64)), (.ref a)])) K
  obtain ⟨T7, h7, X7, e7, W7, st7⟩ := putF X5 hx hZ hown (host := "") (Or.inl (wd hw 269 rfl)) Via.refl hh5 F_a_sum E_a (Or.inl (wd hw 270 rfl)) (wd hw 257 rfl) (ty := .long) (by decide) rfl rfl (g := (mkF m 15 #[rv a, rv u, rv w] [(.long (3 : Int64)), (.ref a)])) rfl rfl (hb hby d35_15)
  have Fw7 := F_a_sum.same W7
  refine Wlk.of (fun _ k => st7 _ k) ?_
  have K8 : Keep h0 h7 [a] := K0.wr W7 (Or.inl (List.mem_of_getElem? (i := 0) rfl))
  have N9 := Fr.snoc X7 N6 g_a
  show Wlk p.tables e below (T7.setTop (mkF m 18 #[rv a, rv u, rv w] [])) K
  refine Wlk.of (fun _ k => XS.aloadN X7.here hx rfl (hb hby d35_18) rfl rfl k) ?_
  show Wlk p.tables e below (T7.setTop (mkF m 19 #[rv a, rv u, rv w] [(.ref a)])) K
  refine Wlk.of (fun _ k => XS.iconst X7.here hx rfl (hb hby d35_19) k) ?_
  show Wlk p.tables e below (T7.setTop (mkF m 20 #[rv a, rv u, rv w] [(.int (1 : Int32)), (.ref a)])) K
  have f10 : Fld Z h7 a "com/example/gapweave/gapweave/AggregateFunction$IntegerSum" "any" "Z" (.int (1 : Int32)) := (F_a_any.other W7 (Or.inr (slot_ne (Or.inl (wd hw 275 rfl)) (Or.inl (wd hw 270 rfl)) (by decide) (t := .boolean) (t' := .long) (by decide) (by decide))))
  have f11 : Exa Z h7 a "com/example/gapweave/gapweave/AggregateFunction$IntegerSum" := (E_a.wr W7)
  obtain ⟨T12, h12, X12, e12, W12, st12⟩ := putF X7 hx hZ hown (host := "") (Or.inl (wd hw 274 rfl)) Via.refl e7 f10 f11 (Or.inl (wd hw 275 rfl)) (wd hw 257 rfl) (ty := .boolean) (by decide) rfl rfl (g := (mkF m 20 #[rv a, rv u, rv w] [(.int (1 : Int32)), (.ref a)])) rfl rfl (hb hby d35_20)
  have Fw12 := f10.same W12
  refine Wlk.of (fun _ k => st12 _ k) ?_
  have K13 : Keep h0 h12 [a] := K8.wr W12 (Or.inl (List.mem_of_getElem? (i := 0) rfl))
  have N14 := Fr.snoc X12 N9 g_a
  show Wlk p.tables e below (T12.setTop (mkF m 23 #[rv a, rv u, rv w] [])) K
  have f15 : Fld Z h12 a "com/example/gapweave/gapweave/AggregateFunction$IntegerSum" "sum" "J" (.long (3 : Int64)) := (Fw7.other W12 (Or.inr (slot_ne (Or.inl (wd hw 270 rfl)) (Or.inl (wd hw 275 rfl)) (by decide) (t := .long) (t' := .boolean) (by decide) (by decide))))
  refine hK none X12 (fun q => rfl) (fun fs hr => X12.returnOut hx hret (hb hby d35_23) hr) ?_ (by decide) (by decide)
  rw [show T12.heap = h12 from e12]
  exact ⟨rfl, N14, K13, f15, Fw12⟩
theorem pd_144 : parseMethodDescriptor "(J)J" = some ⟨[.long], some .long⟩ := by decide +kernel
theorem pd_145 : parseMethodDescriptor "(D)Ljava/lang/Double;" = some ⟨[.double], some (.object "java/lang/Double")⟩ := by decide +kernel
theorem d11_0 : decode prog_9_method_3_code 0 = .ok (.aload_n 0, 1) := by decide +kernel
theorem d11_1 : decode prog_9_method_3_code 1 = .ok (.getfield 13, 3) := by decide +kernel
theorem d11_4 : decode prog_9_method_3_code 4 = .ok (.lconst 0, 1) := by decide +kernel
theorem d11_5 : decode prog_9_method_3_code 5 = .ok (.lcmp, 1) := by decide +kernel
theorem d11_6 : decode prog_9_method_3_code 6 = .ok (.ifCond .ne 5, 3) := by decide +kernel
theorem d11_11 : decode prog_9_method_3_code 11 = .ok (.aload_n 0, 1) := by decide +kernel
theorem d11_12 : decode prog_9_method_3_code 12 = .ok (.getfield 19, 3) := by decide +kernel
theorem d11_15 : decode prog_9_method_3_code 15 = .ok (.ifnonnull 43, 3) := by decide +kernel
theorem d11_18 : decode prog_9_method_3_code 18 = .ok (.aload_n 0, 1) := by decide +kernel
theorem d11_19 : decode prog_9_method_3_code 19 = .ok (.getfield 23, 3) := by decide +kernel
theorem d11_22 : decode prog_9_method_3_code 22 = .ok (.invokestatic 44, 3) := by decide +kernel
theorem d11_25 : decode prog_9_method_3_code 25 = .ok (.ldc2_w 48, 3) := by decide +kernel
theorem d11_28 : decode prog_9_method_3_code 28 = .ok (.lcmp, 1) := by decide +kernel
theorem d11_29 : decode prog_9_method_3_code 29 = .ok (.ifCond .ge 29, 3) := by decide +kernel
theorem d11_32 : decode prog_9_method_3_code 32 = .ok (.aload_n 0, 1) := by decide +kernel
theorem d11_33 : decode prog_9_method_3_code 33 = .ok (.getfield 13, 3) := by decide +kernel
theorem d11_36 : decode prog_9_method_3_code 36 = .ok (.ldc2_w 48, 3) := by decide +kernel
theorem d11_39 : decode prog_9_method_3_code 39 = .ok (.lcmp, 1) := by decide +kernel
theorem d11_40 : decode prog_9_method_3_code 40 = .ok (.ifCond .ge 18, 3) := by decide +kernel
theorem d11_43 : decode prog_9_method_3_code 43 = .ok (.aload_n 0, 1) := by decide +kernel
theorem d11_44 : decode prog_9_method_3_code 44 = .ok (.getfield 23, 3) := by decide +kernel
theorem d11_47 : decode prog_9_method_3_code 47 = .ok (.l2d, 1) := by decide +kernel
theorem d11_48 : decode prog_9_method_3_code 48 = .ok (.aload_n 0, 1) := by decide +kernel
theorem d11_49 : decode prog_9_method_3_code 49 = .ok (.getfield 13, 3) := by decide +kernel
theorem d11_52 : decode prog_9_method_3_code 52 = .ok (.l2d, 1) := by decide +kernel
theorem d11_53 : decode prog_9_method_3_code 53 = .ok (.ddiv, 1) := by decide +kernel
theorem d11_54 : decode prog_9_method_3_code 54 = .ok (.invokestatic 50, 3) := by decide +kernel
theorem d11_57 : decode prog_9_method_3_code 57 = .ok (.areturn, 1) := by decide +kernel
theorem ef_c_mr1 (m : MethodId) (a : Addr) : entryFrame m #[(.ref a)] 2 = mkF m 0 #[rv a, un] [] := by first | (simp [entryFrame, mkF, argsToLocals, Value.category]; done) | rfl
def Q_c_mr1 (Z : State) (a : Addr) (h0 : Heap) (n0 : Nat) (v : Option Value) (h : Heap) (L : List Loc) : Prop := ∃ r : Addr, v = (some (.ref r)) ∧ Fr n0 L ∧ Keep h0 h [] ∧ h0.size ≤ r ∧ Exa Z h r "java/lang/Double" ∧ Fld Z h r "java/lang/Double" "value" "D" (.double (FP.ddiv (FP.l2d (1 : Int64)) (FP.l2d (2 : Int64))))
set_option maxRecDepth 65536 in
set_option maxHeartbeats 40000000 in
theorem c_mr1 (l : Launch) (Z : State) (a0 : Array Value) (hw : ∀ d ∈ tables_1, d.before a0 Z = true) (a : Addr) (h0 : Heap) (n0 : Nat) (Z0 : n0 ≤ h0.size) (E_a : Exa Z h0 a "com/example/gapweave/gapweave/AggregateFunction$IntegerMean") (F_a_count : Fld Z h0 a "com/example/gapweave/gapweave/AggregateFunction$IntegerMean" "count" "J" (.long (2 : Int64))) (F_a_bigSum : Fld Z h0 a "com/example/gapweave/gapweave/AggregateFunction$IntegerMean" "bigSum" "Ljava/math/BigInteger;" .null) (F_a_sum : Fld Z h0 a "com/example/gapweave/gapweave/AggregateFunction$IntegerMean" "sum" "J" (.long (1 : Int64))) :
    Ctr l Z h0 (⟨"com/example/gapweave/gapweave/AggregateFunction$IntegerMean", "result", "()Ljava/lang/Object;"⟩ : MethodName) prog_9_method_3_code 2 (some (.object "java/lang/Object")) [] ({ frames := 4, cells := 1, slots := 1, locals := 52 } : Room) #[(.ref a)] (Q_c_mr1 Z a h0 n0) := by
  refine Ctr.make (plainFor_of_name pn_94) fun p e s m below meth c s₁ K hret hml hx hby hown hnm hnamed hH hZ X0 e0 hK => ?_
  have hown : s.vm.findClass "com/example/gapweave/gapweave/AggregateFunction$IntegerMean" = some m.cls := hown
  have N0 := Fr.nil n0
  have K0 : Keep h0 h0 [] := Keep.refl _ _
  refine Wlk.of (fun _ k => castTop (ef_c_mr1 m a) k) ?_
  show Wlk p.tables e below (s₁.setTop (mkF m 0 #[rv a, un] [])) K
  refine Wlk.of (fun _ k => XS.aloadN X0.here hx rfl (hb hby d11_0) rfl rfl k) ?_
  show Wlk p.tables e below (s₁.setTop (mkF m 1 #[rv a, un] [(.ref a)])) K
  obtain ⟨T1, X1, e1, st1⟩ := getF X0 hx hZ hown (host := "") (Or.inl (wd hw 67 rfl)) Via.refl e0 F_a_count (g := (mkF m 1 #[rv a, un] [(.ref a)])) rfl rfl (hb hby d11_1)
  refine Wlk.of (fun _ k => st1 _ k) ?_
  show Wlk p.tables e below (T1.setTop (mkF m 4 #[rv a, un] [(.long (2 : Int64))])) K
  refine Wlk.of (fun _ k => XS.lconst X1.here hx rfl (hb hby d11_4) k) ?_
  show Wlk p.tables e below (T1.setTop (mkF m 5 #[rv a, un] [(.long (0 : Int64)), (.long (2 : Int64))])) K
  refine Wlk.of (fun _ k => XS.lcmp X1.here hx rfl (hb hby d11_5) rfl k) ?_
  show Wlk p.tables e below (T1.setTop (mkF m 6 #[rv a, un] [(.int (lcmpW (2 : Int64) (0 : Int64)))])) K
  refine Wlk.of (fun _ k => XS.ifYes X1.here hx rfl (pc0 := 6) (pc' := 11) rfl (hb hby d11_6) rfl ((if0 _ _).trans (feq (fun q => (by decide : ¬ ((2 : Int64) = (0 : Int64))) ((lw_eq _ _).mp q))).2) (by decide) (by decide) k) ?_
  show Wlk p.tables e below (T1.setTop (mkF m 11 #[rv a, un] [])) K
  refine Wlk.of (fun _ k => XS.aloadN X1.here hx rfl (hb hby d11_11) rfl rfl k) ?_
  show Wlk p.tables e below (T1.setTop (mkF m 12 #[rv a, un] [(.ref a)])) K
  obtain ⟨T2, X2, e2, st2⟩ := getF X1 hx hZ hown (host := "") (Or.inl (wd hw 69 rfl)) Via.refl e1 F_a_bigSum (g := (mkF m 12 #[rv a, un] [(.ref a)])) rfl rfl (hb hby d11_12)
  refine Wlk.of (fun _ k => st2 _ k) ?_
  show Wlk p.tables e below (T2.setTop (mkF m 15 #[rv a, un] [.null])) K
  refine Wlk.of (fun _ k => XT.ifnonnullNo X2.here hx rfl (hb hby d11_15) rfl k) ?_
  show Wlk p.tables e below (T2.setTop (mkF m 18 #[rv a, un] [])) K
  refine Wlk.of (fun _ k => XS.aloadN X2.here hx rfl (hb hby d11_18) rfl rfl k) ?_
  show Wlk p.tables e below (T2.setTop (mkF m 19 #[rv a, un] [(.ref a)])) K
  obtain ⟨T3, X3, e3, st3⟩ := getF X2 hx hZ hown (host := "") (Or.inl (wd hw 71 rfl)) Via.refl e2 F_a_sum (g := (mkF m 19 #[rv a, un] [(.ref a)])) rfl rfl (hb hby d11_19)
  refine Wlk.of (fun _ k => st3 _ k) ?_
  show Wlk p.tables e below (T3.setTop (mkF m 22 #[rv a, un] [(.long (1 : Int64))])) K
  obtain ⟨v4, T4, L4, X4, q4, st4⟩ := Ctr.static (c_ab1 l Z a0 hw  h0 n0 (Nat.le_trans Z0 K0.1) ) X3 hx hH e3 hown (wd hw 85 rfl) (wd hw 86 rfl) (wd hw 75 rfl) (wd hw 87 rfl) (by decide) pd_144 (g := (mkF m 22 #[rv a, un] [(.long (1 : Int64))])) rfl (by rw [hml]; rfl) (argsL := [(.long (1 : Int64))]) (rest := []) rfl rfl rfl (W := 0) (by show 2 * 0 + _ ≤ _; exact Nat.le_of_eq rfl) (by decide) (by decide) (hb hby d11_22) (by decide) (by decide)
  obtain ⟨rfl, N4q, hh4⟩ := q4
  have N5 := Fr.app N0 N4q
  refine Wlk.of (fun _ k => st4 _ k) ?_
  show Wlk p.tables e below (T4.setTop (mkF m 25 #[rv a, un] [(.long (1 : Int64))])) K
  refine Wlk.of (fun _ k => X4.ldc2Long hx hown (mvT hZ (wd hw 88 rfl)) (g := (mkF m 25 #[rv a, un] [(.long (1 : Int64))])) rfl (hb hby d11_25) _ k) ?_
  show Wlk p.tables e below (T4.setTop (mkF m 28 #[rv a, un] [(.long (9007199254740992 : Int64)), (.long (1 : Int64))])) K
  refine Wlk.of (fun _ k => XS.lcmp X4.here hx rfl (hb hby d11_28) rfl k) ?_
  show Wlk p.tables e below (T4.setTop (mkF m 29 #[rv a, un] [(.int (lcmpW (1 : Int64) (9007199254740992 : Int64)))])) K
  refine Wlk.of (fun _ k => XS.ifNo X4.here hx rfl (hb hby d11_29) rfl ((if0 _ _).trans (tlt ((lw_lt _ _).mpr (by decide : (1 : Int64) < (9007199254740992 : Int64)))).2.1) k) ?_
  show Wlk p.tables e below (T4.setTop (mkF m 32 #[rv a, un] [])) K
  refine Wlk.of (fun _ k => XS.aloadN X4.here hx rfl (hb hby d11_32) rfl rfl k) ?_
  show Wlk p.tables e below (T4.setTop (mkF m 33 #[rv a, un] [(.ref a)])) K
  obtain ⟨T6, X6, e6, st6⟩ := getF X4 hx hZ hown (host := "") (Or.inl (wd hw 67 rfl)) Via.refl hh4 F_a_count (g := (mkF m 33 #[rv a, un] [(.ref a)])) rfl rfl (hb hby d11_33)
  refine Wlk.of (fun _ k => st6 _ k) ?_
  show Wlk p.tables e below (T6.setTop (mkF m 36 #[rv a, un] [(.long (2 : Int64))])) K
  refine Wlk.of (fun _ k => X6.ldc2Long hx hown (mvT hZ (wd hw 88 rfl)) (g := (mkF m 36 #[rv a, un] [(.long (2 : Int64))])) rfl (hb hby d11_36) _ k) ?_
  show Wlk p.tables e below (T6.setTop (mkF m 39 #[rv a, un] [(.long (9007199254740992 : Int64)), (.long (2 : Int64))])) K
  refine Wlk.of (fun _ k => XS.lcmp X6.here hx rfl (hb hby d11_39) rfl k) ?_
  show Wlk p.tables e below (T6.setTop (mkF m 40 #[rv a, un] [(.int (lcmpW (2 : Int64) (9007199254740992 : Int64)))])) K
  refine Wlk.of (fun _ k => XS.ifNo X6.here hx rfl (hb hby d11_40) rfl ((if0 _ _).trans (tlt ((lw_lt _ _).mpr (by decide : (2 : Int64) < (9007199254740992 : Int64)))).2.1) k) ?_
  show Wlk p.tables e below (T6.setTop (mkF m 43 #[rv a, un] [])) K
  refine Wlk.of (fun _ k => XS.aloadN X6.here hx rfl (hb hby d11_43) rfl rfl k) ?_
  show Wlk p.tables e below (T6.setTop (mkF m 44 #[rv a, un] [(.ref a)])) K
  obtain ⟨T7, X7, e7, st7⟩ := getF X6 hx hZ hown (host := "") (Or.inl (wd hw 71 rfl)) Via.refl e6 F_a_sum (g := (mkF m 44 #[rv a, un] [(.ref a)])) rfl rfl (hb hby d11_44)
  refine Wlk.of (fun _ k => st7 _ k) ?_
  show Wlk p.tables e below (T7.setTop (mkF m 47 #[rv a, un] [(.long (1 : Int64))])) K
  refine Wlk.of (fun _ k => XS.l2dS X7.here hx rfl (hb hby d11_47) rfl rfl k) ?_
  show Wlk p.tables e below (T7.setTop (mkF m 48 #[rv a, un] [(.double (FP.l2d (1 : Int64)))])) K
  refine Wlk.of (fun _ k => XS.aloadN X7.here hx rfl (hb hby d11_48) rfl rfl k) ?_
  show Wlk p.tables e below (T7.setTop (mkF m 49 #[rv a, un] [(.ref a), (.double (FP.l2d (1 : Int64)))])) K
  obtain ⟨T8, X8, e8, st8⟩ := getF X7 hx hZ hown (host := "") (Or.inl (wd hw 67 rfl)) Via.refl e7 F_a_count (g := (mkF m 49 #[rv a, un] [(.ref a), (.double (FP.l2d (1 : Int64)))])) rfl rfl (hb hby d11_49)
  refine Wlk.of (fun _ k => st8 _ k) ?_
  show Wlk p.tables e below (T8.setTop (mkF m 52 #[rv a, un] [(.long (2 : Int64)), (.double (FP.l2d (1 : Int64)))])) K
  refine Wlk.of (fun _ k => XS.l2dS X8.here hx rfl (hb hby d11_52) rfl rfl k) ?_
  show Wlk p.tables e below (T8.setTop (mkF m 53 #[rv a, un] [(.double (FP.l2d (2 : Int64))), (.double (FP.l2d (1 : Int64)))])) K
  refine Wlk.of (fun _ k => XS.ddivS X8.here hx rfl (hb hby d11_53) rfl (by unfold Fl.NoNaN64; decide +kernel) rfl k) ?_
  show Wlk p.tables e below (T8.setTop (mkF m 54 #[rv a, un] [(.double (FP.ddiv (FP.l2d (1 : Int64)) (FP.l2d (2 : Int64))))])) K
  obtain ⟨v9, T9, L9, X9, q9, st9⟩ := Ctr.static (c_dvo l Z a0 hw ((FP.ddiv (FP.l2d (1 : Int64)) (FP.l2d (2 : Int64)))) h0 n0 (Nat.le_trans Z0 K0.1) ) X8 hx hH e8 hown (wd hw 89 rfl) (wd hw 90 rfl) (wd hw 91 rfl) (wd hw 92 rfl) (by decide) pd_145 (g := (mkF m 54 #[rv a, un] [(.double (FP.ddiv (FP.l2d (1 : Int64)) (FP.l2d (2 : Int64))))])) rfl (by rw [hml]; rfl) (argsL := [(.double (FP.ddiv (FP.l2d (1 : Int64)) (FP.l2d (2 : Int64))))]) (rest := []) rfl rfl rfl (W := 0) (by show 2 * 0 + _ ≤ _; exact Nat.le_of_eq rfl) (by decide) (by decide) (hb hby d11_54) (by decide) (by decide)
  obtain ⟨r_9, rfl, N9q, K9q, p9_0, p9_1, p9_2⟩ := q9
  have N10 := Fr.app N5 N9q
  refine Wlk.of (fun _ k => st9 _ k) ?_
  have ne11 : a ≠ r_9 := Nat.ne_of_lt (Nat.lt_of_lt_of_le E_a.lt p9_0)
  have sz_r_9 : h0.size ≤ r_9 := Nat.le_trans K0.1 p9_0
  have g_r_9 : n0 ≤ r_9 := Nat.le_trans Z0 sz_r_9
  have K12 : Keep h0 T9.heap [] := K0.trans K9q all0
  show Wlk p.tables e below (T9.setTop (mkF m 57 #[rv a, un] [(.ref r_9)])) K
  refine hK (some (.ref r_9)) X9 (fun q => by cases q) (fun fs hr => retOut X9 hx hret rfl (Or.inr (Or.inr (Or.inr (Or.inr ⟨rfl, rfl, rfl⟩)))) (hb hby d11_57) hr) ?_ (by decide) (by decide)
  skip
  exact ⟨r_9, rfl, N10, K12, sz_r_9, p9_1, p9_2⟩
theorem pd_174 : parseMethodDescriptor "(J)Ljava/lang/Long;" = some ⟨[.long], some (.object "java/lang/Long")⟩ := by decide +kernel
theorem d36_0 : decode prog_10_method_3_code 0 = .ok (.aload_n 0, 1) := by decide +kernel
theorem d36_1 : decode prog_10_method_3_code 1 = .ok (.getfield 25, 3) := by decide +kernel
theorem d36_4 : decode prog_10_method_3_code 4 = .ok (.ifCond .eq 13, 3) := by decide +kernel
theorem d36_7 : decode prog_10_method_3_code 7 = .ok (.aload_n 0, 1) := by decide +kernel
theorem d36_8 : decode prog_10_method_3_code 8 = .ok (.getfield 7, 3) := by decide +kernel
theorem d36_11 : decode prog_10_method_3_code 11 = .ok (.invokestatic 29, 3) := by decide +kernel
theorem d36_14 : decode prog_10_method_3_code 14 = .ok (.goto 4, 3) := by decide +kernel
theorem d36_18 : decode prog_10_method_3_code 18 = .ok (.areturn, 1) := by decide +kernel
theorem ef_c_sr1 (m : MethodId) (a : Addr) : entryFrame m #[(.ref a)] 1 = mkF m 0 #[rv a] [] := by first | (simp [entryFrame, mkF, argsToLocals, Value.category]; done) | rfl
def Q_c_sr1 (Z : State) (a : Addr) (ca : Addr) (vsC : (List Value)) (lg1 : Addr) (h0 : Heap) (n0 : Nat) (v : Option Value) (h : Heap) (L : List Loc) : Prop := v = (some (.ref lg1)) ∧ Fr n0 L ∧ h = h0
set_option maxRecDepth 65536 in
set_option maxHeartbeats 40000000 in
theorem c_sr1 (l : Launch) (Z : State) (a0 : Array Value) (hw : ∀ d ∈ tables_1, d.before a0 Z = true) (a : Addr) (ca : Addr) (vsC : (List Value)) (lg1 : Addr) (h0 : Heap) (n0 : Nat) (Z0 : n0 ≤ h0.size) (F_a_sum : Fld Z h0 a "com/example/gapweave/gapweave/AggregateFunction$IntegerSum" "sum" "J" (.long (1 : Int64))) (F_a_any : Fld Z h0 a "com/example/gapweave/gapweave/AggregateFunction$IntegerSum" "any" "Z" (.int (1 : Int32))) (S_cache : Sta Z h0 "java/lang/Long$LongCache" "cache" "[Ljava/lang/Long;" (.ref ca)) (A_ca : Arl Z h0 ca (.object "java/lang/Long") vsC) (hC1 : vsC[129]? = some (.ref lg1)) :
    Ctr l Z h0 (⟨"com/example/gapweave/gapweave/AggregateFunction$IntegerSum", "result", "()Ljava/lang/Object;"⟩ : MethodName) prog_10_method_3_code 1 (some (.object "java/lang/Object")) [] ({ frames := 1, cells := 0, slots := 0, locals := 14 } : Room) #[(.ref a)] (Q_c_sr1 Z a ca vsC lg1 h0 n0) := by
  refine Ctr.make (plainFor_of_name pn_98) fun p e s m below meth c s₁ K hret hml hx hby hown hnm hnamed hH hZ X0 e0 hK => ?_
  have hown : s.vm.findClass "com/example/gapweave/gapweave/AggregateFunction$IntegerSum" = some m.cls := hown
  have N0 := Fr.nil n0
  have K0 : Keep h0 h0 [] := Keep.refl _ _
  refine Wlk.of (fun _ k => castTop (ef_c_sr1 m a) k) ?_
  show Wlk p.tables e below (s₁.setTop (mkF m 0 #[rv a] [])) K
  refine Wlk.of (fun _ k => XS.aloadN X0.here hx rfl (hb hby d36_0) rfl rfl k) ?_
  show Wlk p.tables e below (s₁.setTop (mkF m 1 #[rv a] [(.ref a)])) K
  obtain ⟨T1, X1, e1, st1⟩ := getF X0 hx hZ hown (host := "") (Or.inl (wd hw 274 rfl)) Via.refl e0 F_a_any (g := (mkF m 1 #[rv a] [(.ref a)])) rfl rfl (hb hby d36_1)
  refine Wlk.of (fun _ k => st1 _ k) ?_
  show Wlk p.tables e below (T1.setTop (mkF m 4 #[rv a] [(.int (1 : Int32))])) K
  refine Wlk.of (fun _ k => XS.ifNo X1.here hx rfl (hb hby d36_4) rfl ((if0 _ _).trans (feq (by decide : ¬ ((1 : Int32) = (0 : Int32)))).1) k) ?_
  show Wlk p.tables e below (T1.setTop (mkF m 7 #[rv a] [])) K
  refine Wlk.of (fun _ k => XS.aloadN X1.here hx rfl (hb hby d36_7) rfl rfl k) ?_
  show Wlk p.tables e below (T1.setTop (mkF m 8 #[rv a] [(.ref a)])) K
  obtain ⟨T2, X2, e2, st2⟩ := getF X1 hx hZ hown (host := "") (Or.inl (wd hw 269 rfl)) Via.refl e1 F_a_sum (g := (mkF m 8 #[rv a] [(.ref a)])) rfl rfl (hb hby d36_8)
  refine Wlk.of (fun _ k => st2 _ k) ?_
  show Wlk p.tables e below (T2.setTop (mkF m 11 #[rv a] [(.long (1 : Int64))])) K
  obtain ⟨v3, T3, L3, X3, q3, st3⟩ := Ctr.static (c_vo1 l Z a0 hw ca vsC lg1 h0 n0 (Nat.le_trans Z0 K0.1) S_cache A_ca hC1) X2 hx hH e2 hown (wd hw 281 rfl) (wd hw 9 rfl) (wd hw 10 rfl) (wd hw 11 rfl) (by decide) pd_174 (g := (mkF m 11 #[rv a] [(.long (1 : Int64))])) rfl (by rw [hml]; rfl) (argsL := [(.long (1 : Int64))]) (rest := []) rfl rfl rfl (W := 0) (by show 2 * 0 + _ ≤ _; exact Nat.le_of_eq rfl) (by decide) (by decide) (hb hby d36_11) (by decide) (by decide)
  obtain ⟨rfl, N3q, hh3⟩ := q3
  have N4 := Fr.app N0 N3q
  refine Wlk.of (fun _ k => st3 _ k) ?_
  show Wlk p.tables e below (T3.setTop (mkF m 14 #[rv a] [(.ref lg1)])) K
  refine Wlk.of (fun _ k => XS.goto X3.here hx rfl (pc0 := 14) (pc' := 18) rfl (hb hby d36_14) (by decide) (by decide) k) ?_
  show Wlk p.tables e below (T3.setTop (mkF m 18 #[rv a] [(.ref lg1)])) K
  refine hK (some (.ref lg1)) X3 (fun q => by cases q) (fun fs hr => retOut X3 hx hret rfl (Or.inr (Or.inr (Or.inr (Or.inr ⟨rfl, rfl, rfl⟩)))) (hb hby d36_18) hr) ?_ (by decide) (by decide)
  rw [show T3.heap = h0 from hh3]
  exact ⟨rfl, N4, rfl⟩
theorem ef_c_mr3 (m : MethodId) (a : Addr) : entryFrame m #[(.ref a)] 2 = mkF m 0 #[rv a, un] [] := by first | (simp [entryFrame, mkF, argsToLocals, Value.category]; done) | rfl
def Q_c_mr3 (Z : State) (a : Addr) (h0 : Heap) (n0 : Nat) (v : Option Value) (h : Heap) (L : List Loc) : Prop := ∃ r : Addr, v = (some (.ref r)) ∧ Fr n0 L ∧ Keep h0 h [] ∧ h0.size ≤ r ∧ Exa Z h r "java/lang/Double" ∧ Fld Z h r "java/lang/Double" "value" "D" (.double (FP.ddiv (FP.l2d (3 : Int64)) (FP.l2d (2 : Int64))))
set_option maxRecDepth 65536 in
set_option maxHeartbeats 40000000 in
theorem c_mr3 (l : Launch) (Z : State) (a0 : Array Value) (hw : ∀ d ∈ tables_1, d.before a0 Z = true) (a : Addr) (h0 : Heap) (n0 : Nat) (Z0 : n0 ≤ h0.size) (E_a : Exa Z h0 a "com/example/gapweave/gapweave/AggregateFunction$IntegerMean") (F_a_count : Fld Z h0 a "com/example/gapweave/gapweave/AggregateFunction$IntegerMean" "count" "J" (.long (2 : Int64))) (F_a_bigSum : Fld Z h0 a "com/example/gapweave/gapweave/AggregateFunction$IntegerMean" "bigSum" "Ljava/math/BigInteger;" .null) (F_a_sum : Fld Z h0 a "com/example/gapweave/gapweave/AggregateFunction$IntegerMean" "sum" "J" (.long (3 : Int64))) :
    Ctr l Z h0 (⟨"com/example/gapweave/gapweave/AggregateFunction$IntegerMean", "result", "()Ljava/lang/Object;"⟩ : MethodName) prog_9_method_3_code 2 (some (.object "java/lang/Object")) [] ({ frames := 4, cells := 1, slots := 1, locals := 52 } : Room) #[(.ref a)] (Q_c_mr3 Z a h0 n0) := by
  refine Ctr.make (plainFor_of_name pn_94) fun p e s m below meth c s₁ K hret hml hx hby hown hnm hnamed hH hZ X0 e0 hK => ?_
  have hown : s.vm.findClass "com/example/gapweave/gapweave/AggregateFunction$IntegerMean" = some m.cls := hown
  have N0 := Fr.nil n0
  have K0 : Keep h0 h0 [] := Keep.refl _ _
  refine Wlk.of (fun _ k => castTop (ef_c_mr3 m a) k) ?_
  show Wlk p.tables e below (s₁.setTop (mkF m 0 #[rv a, un] [])) K
  refine Wlk.of (fun _ k => XS.aloadN X0.here hx rfl (hb hby d11_0) rfl rfl k) ?_
  show Wlk p.tables e below (s₁.setTop (mkF m 1 #[rv a, un] [(.ref a)])) K
  obtain ⟨T1, X1, e1, st1⟩ := getF X0 hx hZ hown (host := "") (Or.inl (wd hw 67 rfl)) Via.refl e0 F_a_count (g := (mkF m 1 #[rv a, un] [(.ref a)])) rfl rfl (hb hby d11_1)
  refine Wlk.of (fun _ k => st1 _ k) ?_
  show Wlk p.tables e below (T1.setTop (mkF m 4 #[rv a, un] [(.long (2 : Int64))])) K
  refine Wlk.of (fun _ k => XS.lconst X1.here hx rfl (hb hby d11_4) k) ?_
  show Wlk p.tables e below (T1.setTop (mkF m 5 #[rv a, un] [(.long (0 : Int64)), (.long (2 : Int64))])) K
  refine Wlk.of (fun _ k => XS.lcmp X1.here hx rfl (hb hby d11_5) rfl k) ?_
  show Wlk p.tables e below (T1.setTop (mkF m 6 #[rv a, un] [(.int (lcmpW (2 : Int64) (0 : Int64)))])) K
  refine Wlk.of (fun _ k => XS.ifYes X1.here hx rfl (pc0 := 6) (pc' := 11) rfl (hb hby d11_6) rfl ((if0 _ _).trans (feq (fun q => (by decide : ¬ ((2 : Int64) = (0 : Int64))) ((lw_eq _ _).mp q))).2) (by decide) (by decide) k) ?_
  show Wlk p.tables e below (T1.setTop (mkF m 11 #[rv a, un] [])) K
  refine Wlk.of (fun _ k => XS.aloadN X1.here hx rfl (hb hby d11_11) rfl rfl k) ?_
  show Wlk p.tables e below (T1.setTop (mkF m 12 #[rv a, un] [(.ref a)])) K
  obtain ⟨T2, X2, e2, st2⟩ := getF X1 hx hZ hown (host := "") (Or.inl (wd hw 69 rfl)) Via.refl e1 F_a_bigSum (g := (mkF m 12 #[rv a, un] [(.ref a)])) rfl rfl (hb hby d11_12)
  refine Wlk.of (fun _ k => st2 _ k) ?_
  show Wlk p.tables e below (T2.setTop (mkF m 15 #[rv a, un] [.null])) K
  refine Wlk.of (fun _ k => XT.ifnonnullNo X2.here hx rfl (hb hby d11_15) rfl k) ?_
  show Wlk p.tables e below (T2.setTop (mkF m 18 #[rv a, un] [])) K
  refine Wlk.of (fun _ k => XS.aloadN X2.here hx rfl (hb hby d11_18) rfl rfl k) ?_
  show Wlk p.tables e below (T2.setTop (mkF m 19 #[rv a, un] [(.ref a)])) K
  obtain ⟨T3, X3, e3, st3⟩ := getF X2 hx hZ hown (host := "") (Or.inl (wd hw 71 rfl)) Via.refl e2 F_a_sum (g := (mkF m 19 #[rv a, un] [(.ref a)])) rfl rfl (hb hby d11_19)
  refine Wlk.of (fun _ k => st3 _ k) ?_
  show Wlk p.tables e below (T3.setTop (mkF m 22 #[rv a, un] [(.long (3 : Int64))])) K
  obtain ⟨v4, T4, L4, X4, q4, st4⟩ := Ctr.static (c_ab3 l Z a0 hw  h0 n0 (Nat.le_trans Z0 K0.1) ) X3 hx hH e3 hown (wd hw 85 rfl) (wd hw 86 rfl) (wd hw 75 rfl) (wd hw 87 rfl) (by decide) pd_144 (g := (mkF m 22 #[rv a, un] [(.long (3 : Int64))])) rfl (by rw [hml]; rfl) (argsL := [(.long (3 : Int64))]) (rest := []) rfl rfl rfl (W := 0) (by show 2 * 0 + _ ≤ _; exact Nat.le_of_eq rfl) (by decide) (by decide) (hb hby d11_22) (by decide) (by decide)
  obtain ⟨rfl, N4q, hh4⟩ := q4
  have N5 := Fr.app N0 N4q
  refine Wlk.of (fun _ k => st4 _ k) ?_
  show Wlk p.tables e below (T4.setTop (mkF m 25 #[rv a, un] [(.long (3 : Int64))])) K
  refine Wlk.of (fun _ k => X4.ldc2Long hx hown (mvT hZ (wd hw 88 rfl)) (g := (mkF m 25 #[rv a, un] [(.long (3 : Int64))])) rfl (hb hby d11_25) _ k) ?_
  show Wlk p.tables e below (T4.setTop (mkF m 28 #[rv a, un] [(.long (9007199254740992 : Int64)), (.long (3 : Int64))])) K
  refine Wlk.of (fun _ k => XS.lcmp X4.here hx rfl (hb hby d11_28) rfl k) ?_
  show Wlk p.tables e below (T4.setTop (mkF m 29 #[rv a, un] [(.int (lcmpW (3 : Int64) (9007199254740992 : Int64)))])) K
  refine Wlk.of (fun _ k => XS.ifNo X4.here hx rfl (hb hby d11_29) rfl ((if0 _ _).trans (tlt ((lw_lt _ _).mpr (by decide : (3 : Int64) < (9007199254740992 : Int64)))).2.1) k) ?_
  show Wlk p.tables e below (T4.setTop (mkF m 32 #[rv a, un] [])) K
  refine Wlk.of (fun _ k => XS.aloadN X4.here hx rfl (hb hby d11_32) rfl rfl k) ?_
  show Wlk p.tables e below (T4.setTop (mkF m 33 #[rv a, un] [(.ref a)])) K
  obtain ⟨T6, X6, e6, st6⟩ := getF X4 hx hZ hown (host := "") (Or.inl (wd hw 67 rfl)) Via.refl hh4 F_a_count (g := (mkF m 33 #[rv a, un] [(.ref a)])) rfl rfl (hb hby d11_33)
  refine Wlk.of (fun _ k => st6 _ k) ?_
  show Wlk p.tables e below (T6.setTop (mkF m 36 #[rv a, un] [(.long (2 : Int64))])) K
  refine Wlk.of (fun _ k => X6.ldc2Long hx hown (mvT hZ (wd hw 88 rfl)) (g := (mkF m 36 #[rv a, un] [(.long (2 : Int64))])) rfl (hb hby d11_36) _ k) ?_
  show Wlk p.tables e below (T6.setTop (mkF m 39 #[rv a, un] [(.long (9007199254740992 : Int64)), (.long (2 : Int64))])) K
  refine Wlk.of (fun _ k => XS.lcmp X6.here hx rfl (hb hby d11_39) rfl k) ?_
  show Wlk p.tables e below (T6.setTop (mkF m 40 #[rv a, un] [(.int (lcmpW (2 : Int64) (9007199254740992 : Int64)))])) K
  refine Wlk.of (fun _ k => XS.ifNo X6.here hx rfl (hb hby d11_40) rfl ((if0 _ _).trans (tlt ((lw_lt _ _).mpr (by decide : (2 : Int64) < (9007199254740992 : Int64)))).2.1) k) ?_
  show Wlk p.tables e below (T6.setTop (mkF m 43 #[rv a, un] [])) K
  refine Wlk.of (fun _ k => XS.aloadN X6.here hx rfl (hb hby d11_43) rfl rfl k) ?_
  show Wlk p.tables e below (T6.setTop (mkF m 44 #[rv a, un] [(.ref a)])) K
  obtain ⟨T7, X7, e7, st7⟩ := getF X6 hx hZ hown (host := "") (Or.inl (wd hw 71 rfl)) Via.refl e6 F_a_sum (g := (mkF m 44 #[rv a, un] [(.ref a)])) rfl rfl (hb hby d11_44)
  refine Wlk.of (fun _ k => st7 _ k) ?_
  show Wlk p.tables e below (T7.setTop (mkF m 47 #[rv a, un] [(.long (3 : Int64))])) K
  refine Wlk.of (fun _ k => XS.l2dS X7.here hx rfl (hb hby d11_47) rfl rfl k) ?_
  show Wlk p.tables e below (T7.setTop (mkF m 48 #[rv a, un] [(.double (FP.l2d (3 : Int64)))])) K
  refine Wlk.of (fun _ k => XS.aloadN X7.here hx rfl (hb hby d11_48) rfl rfl k) ?_
  show Wlk p.tables e below (T7.setTop (mkF m 49 #[rv a, un] [(.ref a), (.double (FP.l2d (3 : Int64)))])) K
  obtain ⟨T8, X8, e8, st8⟩ := getF X7 hx hZ hown (host := "") (Or.inl (wd hw 67 rfl)) Via.refl e7 F_a_count (g := (mkF m 49 #[rv a, un] [(.ref a), (.double (FP.l2d (3 : Int64)))])) rfl rfl (hb hby d11_49)
  refine Wlk.of (fun _ k => st8 _ k) ?_
  show Wlk p.tables e below (T8.setTop (mkF m 52 #[rv a, un] [(.long (2 : Int64)), (.double (FP.l2d (3 : Int64)))])) K
  refine Wlk.of (fun _ k => XS.l2dS X8.here hx rfl (hb hby d11_52) rfl rfl k) ?_
  show Wlk p.tables e below (T8.setTop (mkF m 53 #[rv a, un] [(.double (FP.l2d (2 : Int64))), (.double (FP.l2d (3 : Int64)))])) K
  refine Wlk.of (fun _ k => XS.ddivS X8.here hx rfl (hb hby d11_53) rfl (by unfold Fl.NoNaN64; decide +kernel) rfl k) ?_
  show Wlk p.tables e below (T8.setTop (mkF m 54 #[rv a, un] [(.double (FP.ddiv (FP.l2d (3 : Int64)) (FP.l2d (2 : Int64))))])) K
  obtain ⟨v9, T9, L9, X9, q9, st9⟩ := Ctr.static (c_dvo l Z a0 hw ((FP.ddiv (FP.l2d (3 : Int64)) (FP.l2d (2 : Int64)))) h0 n0 (Nat.le_trans Z0 K0.1) ) X8 hx hH e8 hown (wd hw 89 rfl) (wd hw 90 rfl) (wd hw 91 rfl) (wd hw 92 rfl) (by decide) pd_145 (g := (mkF m 54 #[rv a, un] [(.double (FP.ddiv (FP.l2d (3 : Int64)) (FP.l2d (2 : Int64))))])) rfl (by rw [hml]; rfl) (argsL := [(.double (FP.ddiv (FP.l2d (3 : Int64)) (FP.l2d (2 : Int64))))]) (rest := []) rfl rfl rfl (W := 0) (by show 2 * 0 + _ ≤ _; exact Nat.le_of_eq rfl) (by decide) (by decide) (hb hby d11_54) (by decide) (by decide)
  obtain ⟨r_9, rfl, N9q, K9q, p9_0, p9_1, p9_2⟩ := q9
  have N10 := Fr.app N5 N9q
  refine Wlk.of (fun _ k => st9 _ k) ?_
  have ne11 : a ≠ r_9 := Nat.ne_of_lt (Nat.lt_of_lt_of_le E_a.lt p9_0)
  have sz_r_9 : h0.size ≤ r_9 := Nat.le_trans K0.1 p9_0
  have g_r_9 : n0 ≤ r_9 := Nat.le_trans Z0 sz_r_9
  have K12 : Keep h0 T9.heap [] := K0.trans K9q all0
  show Wlk p.tables e below (T9.setTop (mkF m 57 #[rv a, un] [(.ref r_9)])) K
  refine hK (some (.ref r_9)) X9 (fun q => by cases q) (fun fs hr => retOut X9 hx hret rfl (Or.inr (Or.inr (Or.inr (Or.inr ⟨rfl, rfl, rfl⟩)))) (hb hby d11_57) hr) ?_ (by decide) (by decide)
  skip
  exact ⟨r_9, rfl, N10, K12, sz_r_9, p9_1, p9_2⟩
theorem ef_c_sr3 (m : MethodId) (a : Addr) : entryFrame m #[(.ref a)] 1 = mkF m 0 #[rv a] [] := by first | (simp [entryFrame, mkF, argsToLocals, Value.category]; done) | rfl
def Q_c_sr3 (Z : State) (a : Addr) (ca : Addr) (vsC : (List Value)) (lg3 : Addr) (h0 : Heap) (n0 : Nat) (v : Option Value) (h : Heap) (L : List Loc) : Prop := v = (some (.ref lg3)) ∧ Fr n0 L ∧ h = h0
set_option maxRecDepth 65536 in
set_option maxHeartbeats 40000000 in
theorem c_sr3 (l : Launch) (Z : State) (a0 : Array Value) (hw : ∀ d ∈ tables_1, d.before a0 Z = true) (a : Addr) (ca : Addr) (vsC : (List Value)) (lg3 : Addr) (h0 : Heap) (n0 : Nat) (Z0 : n0 ≤ h0.size) (F_a_sum : Fld Z h0 a "com/example/gapweave/gapweave/AggregateFunction$IntegerSum" "sum" "J" (.long (3 : Int64))) (F_a_any : Fld Z h0 a "com/example/gapweave/gapweave/AggregateFunction$IntegerSum" "any" "Z" (.int (1 : Int32))) (S_cache : Sta Z h0 "java/lang/Long$LongCache" "cache" "[Ljava/lang/Long;" (.ref ca)) (A_ca : Arl Z h0 ca (.object "java/lang/Long") vsC) (hC3 : vsC[131]? = some (.ref lg3)) :
    Ctr l Z h0 (⟨"com/example/gapweave/gapweave/AggregateFunction$IntegerSum", "result", "()Ljava/lang/Object;"⟩ : MethodName) prog_10_method_3_code 1 (some (.object "java/lang/Object")) [] ({ frames := 1, cells := 0, slots := 0, locals := 14 } : Room) #[(.ref a)] (Q_c_sr3 Z a ca vsC lg3 h0 n0) := by
  refine Ctr.make (plainFor_of_name pn_98) fun p e s m below meth c s₁ K hret hml hx hby hown hnm hnamed hH hZ X0 e0 hK => ?_
  have hown : s.vm.findClass "com/example/gapweave/gapweave/AggregateFunction$IntegerSum" = some m.cls := hown
  have N0 := Fr.nil n0
  have K0 : Keep h0 h0 [] := Keep.refl _ _
  refine Wlk.of (fun _ k => castTop (ef_c_sr3 m a) k) ?_
  show Wlk p.tables e below (s₁.setTop (mkF m 0 #[rv a] [])) K
  refine Wlk.of (fun _ k => XS.aloadN X0.here hx rfl (hb hby d36_0) rfl rfl k) ?_
  show Wlk p.tables e below (s₁.setTop (mkF m 1 #[rv a] [(.ref a)])) K
  obtain ⟨T1, X1, e1, st1⟩ := getF X0 hx hZ hown (host := "") (Or.inl (wd hw 274 rfl)) Via.refl e0 F_a_any (g := (mkF m 1 #[rv a] [(.ref a)])) rfl rfl (hb hby d36_1)
  refine Wlk.of (fun _ k => st1 _ k) ?_
  show Wlk p.tables e below (T1.setTop (mkF m 4 #[rv a] [(.int (1 : Int32))])) K
  refine Wlk.of (fun _ k => XS.ifNo X1.here hx rfl (hb hby d36_4) rfl ((if0 _ _).trans (feq (by decide : ¬ ((1 : Int32) = (0 : Int32)))).1) k) ?_
  show Wlk p.tables e below (T1.setTop (mkF m 7 #[rv a] [])) K
  refine Wlk.of (fun _ k => XS.aloadN X1.here hx rfl (hb hby d36_7) rfl rfl k) ?_
  show Wlk p.tables e below (T1.setTop (mkF m 8 #[rv a] [(.ref a)])) K
  obtain ⟨T2, X2, e2, st2⟩ := getF X1 hx hZ hown (host := "") (Or.inl (wd hw 269 rfl)) Via.refl e1 F_a_sum (g := (mkF m 8 #[rv a] [(.ref a)])) rfl rfl (hb hby d36_8)
  refine Wlk.of (fun _ k => st2 _ k) ?_
  show Wlk p.tables e below (T2.setTop (mkF m 11 #[rv a] [(.long (3 : Int64))])) K
  obtain ⟨v3, T3, L3, X3, q3, st3⟩ := Ctr.static (c_vo3 l Z a0 hw ca vsC lg3 h0 n0 (Nat.le_trans Z0 K0.1) S_cache A_ca hC3) X2 hx hH e2 hown (wd hw 281 rfl) (wd hw 9 rfl) (wd hw 10 rfl) (wd hw 11 rfl) (by decide) pd_174 (g := (mkF m 11 #[rv a] [(.long (3 : Int64))])) rfl (by rw [hml]; rfl) (argsL := [(.long (3 : Int64))]) (rest := []) rfl rfl rfl (W := 0) (by show 2 * 0 + _ ≤ _; exact Nat.le_of_eq rfl) (by decide) (by decide) (hb hby d36_11) (by decide) (by decide)
  obtain ⟨rfl, N3q, hh3⟩ := q3
  have N4 := Fr.app N0 N3q
  refine Wlk.of (fun _ k => st3 _ k) ?_
  show Wlk p.tables e below (T3.setTop (mkF m 14 #[rv a] [(.ref lg3)])) K
  refine Wlk.of (fun _ k => XS.goto X3.here hx rfl (pc0 := 14) (pc' := 18) rfl (hb hby d36_14) (by decide) (by decide) k) ?_
  show Wlk p.tables e below (T3.setTop (mkF m 18 #[rv a] [(.ref lg3)])) K
  refine hK (some (.ref lg3)) X3 (fun q => by cases q) (fun fs hr => retOut X3 hx hret rfl (Or.inr (Or.inr (Or.inr (Or.inr ⟨rfl, rfl, rfl⟩)))) (hb hby d36_18) hr) ?_ (by decide) (by decide)
  rw [show T3.heap = h0 from hh3]
  exact ⟨rfl, N4, rfl⟩
theorem d32_0 : decode prog_4_method_2_code 0 = .ok (.aload_n 0, 1) := by decide +kernel
theorem d32_1 : decode prog_4_method_2_code 1 = .ok (.dup, 1) := by decide +kernel
theorem d32_2 : decode prog_4_method_2_code 2 = .ok (.getfield 7, 3) := by decide +kernel
theorem d32_5 : decode prog_4_method_2_code 5 = .ok (.lconst 1, 1) := by decide +kernel
theorem d32_6 : decode prog_4_method_2_code 6 = .ok (.ladd, 1) := by decide +kernel
theorem d32_7 : decode prog_4_method_2_code 7 = .ok (.putfield 7, 3) := by decide +kernel
theorem d32_10 : decode prog_4_method_2_code 10 = .ok (.return_, 1) := by decide +kernel
theorem ef_c_ca0 (m : MethodId) (a : Addr) (u : Addr) (w : Addr) : entryFrame m #[(.ref a), (.ref u), (.ref w)] 3 = mkF m 0 #[rv a, rv u, rv w] [] := by first | (simp [entryFrame, mkF, argsToLocals, Value.category]; done) | rfl
def Q_c_ca0 (Z : State) (a : Addr) (u : Addr) (w : Addr) (h0 : Heap) (n0 : Nat) (v : Option Value) (h : Heap) (L : List Loc) : Prop := v = none ∧ Fr n0 L ∧ Keep h0 h [a] ∧ Fld Z h a "com/example/gapweave/gapweave/AggregateFunction$Count" "count" "J" (.long (1 : Int64))
set_option maxRecDepth 65536 in
set_option maxHeartbeats 40000000 in
theorem c_ca0 (l : Launch) (Z : State) (a0 : Array Value) (hw : ∀ d ∈ tables_1, d.before a0 Z = true) (a : Addr) (u : Addr) (w : Addr) (h0 : Heap) (n0 : Nat) (Z0 : n0 ≤ h0.size) (E_a : Exa Z h0 a "com/example/gapweave/gapweave/AggregateFunction$Count") (F_a_count : Fld Z h0 a "com/example/gapweave/gapweave/AggregateFunction$Count" "count" "J" (.long (0 : Int64))) (g_a : n0 ≤ a) :
    Ctr l Z h0 (⟨"com/example/gapweave/gapweave/AggregateFunction$Count", "add", "(Ljava/lang/Object;Ljava/lang/Object;)V"⟩ : MethodName) prog_4_method_2_code 3 none [] ({ frames := 0, cells := 0, slots := 0, locals := 0 } : Room) #[(.ref a), (.ref u), (.ref w)] (Q_c_ca0 Z a u w h0 n0) := by
  refine Ctr.make (plainFor_of_name pn_102) fun p e s m below meth c s₁ K hret hml hx hby hown hnm hnamed hH hZ X0 e0 hK => ?_
  have hown : s.vm.findClass "com/example/gapweave/gapweave/AggregateFunction$Count" = some m.cls := hown
  have N0 := Fr.nil n0
  have K0 : Keep h0 h0 [a] := Keep.refl _ _
  refine Wlk.of (fun _ k => castTop (ef_c_ca0 m a u w) k) ?_
  show Wlk p.tables e below (s₁.setTop (mkF m 0 #[rv a, rv u, rv w] [])) K
  refine Wlk.of (fun _ k => XS.aloadN X0.here hx rfl (hb hby d32_0) rfl rfl k) ?_
  show Wlk p.tables e below (s₁.setTop (mkF m 1 #[rv a, rv u, rv w] [(.ref a)])) K
  refine Wlk.of (fun _ k => XS.dup X0.here hx rfl (hb hby d32_1) rfl rfl k) ?_
  show Wlk p.tables e below (s₁.setTop (mkF m 2 #[rv a, rv u, rv w] [(.ref a), (.ref a)])) K
  obtain ⟨T1, X1, e1, st1⟩ := getF X0 hx hZ hown (host := "") (Or.inl (wd hw 246 rfl)) Via.refl e0 F_a_count (g := (mkF m 2 #[rv a, rv u, rv w] [(.ref a), (.ref a)])) rfl rfl (hb hby d32_2)
  refine Wlk.of (fun _ k => st1 _ k) ?_
  show Wlk p.tables e below (T1.setTop (mkF m 5 #[rv a, rv u, rv w] [(.long (0 : Int64)), (.ref a)])) K
  refine Wlk.of (fun _ k => XS.lconst X1.here hx rfl (hb hby d32_5) k) ?_
  show Wlk p.tables e below (T1.setTop (mkF m 6 #[rv a, rv u, rv w] [(.long (1 : Int64)), (.long (0 : Int64)), (.ref a)])) K
  refine Wlk.of (fun _ k => XS.ladd X1.here hx rfl (hb hby d32_6) rfl k) ?_
  show Wlk p.tables e below (T1.setTop (mkF m 7 #[rv a, rv u, rv w] [(.long (1 : Int64)), (.ref a)])) K
  obtain ⟨T2, h2, X2, e2, W2, st2⟩ := putF X1 hx hZ hown (host := "") (Or.inl (wd hw 246 rfl)) Via.refl e1 F_a_count E_a (Or.inl (wd hw 247 rfl)) (wd hw 234 rfl) (ty := .long) (by decide) rfl rfl (g := (mkF m 7 #[rv a, rv u, rv w] [(.long (1 : Int64)), (.ref a)])) rfl rfl (hb hby d32_7)
  have Fw2 := F_a_count.same W2
  refine Wlk.of (fun _ k => st2 _ k) ?_
  have K3 : Keep h0 h2 [a] := K0.wr W2 (Or.inl (List.mem_of_getElem? (i := 0) rfl))
  have N4 := Fr.snoc X2 N0 g_a
  show Wlk p.tables e below (T2.setTop (mkF m 10 #[rv a, rv u, rv w] [])) K
  refine hK none X2 (fun q => rfl) (fun fs hr => X2.returnOut hx hret (hb hby d32_10) hr) ?_ (by decide) (by decide)
  rw [show T2.heap = h2 from e2]
  exact ⟨rfl, N4, K3, Fw2⟩
theorem ef_c_ca1 (m : MethodId) (a : Addr) (u : Addr) (w : Addr) : entryFrame m #[(.ref a), (.ref u), (.ref w)] 3 = mkF m 0 #[rv a, rv u, rv w] [] := by first | (simp [entryFrame, mkF, argsToLocals, Value.category]; done) | rfl
def Q_c_ca1 (Z : State) (a : Addr) (u : Addr) (w : Addr) (h0 : Heap) (n0 : Nat) (v : Option Value) (h : Heap) (L : List Loc) : Prop := v = none ∧ Fr n0 L ∧ Keep h0 h [a] ∧ Fld Z h a "com/example/gapweave/gapweave/AggregateFunction$Count" "count" "J" (.long (2 : Int64))
set_option maxRecDepth 65536 in
set_option maxHeartbeats 40000000 in
theorem c_ca1 (l : Launch) (Z : State) (a0 : Array Value) (hw : ∀ d ∈ tables_1, d.before a0 Z = true) (a : Addr) (u : Addr) (w : Addr) (h0 : Heap) (n0 : Nat) (Z0 : n0 ≤ h0.size) (E_a : Exa Z h0 a "com/example/gapweave/gapweave/AggregateFunction$Count") (F_a_count : Fld Z h0 a "com/example/gapweave/gapweave/AggregateFunction$Count" "count" "J" (.long (1 : Int64))) (g_a : n0 ≤ a) :
    Ctr l Z h0 (⟨"com/example/gapweave/gapweave/AggregateFunction$Count", "add", "(Ljava/lang/Object;Ljava/lang/Object;)V"⟩ : MethodName) prog_4_method_2_code 3 none [] ({ frames := 0, cells := 0, slots := 0, locals := 0 } : Room) #[(.ref a), (.ref u), (.ref w)] (Q_c_ca1 Z a u w h0 n0) := by
  refine Ctr.make (plainFor_of_name pn_102) fun p e s m below meth c s₁ K hret hml hx hby hown hnm hnamed hH hZ X0 e0 hK => ?_
  have hown : s.vm.findClass "com/example/gapweave/gapweave/AggregateFunction$Count" = some m.cls := hown
  have N0 := Fr.nil n0
  have K0 : Keep h0 h0 [a] := Keep.refl _ _
  refine Wlk.of (fun _ k => castTop (ef_c_ca1 m a u w) k) ?_
  show Wlk p.tables e below (s₁.setTop (mkF m 0 #[rv a, rv u, rv w] [])) K
  refine Wlk.of (fun _ k => XS.aloadN X0.here hx rfl (hb hby d32_0) rfl rfl k) ?_
  show Wlk p.tables e below (s₁.setTop (mkF m 1 #[rv a, rv u, rv w] [(.ref a)])) K
  refine Wlk.of (fun _ k => XS.dup X0.here hx rfl (hb hby d32_1) rfl rfl k) ?_
  show Wlk p.tables e below (s₁.setTop (mkF m 2 #[rv a, rv u, rv w] [(.ref a), (.ref a)])) K
  obtain ⟨T1, X1, e1, st1⟩ := getF X0 hx hZ hown (host := "") (Or.inl (wd hw 246 rfl)) Via.refl e0 F_a_count (g := (mkF m 2 #[rv a, rv u, rv w] [(.ref a), (.ref a)])) rfl rfl (hb hby d32_2)
  refine Wlk.of (fun _ k => st1 _ k) ?_
  show Wlk p.tables e below (T1.setTop (mkF m 5 #[rv a, rv u, rv w] [(.long (1 : Int64)), (.ref a)])) K
  refine Wlk.of (fun _ k => XS.lconst X1.here hx rfl (hb hby d32_5) k) ?_
  show Wlk p.tables e below (T1.setTop (mkF m 6 #[rv a, rv u, rv w] [(.long (1 : Int64)), (.long (1 : Int64)), (.ref a)])) K
  refine Wlk.of (fun _ k => XS.ladd X1.here hx rfl (hb hby d32_6) rfl k) ?_
  show Wlk p.tables e below (T1.setTop (mkF m 7 #[rv a, rv u, rv w] [(.long (2 : Int64)), (.ref a)])) K
  obtain ⟨T2, h2, X2, e2, W2, st2⟩ := putF X1 hx hZ hown (host := "") (Or.inl (wd hw 246 rfl)) Via.refl e1 F_a_count E_a (Or.inl (wd hw 247 rfl)) (wd hw 234 rfl) (ty := .long) (by decide) rfl rfl (g := (mkF m 7 #[rv a, rv u, rv w] [(.long (2 : Int64)), (.ref a)])) rfl rfl (hb hby d32_7)
  have Fw2 := F_a_count.same W2
  refine Wlk.of (fun _ k => st2 _ k) ?_
  have K3 : Keep h0 h2 [a] := K0.wr W2 (Or.inl (List.mem_of_getElem? (i := 0) rfl))
  have N4 := Fr.snoc X2 N0 g_a
  show Wlk p.tables e below (T2.setTop (mkF m 10 #[rv a, rv u, rv w] [])) K
  refine hK none X2 (fun q => rfl) (fun fs hr => X2.returnOut hx hret (hb hby d32_10) hr) ?_ (by decide) (by decide)
  rw [show T2.heap = h2 from e2]
  exact ⟨rfl, N4, K3, Fw2⟩
theorem d33_0 : decode prog_4_method_3_code 0 = .ok (.aload_n 0, 1) := by decide +kernel
theorem d33_1 : decode prog_4_method_3_code 1 = .ok (.getfield 7, 3) := by decide +kernel
theorem d33_4 : decode prog_4_method_3_code 4 = .ok (.invokestatic 13, 3) := by decide +kernel
theorem d33_7 : decode prog_4_method_3_code 7 = .ok (.areturn, 1) := by decide +kernel
theorem ef_c_cr (m : MethodId) (a : Addr) : entryFrame m #[(.ref a)] 1 = mkF m 0 #[rv a] [] := by first | (simp [entryFrame, mkF, argsToLocals, Value.category]; done) | rfl
def Q_c_cr (Z : State) (a : Addr) (ca : Addr) (vsC : (List Value)) (lg2 : Addr) (h0 : Heap) (n0 : Nat) (v : Option Value) (h : Heap) (L : List Loc) : Prop := v = (some (.ref lg2)) ∧ Fr n0 L ∧ h = h0
set_option maxRecDepth 65536 in
set_option maxHeartbeats 40000000 in
theorem c_cr (l : Launch) (Z : State) (a0 : Array Value) (hw : ∀ d ∈ tables_1, d.before a0 Z = true) (a : Addr) (ca : Addr) (vsC : (List Value)) (lg2 : Addr) (h0 : Heap) (n0 : Nat) (Z0 : n0 ≤ h0.size) (F_a_count : Fld Z h0 a "com/example/gapweave/gapweave/AggregateFunction$Count" "count" "J" (.long (2 : Int64))) (S_cache : Sta Z h0 "java/lang/Long$LongCache" "cache" "[Ljava/lang/Long;" (.ref ca)) (A_ca : Arl Z h0 ca (.object "java/lang/Long") vsC) (hC2 : vsC[130]? = some (.ref lg2)) :
    Ctr l Z h0 (⟨"com/example/gapweave/gapweave/AggregateFunction$Count", "result", "()Ljava/lang/Object;"⟩ : MethodName) prog_4_method_3_code 1 (some (.object "java/lang/Object")) [] ({ frames := 1, cells := 0, slots := 0, locals := 14 } : Room) #[(.ref a)] (Q_c_cr Z a ca vsC lg2 h0 n0) := by
  refine Ctr.make (plainFor_of_name pn_102) fun p e s m below meth c s₁ K hret hml hx hby hown hnm hnamed hH hZ X0 e0 hK => ?_
  have hown : s.vm.findClass "com/example/gapweave/gapweave/AggregateFunction$Count" = some m.cls := hown
  have N0 := Fr.nil n0
  have K0 : Keep h0 h0 [] := Keep.refl _ _
  refine Wlk.of (fun _ k => castTop (ef_c_cr m a) k) ?_
  show Wlk p.tables e below (s₁.setTop (mkF m 0 #[rv a] [])) K
  refine Wlk.of (fun _ k => XS.aloadN X0.here hx rfl (hb hby d33_0) rfl rfl k) ?_
  show Wlk p.tables e below (s₁.setTop (mkF m 1 #[rv a] [(.ref a)])) K
  obtain ⟨T1, X1, e1, st1⟩ := getF X0 hx hZ hown (host := "") (Or.inl (wd hw 246 rfl)) Via.refl e0 F_a_count (g := (mkF m 1 #[rv a] [(.ref a)])) rfl rfl (hb hby d33_1)
  refine Wlk.of (fun _ k => st1 _ k) ?_
  show Wlk p.tables e below (T1.setTop (mkF m 4 #[rv a] [(.long (2 : Int64))])) K
  obtain ⟨v2, T2, L2, X2, q2, st2⟩ := Ctr.static (c_vo2 l Z a0 hw ca vsC lg2 h0 n0 (Nat.le_trans Z0 K0.1) S_cache A_ca hC2) X1 hx hH e1 hown (wd hw 253 rfl) (wd hw 9 rfl) (wd hw 10 rfl) (wd hw 11 rfl) (by decide) pd_174 (g := (mkF m 4 #[rv a] [(.long (2 : Int64))])) rfl (by rw [hml]; rfl) (argsL := [(.long (2 : Int64))]) (rest := []) rfl rfl rfl (W := 0) (by show 2 * 0 + _ ≤ _; exact Nat.le_of_eq rfl) (by decide) (by decide) (hb hby d33_4) (by decide) (by decide)
  obtain ⟨rfl, N2q, hh2⟩ := q2
  have N3 := Fr.app N0 N2q
  refine Wlk.of (fun _ k => st2 _ k) ?_
  show Wlk p.tables e below (T2.setTop (mkF m 7 #[rv a] [(.ref lg2)])) K
  refine hK (some (.ref lg2)) X2 (fun q => by cases q) (fun fs hr => retOut X2 hx hret rfl (Or.inr (Or.inr (Or.inr (Or.inr ⟨rfl, rfl, rfl⟩)))) (hb hby d33_7) hr) ?_ (by decide) (by decide)
  rw [show T2.heap = h0 from hh2]
  exact ⟨rfl, N3, rfl⟩
theorem d26_0 : decode prog_8_method_2_code 0 = .ok (.aload_n 0, 1) := by decide +kernel
theorem d26_1 : decode prog_8_method_2_code 1 = .ok (.getfield 7, 3) := by decide +kernel
theorem d26_4 : decode prog_8_method_2_code 4 = .ok (.ifnonnull 8, 3) := by decide +kernel
theorem d26_7 : decode prog_8_method_2_code 7 = .ok (.aload_n 0, 1) := by decide +kernel
theorem d26_8 : decode prog_8_method_2_code 8 = .ok (.aload_n 1, 1) := by decide +kernel
theorem d26_9 : decode prog_8_method_2_code 9 = .ok (.putfield 7, 3) := by decide +kernel
theorem d26_12 : decode prog_8_method_2_code 12 = .ok (.return_, 1) := by decide +kernel
theorem ef_c_fa0 (m : MethodId) (a : Addr) (u : Addr) (w : Addr) : entryFrame m #[(.ref a), (.ref u), (.ref w)] 3 = mkF m 0 #[rv a, rv u, rv w] [] := by first | (simp [entryFrame, mkF, argsToLocals, Value.category]; done) | rfl
def Q_c_fa0 (Z : State) (a : Addr) (u : Addr) (w : Addr) (h0 : Heap) (n0 : Nat) (v : Option Value) (h : Heap) (L : List Loc) : Prop := v = none ∧ Fr n0 L ∧ Keep h0 h [a] ∧ Fld Z h a "com/example/gapweave/gapweave/AggregateFunction$First" "first" "Ljava/lang/Object;" (.ref u)
set_option maxRecDepth 65536 in
set_option maxHeartbeats 40000000 in
theorem c_fa0 (l : Launch) (Z : State) (a0 : Array Value) (hw : ∀ d ∈ tables_1, d.before a0 Z = true) (a : Addr) (u : Addr) (w : Addr) (h0 : Heap) (n0 : Nat) (Z0 : n0 ≤ h0.size) (E_a : Exa Z h0 a "com/example/gapweave/gapweave/AggregateFunction$First") (F_a_first : Fld Z h0 a "com/example/gapweave/gapweave/AggregateFunction$First" "first" "Ljava/lang/Object;" .null) (g_a : n0 ≤ a) :
    Ctr l Z h0 (⟨"com/example/gapweave/gapweave/AggregateFunction$First", "add", "(Ljava/lang/Object;Ljava/lang/Object;)V"⟩ : MethodName) prog_8_method_2_code 3 none [] ({ frames := 0, cells := 0, slots := 0, locals := 0 } : Room) #[(.ref a), (.ref u), (.ref w)] (Q_c_fa0 Z a u w h0 n0) := by
  refine Ctr.make (plainFor_of_name pn_106) fun p e s m below meth c s₁ K hret hml hx hby hown hnm hnamed hH hZ X0 e0 hK => ?_
  have hown : s.vm.findClass "com/example/gapweave/gapweave/AggregateFunction$First" = some m.cls := hown
  have N0 := Fr.nil n0
  have K0 : Keep h0 h0 [a] := Keep.refl _ _
  refine Wlk.of (fun _ k => castTop (ef_c_fa0 m a u w) k) ?_
  show Wlk p.tables e below (s₁.setTop (mkF m 0 #[rv a, rv u, rv w] [])) K
  refine Wlk.of (fun _ k => XS.aloadN X0.here hx rfl (hb hby d26_0) rfl rfl k) ?_
  show Wlk p.tables e below (s₁.setTop (mkF m 1 #[rv a, rv u, rv w] [(.ref a)])) K
  obtain ⟨T1, X1, e1, st1⟩ := getF X0 hx hZ hown (host := "") (Or.inl (wd hw 202 rfl)) Via.refl e0 F_a_first (g := (mkF m 1 #[rv a, rv u, rv w] [(.ref a)])) rfl rfl (hb hby d26_1)
  refine Wlk.of (fun _ k => st1 _ k) ?_
  show Wlk p.tables e below (T1.setTop (mkF m 4 #[rv a, rv u, rv w] [.null])) K
  refine Wlk.of (fun _ k => XT.ifnonnullNo X1.here hx rfl (hb hby d26_4) rfl k) ?_
  show Wlk p.tables e below (T1.setTop (mkF m 7 #[rv a, rv u, rv w] [])) K
  refine Wlk.of (fun _ k => XS.aloadN X1.here hx rfl (hb hby d26_7) rfl rfl k) ?_
  show Wlk p.tables e below (T1.setTop (mkF m 8 #[rv a, rv u, rv w] [(.ref a)])) K
  refine Wlk.of (fun _ k => XS.aloadN X1.here hx rfl (hb hby d26_8) rfl rfl k) ?_
  show Wlk p.tables e below (T1.setTop (mkF m 9 #[rv a, rv u, rv w] [(.ref u), (.ref a)])) K
  obtain ⟨T2, h2, X2, e2, W2, st2⟩ := putF X1 hx hZ hown (host := "") (Or.inl (wd hw 202 rfl)) Via.refl e1 F_a_first E_a (Or.inl (wd hw 203 rfl)) (wd hw 190 rfl) (ty := (.object "java/lang/Object")) (by decide) rfl rfl (g := (mkF m 9 #[rv a, rv u, rv w] [(.ref u), (.ref a)])) rfl rfl (hb hby d26_9)
  have Fw2 := F_a_first.same W2
  refine Wlk.of (fun _ k => st2 _ k) ?_
  have K3 : Keep h0 h2 [a] := K0.wr W2 (Or.inl (List.mem_of_getElem? (i := 0) rfl))
  have N4 := Fr.snoc X2 N0 g_a
  show Wlk p.tables e below (T2.setTop (mkF m 12 #[rv a, rv u, rv w] [])) K
  refine hK none X2 (fun q => rfl) (fun fs hr => X2.returnOut hx hret (hb hby d26_12) hr) ?_ (by decide) (by decide)
  rw [show T2.heap = h2 from e2]
  exact ⟨rfl, N4, K3, Fw2⟩
theorem ef_c_fa1 (m : MethodId) (a : Addr) (u : Addr) (w : Addr) : entryFrame m #[(.ref a), (.ref u), (.ref w)] 3 = mkF m 0 #[rv a, rv u, rv w] [] := by first | (simp [entryFrame, mkF, argsToLocals, Value.category]; done) | rfl
def Q_c_fa1 (Z : State) (a : Addr) (u : Addr) (w : Addr) (y : Addr) (h0 : Heap) (n0 : Nat) (v : Option Value) (h : Heap) (L : List Loc) : Prop := v = none ∧ Fr n0 L ∧ h = h0
set_option maxRecDepth 65536 in
set_option maxHeartbeats 40000000 in
theorem c_fa1 (l : Launch) (Z : State) (a0 : Array Value) (hw : ∀ d ∈ tables_1, d.before a0 Z = true) (a : Addr) (u : Addr) (w : Addr) (y : Addr) (h0 : Heap) (n0 : Nat) (Z0 : n0 ≤ h0.size) (F_a_first : Fld Z h0 a "com/example/gapweave/gapweave/AggregateFunction$First" "first" "Ljava/lang/Object;" (.ref y)) :
    Ctr l Z h0 (⟨"com/example/gapweave/gapweave/AggregateFunction$First", "add", "(Ljava/lang/Object;Ljava/lang/Object;)V"⟩ : MethodName) prog_8_method_2_code 3 none [] ({ frames := 0, cells := 0, slots := 0, locals := 0 } : Room) #[(.ref a), (.ref u), (.ref w)] (Q_c_fa1 Z a u w y h0 n0) := by
  refine Ctr.make (plainFor_of_name pn_106) fun p e s m below meth c s₁ K hret hml hx hby hown hnm hnamed hH hZ X0 e0 hK => ?_
  have hown : s.vm.findClass "com/example/gapweave/gapweave/AggregateFunction$First" = some m.cls := hown
  have N0 := Fr.nil n0
  have K0 : Keep h0 h0 [] := Keep.refl _ _
  refine Wlk.of (fun _ k => castTop (ef_c_fa1 m a u w) k) ?_
  show Wlk p.tables e below (s₁.setTop (mkF m 0 #[rv a, rv u, rv w] [])) K
  refine Wlk.of (fun _ k => XS.aloadN X0.here hx rfl (hb hby d26_0) rfl rfl k) ?_
  show Wlk p.tables e below (s₁.setTop (mkF m 1 #[rv a, rv u, rv w] [(.ref a)])) K
  obtain ⟨T1, X1, e1, st1⟩ := getF X0 hx hZ hown (host := "") (Or.inl (wd hw 202 rfl)) Via.refl e0 F_a_first (g := (mkF m 1 #[rv a, rv u, rv w] [(.ref a)])) rfl rfl (hb hby d26_1)
  refine Wlk.of (fun _ k => st1 _ k) ?_
  show Wlk p.tables e below (T1.setTop (mkF m 4 #[rv a, rv u, rv w] [(.ref y)])) K
  refine Wlk.of (fun _ k => XT.ifnonnullYes X1.here hx rfl (pc0 := 4) (pc' := 12) rfl (hb hby d26_4) rfl (by decide) (by decide) k) ?_
  show Wlk p.tables e below (T1.setTop (mkF m 12 #[rv a, rv u, rv w] [])) K
  refine hK none X1 (fun q => rfl) (fun fs hr => X1.returnOut hx hret (hb hby d26_12) hr) ?_ (by decide) (by decide)
  rw [show T1.heap = h0 from e1]
  exact ⟨rfl, N0, rfl⟩
theorem d27_0 : decode prog_8_method_3_code 0 = .ok (.aload_n 0, 1) := by decide +kernel
theorem d27_1 : decode prog_8_method_3_code 1 = .ok (.getfield 7, 3) := by decide +kernel
theorem d27_4 : decode prog_8_method_3_code 4 = .ok (.areturn, 1) := by decide +kernel
theorem ef_c_fr (m : MethodId) (a : Addr) : entryFrame m #[(.ref a)] 1 = mkF m 0 #[rv a] [] := by first | (simp [entryFrame, mkF, argsToLocals, Value.category]; done) | rfl
def Q_c_fr (Z : State) (a : Addr) (y : Addr) (h0 : Heap) (n0 : Nat) (v : Option Value) (h : Heap) (L : List Loc) : Prop := v = (some (.ref y)) ∧ Fr n0 L ∧ h = h0
set_option maxRecDepth 65536 in
set_option maxHeartbeats 40000000 in
theorem c_fr (l : Launch) (Z : State) (a0 : Array Value) (hw : ∀ d ∈ tables_1, d.before a0 Z = true) (a : Addr) (y : Addr) (h0 : Heap) (n0 : Nat) (Z0 : n0 ≤ h0.size) (F_a_first : Fld Z h0 a "com/example/gapweave/gapweave/AggregateFunction$First" "first" "Ljava/lang/Object;" (.ref y)) :
    Ctr l Z h0 (⟨"com/example/gapweave/gapweave/AggregateFunction$First", "result", "()Ljava/lang/Object;"⟩ : MethodName) prog_8_method_3_code 1 (some (.object "java/lang/Object")) [] ({ frames := 0, cells := 0, slots := 0, locals := 0 } : Room) #[(.ref a)] (Q_c_fr Z a y h0 n0) := by
  refine Ctr.make (plainFor_of_name pn_106) fun p e s m below meth c s₁ K hret hml hx hby hown hnm hnamed hH hZ X0 e0 hK => ?_
  have hown : s.vm.findClass "com/example/gapweave/gapweave/AggregateFunction$First" = some m.cls := hown
  have N0 := Fr.nil n0
  have K0 : Keep h0 h0 [] := Keep.refl _ _
  refine Wlk.of (fun _ k => castTop (ef_c_fr m a) k) ?_
  show Wlk p.tables e below (s₁.setTop (mkF m 0 #[rv a] [])) K
  refine Wlk.of (fun _ k => XS.aloadN X0.here hx rfl (hb hby d27_0) rfl rfl k) ?_
  show Wlk p.tables e below (s₁.setTop (mkF m 1 #[rv a] [(.ref a)])) K
  obtain ⟨T1, X1, e1, st1⟩ := getF X0 hx hZ hown (host := "") (Or.inl (wd hw 202 rfl)) Via.refl e0 F_a_first (g := (mkF m 1 #[rv a] [(.ref a)])) rfl rfl (hb hby d27_1)
  refine Wlk.of (fun _ k => st1 _ k) ?_
  show Wlk p.tables e below (T1.setTop (mkF m 4 #[rv a] [(.ref y)])) K
  refine hK (some (.ref y)) X1 (fun q => by cases q) (fun fs hr => retOut X1 hx hret rfl (Or.inr (Or.inr (Or.inr (Or.inr ⟨rfl, rfl, rfl⟩)))) (hb hby d27_4) hr) ?_ (by decide) (by decide)
  rw [show T1.heap = h0 from e1]
  exact ⟨rfl, N0, rfl⟩
theorem d29_0 : decode prog_11_method_2_code 0 = .ok (.aload_n 0, 1) := by decide +kernel
theorem d29_1 : decode prog_11_method_2_code 1 = .ok (.aload_n 1, 1) := by decide +kernel
theorem d29_2 : decode prog_11_method_2_code 2 = .ok (.putfield 7, 3) := by decide +kernel
theorem d29_5 : decode prog_11_method_2_code 5 = .ok (.return_, 1) := by decide +kernel
theorem ef_c_lad0 (m : MethodId) (a : Addr) (u : Addr) (w : Addr) : entryFrame m #[(.ref a), (.ref u), (.ref w)] 3 = mkF m 0 #[rv a, rv u, rv w] [] := by first | (simp [entryFrame, mkF, argsToLocals, Value.category]; done) | rfl
def Q_c_lad0 (Z : State) (a : Addr) (u : Addr) (w : Addr) (h0 : Heap) (n0 : Nat) (v : Option Value) (h : Heap) (L : List Loc) : Prop := v = none ∧ Fr n0 L ∧ Keep h0 h [a] ∧ Fld Z h a "com/example/gapweave/gapweave/AggregateFunction$Last" "last" "Ljava/lang/Object;" (.ref u)
set_option maxRecDepth 65536 in
set_option maxHeartbeats 40000000 in
theorem c_lad0 (l : Launch) (Z : State) (a0 : Array Value) (hw : ∀ d ∈ tables_1, d.before a0 Z = true) (a : Addr) (u : Addr) (w : Addr) (h0 : Heap) (n0 : Nat) (Z0 : n0 ≤ h0.size) (E_a : Exa Z h0 a "com/example/gapweave/gapweave/AggregateFunction$Last") (F_a_last : Fld Z h0 a "com/example/gapweave/gapweave/AggregateFunction$Last" "last" "Ljava/lang/Object;" .null) (g_a : n0 ≤ a) :
    Ctr l Z h0 (⟨"com/example/gapweave/gapweave/AggregateFunction$Last", "add", "(Ljava/lang/Object;Ljava/lang/Object;)V"⟩ : MethodName) prog_11_method_2_code 3 none [] ({ frames := 0, cells := 0, slots := 0, locals := 0 } : Room) #[(.ref a), (.ref u), (.ref w)] (Q_c_lad0 Z a u w h0 n0) := by
  refine Ctr.make (plainFor_of_name pn_110) fun p e s m below meth c s₁ K hret hml hx hby hown hnm hnamed hH hZ X0 e0 hK => ?_
  have hown : s.vm.findClass "com/example/gapweave/gapweave/AggregateFunction$Last" = some m.cls := hown
  have N0 := Fr.nil n0
  have K0 : Keep h0 h0 [a] := Keep.refl _ _
  refine Wlk.of (fun _ k => castTop (ef_c_lad0 m a u w) k) ?_
  show Wlk p.tables e below (s₁.setTop (mkF m 0 #[rv a, rv u, rv w] [])) K
  refine Wlk.of (fun _ k => XS.aloadN X0.here hx rfl (hb hby d29_0) rfl rfl k) ?_
  show Wlk p.tables e below (s₁.setTop (mkF m 1 #[rv a, rv u, rv w] [(.ref a)])) K
  refine Wlk.of (fun _ k => XS.aloadN X0.here hx rfl (hb hby d29_1) rfl rfl k) ?_
  show Wlk p.tables e below (s₁.setTop (mkF m 2 #[rv a, rv u, rv w] [(.ref u), (.ref a)])) K
  obtain ⟨T1, h1, X1, e1, W1, st1⟩ := putF X0 hx hZ hown (host := "") (Or.inl (wd hw 224 rfl)) Via.refl e0 F_a_last E_a (Or.inl (wd hw 225 rfl)) (wd hw 212 rfl) (ty := (.object "java/lang/Object")) (by decide) rfl rfl (g := (mkF m 2 #[rv a, rv u, rv w] [(.ref u), (.ref a)])) rfl rfl (hb hby d29_2)
  have Fw1 := F_a_last.same W1
  refine Wlk.of (fun _ k => st1 _ k) ?_
  have K2 : Keep h0 h1 [a] := K0.wr W1 (Or.inl (List.mem_of_getElem? (i := 0) rfl))
  have N3 := Fr.snoc X1 N0 g_a
  show Wlk p.tables e below (T1.setTop (mkF m 5 #[rv a, rv u, rv w] [])) K
  refine hK none X1 (fun q => rfl) (fun fs hr => X1.returnOut hx hret (hb hby d29_5) hr) ?_ (by decide) (by decide)
  rw [show T1.heap = h1 from e1]
  exact ⟨rfl, N3, K2, Fw1⟩
theorem ef_c_lad1 (m : MethodId) (a : Addr) (u : Addr) (w : Addr) : entryFrame m #[(.ref a), (.ref u), (.ref w)] 3 = mkF m 0 #[rv a, rv u, rv w] [] := by first | (simp [entryFrame, mkF, argsToLocals, Value.category]; done) | rfl
def Q_c_lad1 (Z : State) (a : Addr) (u : Addr) (w : Addr) (y : Addr) (h0 : Heap) (n0 : Nat) (v : Option Value) (h : Heap) (L : List Loc) : Prop := v = none ∧ Fr n0 L ∧ Keep h0 h [a] ∧ Fld Z h a "com/example/gapweave/gapweave/AggregateFunction$Last" "last" "Ljava/lang/Object;" (.ref u)
set_option maxRecDepth 65536 in
set_option maxHeartbeats 40000000 in
theorem c_lad1 (l : Launch) (Z : State) (a0 : Array Value) (hw : ∀ d ∈ tables_1, d.before a0 Z = true) (a : Addr) (u : Addr) (w : Addr) (y : Addr) (h0 : Heap) (n0 : Nat) (Z0 : n0 ≤ h0.size) (E_a : Exa Z h0 a "com/example/gapweave/gapweave/AggregateFunction$Last") (F_a_last : Fld Z h0 a "com/example/gapweave/gapweave/AggregateFunction$Last" "last" "Ljava/lang/Object;" (.ref y)) (g_a : n0 ≤ a) :
    Ctr l Z h0 (⟨"com/example/gapweave/gapweave/AggregateFunction$Last", "add", "(Ljava/lang/Object;Ljava/lang/Object;)V"⟩ : MethodName) prog_11_method_2_code 3 none [] ({ frames := 0, cells := 0, slots := 0, locals := 0 } : Room) #[(.ref a), (.ref u), (.ref w)] (Q_c_lad1 Z a u w y h0 n0) := by
  refine Ctr.make (plainFor_of_name pn_110) fun p e s m below meth c s₁ K hret hml hx hby hown hnm hnamed hH hZ X0 e0 hK => ?_
  have hown : s.vm.findClass "com/example/gapweave/gapweave/AggregateFunction$Last" = some m.cls := hown
  have N0 := Fr.nil n0
  have K0 : Keep h0 h0 [a] := Keep.refl _ _
  refine Wlk.of (fun _ k => castTop (ef_c_lad1 m a u w) k) ?_
  show Wlk p.tables e below (s₁.setTop (mkF m 0 #[rv a, rv u, rv w] [])) K
  refine Wlk.of (fun _ k => XS.aloadN X0.here hx rfl (hb hby d29_0) rfl rfl k) ?_
  show Wlk p.tables e below (s₁.setTop (mkF m 1 #[rv a, rv u, rv w] [(.ref a)])) K
  refine Wlk.of (fun _ k => XS.aloadN X0.here hx rfl (hb hby d29_1) rfl rfl k) ?_
  show Wlk p.tables e below (s₁.setTop (mkF m 2 #[rv a, rv u, rv w] [(.ref u), (.ref a)])) K
  obtain ⟨T1, h1, X1, e1, W1, st1⟩ := putF X0 hx hZ hown (host := "") (Or.inl (wd hw 224 rfl)) Via.refl e0 F_a_last E_a (Or.inl (wd hw 225 rfl)) (wd hw 212 rfl) (ty := (.object "java/lang/Object")) (by decide) rfl rfl (g := (mkF m 2 #[rv a, rv u, rv w] [(.ref u), (.ref a)])) rfl rfl (hb hby d29_2)
  have Fw1 := F_a_last.same W1
  refine Wlk.of (fun _ k => st1 _ k) ?_
  have K2 : Keep h0 h1 [a] := K0.wr W1 (Or.inl (List.mem_of_getElem? (i := 0) rfl))
  have N3 := Fr.snoc X1 N0 g_a
  show Wlk p.tables e below (T1.setTop (mkF m 5 #[rv a, rv u, rv w] [])) K
  refine hK none X1 (fun q => rfl) (fun fs hr => X1.returnOut hx hret (hb hby d29_5) hr) ?_ (by decide) (by decide)
  rw [show T1.heap = h1 from e1]
  exact ⟨rfl, N3, K2, Fw1⟩
theorem d30_0 : decode prog_11_method_3_code 0 = .ok (.aload_n 0, 1) := by decide +kernel
theorem d30_1 : decode prog_11_method_3_code 1 = .ok (.getfield 7, 3) := by decide +kernel
theorem d30_4 : decode prog_11_method_3_code 4 = .ok (.areturn, 1) := by decide +kernel
theorem ef_c_lr (m : MethodId) (a : Addr) : entryFrame m #[(.ref a)] 1 = mkF m 0 #[rv a] [] := by first | (simp [entryFrame, mkF, argsToLocals, Value.category]; done) | rfl
def Q_c_lr (Z : State) (a : Addr) (y : Addr) (h0 : Heap) (n0 : Nat) (v : Option Value) (h : Heap) (L : List Loc) : Prop := v = (some (.ref y)) ∧ Fr n0 L ∧ h = h0
set_option maxRecDepth 65536 in
set_option maxHeartbeats 40000000 in
theorem c_lr (l : Launch) (Z : State) (a0 : Array Value) (hw : ∀ d ∈ tables_1, d.before a0 Z = true) (a : Addr) (y : Addr) (h0 : Heap) (n0 : Nat) (Z0 : n0 ≤ h0.size) (F_a_last : Fld Z h0 a "com/example/gapweave/gapweave/AggregateFunction$Last" "last" "Ljava/lang/Object;" (.ref y)) :
    Ctr l Z h0 (⟨"com/example/gapweave/gapweave/AggregateFunction$Last", "result", "()Ljava/lang/Object;"⟩ : MethodName) prog_11_method_3_code 1 (some (.object "java/lang/Object")) [] ({ frames := 0, cells := 0, slots := 0, locals := 0 } : Room) #[(.ref a)] (Q_c_lr Z a y h0 n0) := by
  refine Ctr.make (plainFor_of_name pn_110) fun p e s m below meth c s₁ K hret hml hx hby hown hnm hnamed hH hZ X0 e0 hK => ?_
  have hown : s.vm.findClass "com/example/gapweave/gapweave/AggregateFunction$Last" = some m.cls := hown
  have N0 := Fr.nil n0
  have K0 : Keep h0 h0 [] := Keep.refl _ _
  refine Wlk.of (fun _ k => castTop (ef_c_lr m a) k) ?_
  show Wlk p.tables e below (s₁.setTop (mkF m 0 #[rv a] [])) K
  refine Wlk.of (fun _ k => XS.aloadN X0.here hx rfl (hb hby d30_0) rfl rfl k) ?_
  show Wlk p.tables e below (s₁.setTop (mkF m 1 #[rv a] [(.ref a)])) K
  obtain ⟨T1, X1, e1, st1⟩ := getF X0 hx hZ hown (host := "") (Or.inl (wd hw 224 rfl)) Via.refl e0 F_a_last (g := (mkF m 1 #[rv a] [(.ref a)])) rfl rfl (hb hby d30_1)
  refine Wlk.of (fun _ k => st1 _ k) ?_
  show Wlk p.tables e below (T1.setTop (mkF m 4 #[rv a] [(.ref y)])) K
  refine hK (some (.ref y)) X1 (fun q => by cases q) (fun fs hr => retOut X1 hx hret rfl (Or.inr (Or.inr (Or.inr (Or.inr ⟨rfl, rfl, rfl⟩)))) (hb hby d30_4) hr) ?_ (by decide) (by decide)
  rw [show T1.heap = h0 from e1]
  exact ⟨rfl, N0, rfl⟩
theorem d20_0 : decode prog_7_method_1_code 0 = .ok (.aload_n 0, 1) := by decide +kernel
theorem d20_1 : decode prog_7_method_1_code 1 = .ok (.invokespecial 1, 3) := by decide +kernel
theorem d20_4 : decode prog_7_method_1_code 4 = .ok (.aload_n 0, 1) := by decide +kernel
theorem d20_5 : decode prog_7_method_1_code 5 = .ok (.aload_n 1, 1) := by decide +kernel
theorem d20_6 : decode prog_7_method_1_code 6 = .ok (.putfield 7, 3) := by decide +kernel
theorem d20_9 : decode prog_7_method_1_code 9 = .ok (.aload_n 0, 1) := by decide +kernel
theorem d20_10 : decode prog_7_method_1_code 10 = .ok (.iload_n 2, 1) := by decide +kernel
theorem d20_11 : decode prog_7_method_1_code 11 = .ok (.putfield 13, 3) := by decide +kernel
theorem d20_14 : decode prog_7_method_1_code 14 = .ok (.return_, 1) := by decide +kernel
theorem pn_220 : plainName "com/example/gapweave/gapweave/AggregateFunction$Extreme" = true := by first | (simp [plainName, overriddenIn]; done) | decide +kernel
theorem ef_c_xim (m : MethodId) (a : Addr) (la : Addr) : entryFrame m #[(.ref a), (.ref la), (.int (-1 : Int32))] 3 = mkF m 0 #[rv a, rv la, iv (-1 : Int32)] [] := by first | (simp [entryFrame, mkF, argsToLocals, Value.category]; done) | rfl
def Q_c_xim (Z : State) (a : Addr) (la : Addr) (h0 : Heap) (n0 : Nat) (v : Option Value) (h : Heap) (L : List Loc) : Prop := v = none ∧ Fr n0 L ∧ Keep h0 h [a] ∧ Fld Z h a "com/example/gapweave/gapweave/AggregateFunction$Extreme" "order" "Ljava/util/Comparator;" (.ref la) ∧ Fld Z h a "com/example/gapweave/gapweave/AggregateFunction$Extreme" "sign" "I" (.int (-1 : Int32)) ∧ Fld Z h a "com/example/gapweave/gapweave/AggregateFunction$Extreme" "cell" "Ljava/lang/Object;" .null ∧ Fld Z h a "com/example/gapweave/gapweave/AggregateFunction$Extreme" "value" "Ljava/lang/Object;" .null
set_option maxRecDepth 65536 in
set_option maxHeartbeats 40000000 in
theorem c_xim (l : Launch) (Z : State) (a0 : Array Value) (hw : ∀ d ∈ tables_1, d.before a0 Z = true) (a : Addr) (la : Addr) (h0 : Heap) (n0 : Nat) (Z0 : n0 ≤ h0.size) (E_a : Exa Z h0 a "com/example/gapweave/gapweave/AggregateFunction$Extreme") (F_a_order : Fld Z h0 a "com/example/gapweave/gapweave/AggregateFunction$Extreme" "order" "Ljava/util/Comparator;" .null) (F_a_sign : Fld Z h0 a "com/example/gapweave/gapweave/AggregateFunction$Extreme" "sign" "I" (.int (0 : Int32))) (F_a_cell : Fld Z h0 a "com/example/gapweave/gapweave/AggregateFunction$Extreme" "cell" "Ljava/lang/Object;" .null) (F_a_value : Fld Z h0 a "com/example/gapweave/gapweave/AggregateFunction$Extreme" "value" "Ljava/lang/Object;" .null) (g_a : n0 ≤ a) :
    Ctr l Z h0 (⟨"com/example/gapweave/gapweave/AggregateFunction$Extreme", "<init>", "(Ljava/util/Comparator;I)V"⟩ : MethodName) prog_7_method_1_code 3 none [] ({ frames := 1, cells := 0, slots := 0, locals := 12 } : Room) #[(.ref a), (.ref la), (.int (-1 : Int32))] (Q_c_xim Z a la h0 n0) := by
  refine Ctr.make (plainFor_of_name pn_220) fun p e s m below meth c s₁ K hret hml hx hby hown hnm hnamed hH hZ X0 e0 hK => ?_
  have hown : s.vm.findClass "com/example/gapweave/gapweave/AggregateFunction$Extreme" = some m.cls := hown
  have N0 := Fr.nil n0
  have K0 : Keep h0 h0 [a] := Keep.refl _ _
  refine Wlk.of (fun _ k => castTop (ef_c_xim m a la) k) ?_
  show Wlk p.tables e below (s₁.setTop (mkF m 0 #[rv a, rv la, iv (-1 : Int32)] [])) K
  refine Wlk.of (fun _ k => XS.aloadN X0.here hx rfl (hb hby d20_0) rfl rfl k) ?_
  show Wlk p.tables e below (s₁.setTop (mkF m 1 #[rv a, rv la, iv (-1 : Int32)] [(.ref a)])) K
  obtain ⟨T1, X1, e1, st1⟩ := initO X0 hx hZ hown (wd hw 148 rfl) (wd hw 47 rfl) (wd hw 48 rfl) e0 (g := (mkF m 1 #[rv a, rv la, iv (-1 : Int32)] [(.ref a)])) rfl (by rw [hml]; rfl) rfl (hb hby d20_1) (by decide) (W := 0) (by show 2 * 0 + _ ≤ _; exact Nat.le_of_eq rfl) (by decide)
  refine Wlk.of (fun _ k => st1 _ k) ?_
  show Wlk p.tables e below (T1.setTop (mkF m 4 #[rv a, rv la, iv (-1 : Int32)] [])) K
  refine Wlk.of (fun _ k => XS.aloadN X1.here hx rfl (hb hby d20_4) rfl rfl k) ?_
  show Wlk p.tables e below (T1.setTop (mkF m 5 #[rv a, rv la, iv (-1 : Int32)] [(.ref a)])) K
  refine Wlk.of (fun _ k => XS.aloadN X1.here hx rfl (hb hby d20_5) rfl rfl k) ?_
  show Wlk p.tables e below (T1.setTop (mkF m 6 #[rv a, rv la, iv (-1 : Int32)] [(.ref la), (.ref a)])) K
  obtain ⟨T2, h2, X2, e2, W2, st2⟩ := putF X1 hx hZ hown (host := "") (Or.inl (wd hw 149 rfl)) Via.refl e1 F_a_order E_a (Or.inr ⟨(wd hw 150 rfl), rfl, hnm⟩) (wd hw 130 rfl) (ty := (.object "java/util/Comparator")) (by decide) rfl rfl (g := (mkF m 6 #[rv a, rv la, iv (-1 : Int32)] [(.ref la), (.ref a)])) rfl rfl (hb hby d20_6)
  have Fw2 := F_a_order.same W2
  refine Wlk.of (fun _ k => st2 _ k) ?_
  have K3 : Keep h0 h2 [a] := K0.wr W2 (Or.inl (List.mem_of_getElem? (i := 0) rfl))
  have N4 := Fr.snoc X2 N0 g_a
  show Wlk p.tables e below (T2.setTop (mkF m 9 #[rv a, rv la, iv (-1 : Int32)] [])) K
  refine Wlk.of (fun _ k => XS.aloadN X2.here hx rfl (hb hby d20_9) rfl rfl k) ?_
  show Wlk p.tables e below (T2.setTop (mkF m 10 #[rv a, rv la, iv (-1 : Int32)] [(.ref a)])) K
  refine Wlk.of (fun _ k => XS.iloadN X2.here hx rfl (hb hby d20_10) rfl k) ?_
  show Wlk p.tables e below (T2.setTop (mkF m 11 #[rv a, rv la, iv (-1 : Int32)] [(.int (-1 : Int32)), (.ref a)])) K
  have f5 : Fld Z h2 a "com/example/gapweave/gapweave/AggregateFunction$Extreme" "sign" "I" (.int (0 : Int32)) := (F_a_sign.other W2 (Or.inr (slot_ne (Or.inr (wd hw 152 rfl)) (Or.inr (wd hw 150 rfl)) (by decide) (t := .int) (t' := (.object "java/util/Comparator")) (by decide) (by decide))))
  have f6 : Exa Z h2 a "com/example/gapweave/gapweave/AggregateFunction$Extreme" := (E_a.wr W2)
  obtain ⟨T7, h7, X7, e7, W7, st7⟩ := putF X2 hx hZ hown (host := "") (Or.inl (wd hw 151 rfl)) Via.refl e2 f5 f6 (Or.inr ⟨(wd hw 152 rfl), rfl, hnm⟩) (wd hw 130 rfl) (ty := .int) (by decide) rfl rfl (g := (mkF m 11 #[rv a, rv la, iv (-1 : Int32)] [(.int (-1 : Int32)), (.ref a)])) rfl rfl (hb hby d20_11)
  have Fw7 := f5.same W7
  refine Wlk.of (fun _ k => st7 _ k) ?_
  have K8 : Keep h0 h7 [a] := K3.wr W7 (Or.inl (List.mem_of_getElem? (i := 0) rfl))
  have N9 := Fr.snoc X7 N4 g_a
  show Wlk p.tables e below (T7.setTop (mkF m 14 #[rv a, rv la, iv (-1 : Int32)] [])) K
  have f10 : Fld Z h7 a "com/example/gapweave/gapweave/AggregateFunction$Extreme" "order" "Ljava/util/Comparator;" (.ref la) := (Fw2.other W7 (Or.inr (slot_ne (Or.inr (wd hw 150 rfl)) (Or.inr (wd hw 152 rfl)) (by decide) (t := (.object "java/util/Comparator")) (t' := .int) (by decide) (by decide))))
  have f11 : Fld Z h7 a "com/example/gapweave/gapweave/AggregateFunction$Extreme" "cell" "Ljava/lang/Object;" .null := ((F_a_cell.other W2 (Or.inr (slot_ne (Or.inl (wd hw 160 rfl)) (Or.inr (wd hw 150 rfl)) (by decide) (t := (.object "java/lang/Object")) (t' := (.object "java/util/Comparator")) (by decide) (by decide)))).other W7 (Or.inr (slot_ne (Or.inl (wd hw 160 rfl)) (Or.inr (wd hw 152 rfl)) (by decide) (t := (.object "java/lang/Object")) (t' := .int) (by decide) (by decide))))
  have f12 : Fld Z h7 a "com/example/gapweave/gapweave/AggregateFunction$Extreme" "value" "Ljava/lang/Object;" .null := ((F_a_value.other W2 (Or.inr (slot_ne (Or.inl (wd hw 162 rfl)) (Or.inr (wd hw 150 rfl)) (by decide) (t := (.object "java/lang/Object")) (t' := (.object "java/util/Comparator")) (by decide) (by decide)))).other W7 (Or.inr (slot_ne (Or.inl (wd hw 162 rfl)) (Or.inr (wd hw 152 rfl)) (by decide) (t := (.object "java/lang/Object")) (t' := .int) (by decide) (by decide))))
  refine hK none X7 (fun q => rfl) (fun fs hr => X7.returnOut hx hret (hb hby d20_14) hr) ?_ (by decide) (by decide)
  rw [show T7.heap = h7 from e7]
  exact ⟨rfl, N9, K8, f10, Fw7, f11, f12⟩
theorem d21_0 : decode prog_7_method_2_code 0 = .ok (.aload_n 0, 1) := by decide +kernel
theorem d21_1 : decode prog_7_method_2_code 1 = .ok (.getfield 17, 3) := by decide +kernel
theorem d21_4 : decode prog_7_method_2_code 4 = .ok (.ifnull 25, 3) := by decide +kernel
theorem d21_29 : decode prog_7_method_2_code 29 = .ok (.aload_n 0, 1) := by decide +kernel
theorem d21_30 : decode prog_7_method_2_code 30 = .ok (.aload_n 1, 1) := by decide +kernel
theorem d21_31 : decode prog_7_method_2_code 31 = .ok (.putfield 17, 3) := by decide +kernel
theorem d21_34 : decode prog_7_method_2_code 34 = .ok (.aload_n 0, 1) := by decide +kernel
theorem d21_35 : decode prog_7_method_2_code 35 = .ok (.aload_n 2, 1) := by decide +kernel
theorem d21_36 : decode prog_7_method_2_code 36 = .ok (.putfield 21, 3) := by decide +kernel
theorem d21_39 : decode prog_7_method_2_code 39 = .ok (.return_, 1) := by decide +kernel
theorem ef_c_xam (m : MethodId) (a : Addr) (u : Addr) (w : Addr) : entryFrame m #[(.ref a), (.ref u), (.ref w)] 3 = mkF m 0 #[rv a, rv u, rv w] [] := by first | (simp [entryFrame, mkF, argsToLocals, Value.category]; done) | rfl
def Q_c_xam (Z : State) (a : Addr) (u : Addr) (w : Addr) (la : Addr) (h0 : Heap) (n0 : Nat) (v : Option Value) (h : Heap) (L : List Loc) : Prop := v = none ∧ Fr n0 L ∧ Keep h0 h [a] ∧ Fld Z h a "com/example/gapweave/gapweave/AggregateFunction$Extreme" "order" "Ljava/util/Comparator;" (.ref la) ∧ Fld Z h a "com/example/gapweave/gapweave/AggregateFunction$Extreme" "sign" "I" (.int (-1 : Int32)) ∧ Fld Z h a "com/example/gapweave/gapweave/AggregateFunction$Extreme" "cell" "Ljava/lang/Object;" (.ref u) ∧ Fld Z h a "com/example/gapweave/gapweave/AggregateFunction$Extreme" "value" "Ljava/lang/Object;" (.ref w)
set_option maxRecDepth 65536 in
set_option maxHeartbeats 40000000 in
theorem c_xam (l : Launch) (Z : State) (a0 : Array Value) (hw : ∀ d ∈ tables_1, d.before a0 Z = true) (a : Addr) (u : Addr) (w : Addr) (la : Addr) (h0 : Heap) (n0 : Nat) (Z0 : n0 ≤ h0.size) (E_a : Exa Z h0 a "com/example/gapweave/gapweave/AggregateFunction$Extreme") (F_a_order : Fld Z h0 a "com/example/gapweave/gapweave/AggregateFunction$Extreme" "order" "Ljava/util/Comparator;" (.ref la)) (F_a_sign : Fld Z h0 a "com/example/gapweave/gapweave/AggregateFunction$Extreme" "sign" "I" (.int (-1 : Int32))) (F_a_cell : Fld Z h0 a "com/example/gapweave/gapweave/AggregateFunction$Extreme" "cell" "Ljava/lang/Object;" .null) (F_a_value : Fld Z h0 a "com/example/gapweave/gapweave/AggregateFunction$Extreme" "value" "Ljava/lang/Object;" .null) (g_a : n0 ≤ a) :
    Ctr l Z h0 (⟨"com/example/gapweave/gapweave/AggregateFunction$Extreme", "add", "(Ljava/lang/Object;Ljava/lang/Object;)V"⟩ : MethodName) prog_7_method_2_code 3 none [] ({ frames := 0, cells := 0, slots := 0, locals := 0 } : Room) #[(.ref a), (.ref u), (.ref w)] (Q_c_xam Z a u w la h0 n0) := by
  refine Ctr.make (plainFor_of_name pn_220) fun p e s m below meth c s₁ K hret hml hx hby hown hnm hnamed hH hZ X0 e0 hK => ?_
  have hown : s.vm.findClass "com/example/gapweave/gapweave/AggregateFunction$Extreme" = some m.cls := hown
  have N0 := Fr.nil n0
  have K0 : Keep h0 h0 [a] := Keep.refl _ _
  refine Wlk.of (fun _ k => castTop (ef_c_xam m a u w) k) ?_
  show Wlk p.tables e below (s₁.setTop (mkF m 0 #[rv a, rv u, rv w] [])) K
  refine Wlk.of (fun _ k => XS.aloadN X0.here hx rfl (hb hby d21_0) rfl rfl k) ?_
  show Wlk p.tables e below (s₁.setTop (mkF m 1 #[rv a, rv u, rv w] [(.ref a)])) K
  obtain ⟨T1, X1, e1, st1⟩ := getF X0 hx hZ hown (host := "") (Or.inl (wd hw 159 rfl)) Via.refl e0 F_a_cell (g := (mkF m 1 #[rv a, rv u, rv w] [(.ref a)])) rfl rfl (hb hby d21_1)
  refine Wlk.of (fun _ k => st1 _ k) ?_
  show Wlk p.tables e below (T1.setTop (mkF m 4 #[rv a, rv u, rv w] [.null])) K
  refine Wlk.of (fun _ k => XS.ifnullYes X1.here hx rfl (pc0 := 4) (pc' := 29) rfl (hb hby d21_4) rfl (by decide) (by decide) k) ?_
  show Wlk p.tables e below (T1.setTop (mkF m 29 #[rv a, rv u, rv w] [])) K
  refine Wlk.of (fun _ k => XS.aloadN X1.here hx rfl (hb hby d21_29) rfl rfl k) ?_
  show Wlk p.tables e below (T1.setTop (mkF m 30 #[rv a, rv u, rv w] [(.ref a)])) K
  refine Wlk.of (fun _ k => XS.aloadN X1.here hx rfl (hb hby d21_30) rfl rfl k) ?_
  show Wlk p.tables e below (T1.setTop (mkF m 31 #[rv a, rv u, rv w] [(.ref u), (.ref a)])) K
  obtain ⟨T2, h2, X2, e2, W2, st2⟩ := putF X1 hx hZ hown (host := "") (Or.inl (wd hw 159 rfl)) Via.refl e1 F_a_cell E_a (Or.inl (wd hw 160 rfl)) (wd hw 130 rfl) (ty := (.object "java/lang/Object")) (by decide) rfl rfl (g := (mkF m 31 #[rv a, rv u, rv w] [(.ref u), (.ref a)])) rfl rfl (hb hby d21_31)
  have Fw2 := F_a_cell.same W2
  refine Wlk.of (fun _ k => st2 _ k) ?_
  have K3 : Keep h0 h2 [a] := K0.wr W2 (Or.inl (List.mem_of_getElem? (i := 0) rfl))
  have N4 := Fr.snoc X2 N0 g_a
  show Wlk p.tables e below (T2.setTop (mkF m 34 #[rv a, rv u, rv w] [])) K
  refine Wlk.of (fun _ k => XS.aloadN X2.here hx rfl (hb hby d21_34) rfl rfl k) ?_
  show Wlk p.tables e below (T2.setTop (mkF m 35 #[rv a, rv u, rv w] [(.ref a)])) K
  refine Wlk.of (fun _ k => XS.aloadN X2.here hx rfl (hb hby d21_35) rfl rfl k) ?_
  show Wlk p.tables e below (T2.setTop (mkF m 36 #[rv a, rv u, rv w] [(.ref w), (.ref a)])) K
  have f5 : Fld Z h2 a "com/example/gapweave/gapweave/AggregateFunction$Extreme" "value" "Ljava/lang/Object;" .null := (F_a_value.other W2 (Or.inr (slot_ne (Or.inl (wd hw 162 rfl)) (Or.inl (wd hw 160 rfl)) (by decide) (t := (.object "java/lang/Object")) (t' := (.object "java/lang/Object")) (by decide) (by decide))))
  have f6 : Exa Z h2 a "com/example/gapweave/gapweave/AggregateFunction$Extreme" := (E_a.wr W2)
  obtain ⟨T7, h7, X7, e7, W7, st7⟩ := putF X2 hx hZ hown (host := "") (Or.inl (wd hw 161 rfl)) Via.refl e2 f5 f6 (Or.inl (wd hw 162 rfl)) (wd hw 130 rfl) (ty := (.object "java/lang/Object")) (by decide) rfl rfl (g := (mkF m 36 #[rv a, rv u, rv w] [(.ref w), (.ref a)])) rfl rfl (hb hby d21_36)
  have Fw7 := f5.same W7
  refine Wlk.of (fun _ k => st7 _ k) ?_
  have K8 : Keep h0 h7 [a] := K3.wr W7 (Or.inl (List.mem_of_getElem? (i := 0) rfl))
  have N9 := Fr.snoc X7 N4 g_a
  show Wlk p.tables e below (T7.setTop (mkF m 39 #[rv a, rv u, rv w] [])) K
  have f10 : Fld Z h7 a "com/example/gapweave/gapweave/AggregateFunction$Extreme" "order" "Ljava/util/Comparator;" (.ref la) := ((F_a_order.other W2 (Or.inr (slot_ne (Or.inr (wd hw 150 rfl)) (Or.inl (wd hw 160 rfl)) (by decide) (t := (.object "java/util/Comparator")) (t' := (.object "java/lang/Object")) (by decide) (by decide)))).other W7 (Or.inr (slot_ne (Or.inr (wd hw 150 rfl)) (Or.inl (wd hw 162 rfl)) (by decide) (t := (.object "java/util/Comparator")) (t' := (.object "java/lang/Object")) (by decide) (by decide))))
  have f11 : Fld Z h7 a "com/example/gapweave/gapweave/AggregateFunction$Extreme" "sign" "I" (.int (-1 : Int32)) := ((F_a_sign.other W2 (Or.inr (slot_ne (Or.inr (wd hw 152 rfl)) (Or.inl (wd hw 160 rfl)) (by decide) (t := .int) (t' := (.object "java/lang/Object")) (by decide) (by decide)))).other W7 (Or.inr (slot_ne (Or.inr (wd hw 152 rfl)) (Or.inl (wd hw 162 rfl)) (by decide) (t := .int) (t' := (.object "java/lang/Object")) (by decide) (by decide))))
  have f12 : Fld Z h7 a "com/example/gapweave/gapweave/AggregateFunction$Extreme" "cell" "Ljava/lang/Object;" (.ref u) := (Fw2.other W7 (Or.inr (slot_ne (Or.inl (wd hw 160 rfl)) (Or.inl (wd hw 162 rfl)) (by decide) (t := (.object "java/lang/Object")) (t' := (.object "java/lang/Object")) (by decide) (by decide))))
  refine hK none X7 (fun q => rfl) (fun fs hr => X7.returnOut hx hret (hb hby d21_39) hr) ?_ (by decide) (by decide)
  rw [show T7.heap = h7 from e7]
  exact ⟨rfl, N9, K8, f10, f11, f12, Fw7⟩
theorem pd_231 : parseMethodDescriptor "(Ljava/lang/Object;Ljava/lang/Object;)I" = some ⟨[(.object "java/lang/Object"), (.object "java/lang/Object")], some .int⟩ := by decide +kernel
theorem d21_7 : decode prog_7_method_2_code 7 = .ok (.aload_n 0, 1) := by decide +kernel
theorem d21_8 : decode prog_7_method_2_code 8 = .ok (.getfield 13, 3) := by decide +kernel
theorem d21_11 : decode prog_7_method_2_code 11 = .ok (.aload_n 0, 1) := by decide +kernel
theorem d21_12 : decode prog_7_method_2_code 12 = .ok (.getfield 7, 3) := by decide +kernel
theorem d21_15 : decode prog_7_method_2_code 15 = .ok (.aload_n 2, 1) := by decide +kernel
theorem d21_16 : decode prog_7_method_2_code 16 = .ok (.aload_n 0, 1) := by decide +kernel
theorem d21_17 : decode prog_7_method_2_code 17 = .ok (.getfield 21, 3) := by decide +kernel
theorem d21_20 : decode prog_7_method_2_code 20 = .ok (.invokeinterface 24 3, 5) := by decide +kernel
theorem d21_25 : decode prog_7_method_2_code 25 = .ok (.imul, 1) := by decide +kernel
theorem d21_26 : decode prog_7_method_2_code 26 = .ok (.ifCond .le 13, 3) := by decide +kernel
theorem ef_c_xbm0 (m : MethodId) (a : Addr) (u : Addr) (w : Addr) : entryFrame m #[(.ref a), (.ref u), (.ref w)] 3 = mkF m 0 #[rv a, rv u, rv w] [] := by first | (simp [entryFrame, mkF, argsToLocals, Value.category]; done) | rfl
def Q_c_xbm0 (Z : State) (a : Addr) (u : Addr) (w : Addr) (la : Addr) (y : Addr) (z : Addr) (cK : ClassId) (h0 : Heap) (n0 : Nat) (v : Option Value) (h : Heap) (L : List Loc) : Prop := v = none ∧ Fr n0 L ∧ h = h0
set_option maxRecDepth 65536 in
set_option maxHeartbeats 40000000 in
theorem c_xbm0 (l : Launch) (Z : State) (a0 : Array Value) (hw : ∀ d ∈ tables_1, d.before a0 Z = true) (a : Addr) (u : Addr) (w : Addr) (la : Addr) (y : Addr) (z : Addr) (cK : ClassId) (h0 : Heap) (n0 : Nat) (Z0 : n0 ≤ h0.size) (E_a : Exa Z h0 a "com/example/gapweave/gapweave/AggregateFunction$Extreme") (F_a_order : Fld Z h0 a "com/example/gapweave/gapweave/AggregateFunction$Extreme" "order" "Ljava/util/Comparator;" (.ref la)) (F_a_sign : Fld Z h0 a "com/example/gapweave/gapweave/AggregateFunction$Extreme" "sign" "I" (.int (-1 : Int32))) (F_a_cell : Fld Z h0 a "com/example/gapweave/gapweave/AggregateFunction$Extreme" "cell" "Ljava/lang/Object;" (.ref y)) (F_a_value : Fld Z h0 a "com/example/gapweave/gapweave/AggregateFunction$Extreme" "value" "Ljava/lang/Object;" (.ref z)) (E_w : Exa Z h0 w "java/lang/Long") (F_w_value : Fld Z h0 w "java/lang/Long" "value" "J" (.long (1 : Int64))) (E_z : Exa Z h0 z "java/lang/Long") (F_z_value : Fld Z h0 z "java/lang/Long" "value" "J" (.long (0 : Int64))) (Fn_la : Fn h0 la cK) (hmade : Jvm.LamKit.Made Z "com/example/gapweave/gapweave/AggregateFunction" own_sg cK) (g_a : n0 ≤ a) :
    Ctr l Z h0 (⟨"com/example/gapweave/gapweave/AggregateFunction$Extreme", "add", "(Ljava/lang/Object;Ljava/lang/Object;)V"⟩ : MethodName) prog_7_method_2_code 3 none [] ({ frames := 3, cells := 0, slots := 0, locals := 43 } : Room) #[(.ref a), (.ref u), (.ref w)] (Q_c_xbm0 Z a u w la y z cK h0 n0) := by
  refine Ctr.make (plainFor_of_name pn_220) fun p e s m below meth c s₁ K hret hml hx hby hown hnm hnamed hH hZ X0 e0 hK => ?_
  have hown : s.vm.findClass "com/example/gapweave/gapweave/AggregateFunction$Extreme" = some m.cls := hown
  have N0 := Fr.nil n0
  have K0 : Keep h0 h0 [] := Keep.refl _ _
  refine Wlk.of (fun _ k => castTop (ef_c_xbm0 m a u w) k) ?_
  show Wlk p.tables e below (s₁.setTop (mkF m 0 #[rv a, rv u, rv w] [])) K
  refine Wlk.of (fun _ k => XS.aloadN X0.here hx rfl (hb hby d21_0) rfl rfl k) ?_
  show Wlk p.tables e below (s₁.setTop (mkF m 1 #[rv a, rv u, rv w] [(.ref a)])) K
  obtain ⟨T1, X1, e1, st1⟩ := getF X0 hx hZ hown (host := "") (Or.inl (wd hw 159 rfl)) Via.refl e0 F_a_cell (g := (mkF m 1 #[rv a, rv u, rv w] [(.ref a)])) rfl rfl (hb hby d21_1)
  refine Wlk.of (fun _ k => st1 _ k) ?_
  show Wlk p.tables e below (T1.setTop (mkF m 4 #[rv a, rv u, rv w] [(.ref y)])) K
  refine Wlk.of (fun _ k => XS.ifnullNo X1.here hx rfl (hb hby d21_4) rfl k) ?_
  show Wlk p.tables e below (T1.setTop (mkF m 7 #[rv a, rv u, rv w] [])) K
  refine Wlk.of (fun _ k => XS.aloadN X1.here hx rfl (hb hby d21_7) rfl rfl k) ?_
  show Wlk p.tables e below (T1.setTop (mkF m 8 #[rv a, rv u, rv w] [(.ref a)])) K
  obtain ⟨T2, X2, e2, st2⟩ := getF X1 hx hZ hown (host := "") (Or.inl (wd hw 151 rfl)) Via.refl e1 F_a_sign (g := (mkF m 8 #[rv a, rv u, rv w] [(.ref a)])) rfl rfl (hb hby d21_8)
  refine Wlk.of (fun _ k => st2 _ k) ?_
  show Wlk p.tables e below (T2.setTop (mkF m 11 #[rv a, rv u, rv w] [(.int (-1 : Int32))])) K
  refine Wlk.of (fun _ k => XS.aloadN X2.here hx rfl (hb hby d21_11) rfl rfl k) ?_
  show Wlk p.tables e below (T2.setTop (mkF m 12 #[rv a, rv u, rv w] [(.ref a), (.int (-1 : Int32))])) K
  obtain ⟨T3, X3, e3, st3⟩ := getF X2 hx hZ hown (host := "") (Or.inl (wd hw 149 rfl)) Via.refl e2 F_a_order (g := (mkF m 12 #[rv a, rv u, rv w] [(.ref a), (.int (-1 : Int32))])) rfl rfl (hb hby d21_12)
  refine Wlk.of (fun _ k => st3 _ k) ?_
  show Wlk p.tables e below (T3.setTop (mkF m 15 #[rv a, rv u, rv w] [(.ref la), (.int (-1 : Int32))])) K
  refine Wlk.of (fun _ k => XS.aloadN X3.here hx rfl (hb hby d21_15) rfl rfl k) ?_
  show Wlk p.tables e below (T3.setTop (mkF m 16 #[rv a, rv u, rv w] [(.ref w), (.ref la), (.int (-1 : Int32))])) K
  refine Wlk.of (fun _ k => XS.aloadN X3.here hx rfl (hb hby d21_16) rfl rfl k) ?_
  show Wlk p.tables e below (T3.setTop (mkF m 17 #[rv a, rv u, rv w] [(.ref a), (.ref w), (.ref la), (.int (-1 : Int32))])) K
  obtain ⟨T4, X4, e4, st4⟩ := getF X3 hx hZ hown (host := "") (Or.inl (wd hw 161 rfl)) Via.refl e3 F_a_value (g := (mkF m 17 #[rv a, rv u, rv w] [(.ref a), (.ref w), (.ref la), (.int (-1 : Int32))])) rfl rfl (hb hby d21_17)
  refine Wlk.of (fun _ k => st4 _ k) ?_
  show Wlk p.tables e below (T4.setTop (mkF m 20 #[rv a, rv u, rv w] [(.ref z), (.ref w), (.ref la), (.int (-1 : Int32))])) K
  obtain ⟨T5, L5, X5, N5, e5, st5⟩ := Ctr.lam (y := (⟨"com/example/gapweave/gapweave/AggregateFunction", "lambda$order$0", "(Ljava/lang/Object;Ljava/lang/Object;)I"⟩ : MethodName)) (xi := (⟨"java/util/Comparator", "compare", "(Ljava/lang/Object;Ljava/lang/Object;)I"⟩ : MethodName)) (w := (1 : Int32)) (c_la10 l Z a0 hw w z h0 n0 (Nat.le_trans Z0 K0.1) E_w F_w_value E_z F_z_value) (fun _ _ _ q => q) X4 hx hH e4 hown (wd hw 163 rfl) (wd hw 164 rfl) (wd hw 165 rfl) (wd hw 167 rfl) (wd hw 166 rfl) (wd hw 6 rfl) ⟨rfl, rfl, (by decide +kernel)⟩ ⟨rfl, rfl, (by decide +kernel)⟩ (by decide) (by decide) hmade Fn_la own_fwd own_f0 own_f1 own_f2 own_f5 (g := (mkF m 20 #[rv a, rv u, rv w] [(.ref z), (.ref w), (.ref la), (.int (-1 : Int32))])) rfl (by rw [hml]; rfl) (rest := [(.int (-1 : Int32))]) rfl pd_231 pd_231 rfl (W := 1) (by show 2 * 0 + _ ≤ _; exact Nat.le_of_eq rfl) (by decide) (by decide) (hb hby d21_20) rfl rfl (by decide) (by decide)
  have N6 := Fr.app N0 N5
  refine Wlk.of (fun _ k => st5 _ k) ?_
  show Wlk p.tables e below (T5.setTop (mkF m 25 #[rv a, rv u, rv w] [(.int (1 : Int32)), (.int (-1 : Int32))])) K
  refine Wlk.of (fun _ k => XS.imul X5.here hx rfl (hb hby d21_25) rfl k) ?_
  show Wlk p.tables e below (T5.setTop (mkF m 26 #[rv a, rv u, rv w] [(.int (-1 : Int32))])) K
  refine Wlk.of (fun _ k => XS.ifYes X5.here hx rfl (pc0 := 26) (pc' := 39) rfl (hb hby d21_26) rfl ((if0 _ _).trans (flt (by decide : ¬ ((0 : Int32) < (-1 : Int32)))).2.2.2) (by decide) (by decide) k) ?_
  show Wlk p.tables e below (T5.setTop (mkF m 39 #[rv a, rv u, rv w] [])) K
  refine hK none X5 (fun q => rfl) (fun fs hr => X5.returnOut hx hret (hb hby d21_39) hr) ?_ (by decide) (by decide)
  rw [show T5.heap = h0 from e5]
  exact ⟨rfl, N6, rfl⟩
theorem ef_c_xbm2 (m : MethodId) (a : Addr) (u : Addr) (w : Addr) : entryFrame m #[(.ref a), (.ref u), (.ref w)] 3 = mkF m 0 #[rv a, rv u, rv w] [] := by first | (simp [entryFrame, mkF, argsToLocals, Value.category]; done) | rfl
def Q_c_xbm2 (Z : State) (a : Addr) (u : Addr) (w : Addr) (la : Addr) (y : Addr) (z : Addr) (cK : ClassId) (h0 : Heap) (n0 : Nat) (v : Option Value) (h : Heap) (L : List Loc) : Prop := v = none ∧ Fr n0 L ∧ Keep h0 h [a] ∧ Fld Z h a "com/example/gapweave/gapweave/AggregateFunction$Extreme" "order" "Ljava/util/Comparator;" (.ref la) ∧ Fld Z h a "com/example/gapweave/gapweave/AggregateFunction$Extreme" "sign" "I" (.int (-1 : Int32)) ∧ Fld Z h a "com/example/gapweave/gapweave/AggregateFunction$Extreme" "cell" "Ljava/lang/Object;" (.ref u) ∧ Fld Z h a "com/example/gapweave/gapweave/AggregateFunction$Extreme" "value" "Ljava/lang/Object;" (.ref w)
set_option maxRecDepth 65536 in
set_option maxHeartbeats 40000000 in
theorem c_xbm2 (l : Launch) (Z : State) (a0 : Array Value) (hw : ∀ d ∈ tables_1, d.before a0 Z = true) (a : Addr) (u : Addr) (w : Addr) (la : Addr) (y : Addr) (z : Addr) (cK : ClassId) (h0 : Heap) (n0 : Nat) (Z0 : n0 ≤ h0.size) (E_a : Exa Z h0 a "com/example/gapweave/gapweave/AggregateFunction$Extreme") (F_a_order : Fld Z h0 a "com/example/gapweave/gapweave/AggregateFunction$Extreme" "order" "Ljava/util/Comparator;" (.ref la)) (F_a_sign : Fld Z h0 a "com/example/gapweave/gapweave/AggregateFunction$Extreme" "sign" "I" (.int (-1 : Int32))) (F_a_cell : Fld Z h0 a "com/example/gapweave/gapweave/AggregateFunction$Extreme" "cell" "Ljava/lang/Object;" (.ref y)) (F_a_value : Fld Z h0 a "com/example/gapweave/gapweave/AggregateFunction$Extreme" "value" "Ljava/lang/Object;" (.ref z)) (E_w : Exa Z h0 w "java/lang/Long") (F_w_value : Fld Z h0 w "java/lang/Long" "value" "J" (.long (1 : Int64))) (E_z : Exa Z h0 z "java/lang/Long") (F_z_value : Fld Z h0 z "java/lang/Long" "value" "J" (.long (2 : Int64))) (Fn_la : Fn h0 la cK) (hmade : Jvm.LamKit.Made Z "com/example/gapweave/gapweave/AggregateFunction" own_sg cK) (g_a : n0 ≤ a) :
    Ctr l Z h0 (⟨"com/example/gapweave/gapweave/AggregateFunction$Extreme", "add", "(Ljava/lang/Object;Ljava/lang/Object;)V"⟩ : MethodName) prog_7_method_2_code 3 none [] ({ frames := 3, cells := 0, slots := 0, locals := 43 } : Room) #[(.ref a), (.ref u), (.ref w)] (Q_c_xbm2 Z a u w la y z cK h0 n0) := by
  refine Ctr.make (plainFor_of_name pn_220) fun p e s m below meth c s₁ K hret hml hx hby hown hnm hnamed hH hZ X0 e0 hK => ?_
  have hown : s.vm.findClass "com/example/gapweave/gapweave/AggregateFunction$Extreme" = some m.cls := hown
  have N0 := Fr.nil n0
  have K0 : Keep h0 h0 [a] := Keep.refl _ _
  refine Wlk.of (fun _ k => castTop (ef_c_xbm2 m a u w) k) ?_
  show Wlk p.tables e below (s₁.setTop (mkF m 0 #[rv a, rv u, rv w] [])) K
  refine Wlk.of (fun _ k => XS.aloadN X0.here hx rfl (hb hby d21_0) rfl rfl k) ?_
  show Wlk p.tables e below (s₁.setTop (mkF m 1 #[rv a, rv u, rv w] [(.ref a)])) K
  obtain ⟨T1, X1, e1, st1⟩ := getF X0 hx hZ hown (host := "") (Or.inl (wd hw 159 rfl)) Via.refl e0 F_a_cell (g := (mkF m 1 #[rv a, rv u, rv w] [(.ref a)])) rfl rfl (hb hby d21_1)
  refine Wlk.of (fun _ k => st1 _ k) ?_
  show Wlk p.tables e below (T1.setTop (mkF m 4 #[rv a, rv u, rv w] [(.ref y)])) K
  refine Wlk.of (fun _ k => XS.ifnullNo X1.here hx rfl (hb hby d21_4) rfl k) ?_
  show Wlk p.tables e below (T1.setTop (mkF m 7 #[rv a, rv u, rv w] [])) K
  refine Wlk.of (fun _ k => XS.aloadN X1.here hx rfl (hb hby d21_7) rfl rfl k) ?_
  show Wlk p.tables e below (T1.setTop (mkF m 8 #[rv a, rv u, rv w] [(.ref a)])) K
  obtain ⟨T2, X2, e2, st2⟩ := getF X1 hx hZ hown (host := "") (Or.inl (wd hw 151 rfl)) Via.refl e1 F_a_sign (g := (mkF m 8 #[rv a, rv u, rv w] [(.ref a)])) rfl rfl (hb hby d21_8)
  refine Wlk.of (fun _ k => st2 _ k) ?_
  show Wlk p.tables e below (T2.setTop (mkF m 11 #[rv a, rv u, rv w] [(.int (-1 : Int32))])) K
  refine Wlk.of (fun _ k => XS.aloadN X2.here hx rfl (hb hby d21_11) rfl rfl k) ?_
  show Wlk p.tables e below (T2.setTop (mkF m 12 #[rv a, rv u, rv w] [(.ref a), (.int (-1 : Int32))])) K
  obtain ⟨T3, X3, e3, st3⟩ := getF X2 hx hZ hown (host := "") (Or.inl (wd hw 149 rfl)) Via.refl e2 F_a_order (g := (mkF m 12 #[rv a, rv u, rv w] [(.ref a), (.int (-1 : Int32))])) rfl rfl (hb hby d21_12)
  refine Wlk.of (fun _ k => st3 _ k) ?_
  show Wlk p.tables e below (T3.setTop (mkF m 15 #[rv a, rv u, rv w] [(.ref la), (.int (-1 : Int32))])) K
  refine Wlk.of (fun _ k => XS.aloadN X3.here hx rfl (hb hby d21_15) rfl rfl k) ?_
  show Wlk p.tables e below (T3.setTop (mkF m 16 #[rv a, rv u, rv w] [(.ref w), (.ref la), (.int (-1 : Int32))])) K
  refine Wlk.of (fun _ k => XS.aloadN X3.here hx rfl (hb hby d21_16) rfl rfl k) ?_
  show Wlk p.tables e below (T3.setTop (mkF m 17 #[rv a, rv u, rv w] [(.ref a), (.ref w), (.ref la), (.int (-1 : Int32))])) K
  obtain ⟨T4, X4, e4, st4⟩ := getF X3 hx hZ hown (host := "") (Or.inl (wd hw 161 rfl)) Via.refl e3 F_a_value (g := (mkF m 17 #[rv a, rv u, rv w] [(.ref a), (.ref w), (.ref la), (.int (-1 : Int32))])) rfl rfl (hb hby d21_17)
  refine Wlk.of (fun _ k => st4 _ k) ?_
  show Wlk p.tables e below (T4.setTop (mkF m 20 #[rv a, rv u, rv w] [(.ref z), (.ref w), (.ref la), (.int (-1 : Int32))])) K
  obtain ⟨T5, L5, X5, N5, e5, st5⟩ := Ctr.lam (y := (⟨"com/example/gapweave/gapweave/AggregateFunction", "lambda$order$0", "(Ljava/lang/Object;Ljava/lang/Object;)I"⟩ : MethodName)) (xi := (⟨"java/util/Comparator", "compare", "(Ljava/lang/Object;Ljava/lang/Object;)I"⟩ : MethodName)) (w := (-1 : Int32)) (c_la12 l Z a0 hw w z h0 n0 (Nat.le_trans Z0 K0.1) E_w F_w_value E_z F_z_value) (fun _ _ _ q => q) X4 hx hH e4 hown (wd hw 163 rfl) (wd hw 164 rfl) (wd hw 165 rfl) (wd hw 167 rfl) (wd hw 166 rfl) (wd hw 6 rfl) ⟨rfl, rfl, (by decide +kernel)⟩ ⟨rfl, rfl, (by decide +kernel)⟩ (by decide) (by decide) hmade Fn_la own_fwd own_f0 own_f1 own_f2 own_f5 (g := (mkF m 20 #[rv a, rv u, rv w] [(.ref z), (.ref w), (.ref la), (.int (-1 : Int32))])) rfl (by rw [hml]; rfl) (rest := [(.int (-1 : Int32))]) rfl pd_231 pd_231 rfl (W := 1) (by show 2 * 0 + _ ≤ _; exact Nat.le_of_eq rfl) (by decide) (by decide) (hb hby d21_20) rfl rfl (by decide) (by decide)
  have N6 := Fr.app N0 N5
  refine Wlk.of (fun _ k => st5 _ k) ?_
  show Wlk p.tables e below (T5.setTop (mkF m 25 #[rv a, rv u, rv w] [(.int (-1 : Int32)), (.int (-1 : Int32))])) K
  refine Wlk.of (fun _ k => XS.imul X5.here hx rfl (hb hby d21_25) rfl k) ?_
  show Wlk p.tables e below (T5.setTop (mkF m 26 #[rv a, rv u, rv w] [(.int (1 : Int32))])) K
  refine Wlk.of (fun _ k => XS.ifNo X5.here hx rfl (hb hby d21_26) rfl ((if0 _ _).trans (tlt (by decide : (0 : Int32) < (1 : Int32))).2.2.2) k) ?_
  show Wlk p.tables e below (T5.setTop (mkF m 29 #[rv a, rv u, rv w] [])) K
  refine Wlk.of (fun _ k => XS.aloadN X5.here hx rfl (hb hby d21_29) rfl rfl k) ?_
  show Wlk p.tables e below (T5.setTop (mkF m 30 #[rv a, rv u, rv w] [(.ref a)])) K
  refine Wlk.of (fun _ k => XS.aloadN X5.here hx rfl (hb hby d21_30) rfl rfl k) ?_
  show Wlk p.tables e below (T5.setTop (mkF m 31 #[rv a, rv u, rv w] [(.ref u), (.ref a)])) K
  obtain ⟨T7, h7, X7, e7, W7, st7⟩ := putF X5 hx hZ hown (host := "") (Or.inl (wd hw 159 rfl)) Via.refl e5 F_a_cell E_a (Or.inl (wd hw 160 rfl)) (wd hw 130 rfl) (ty := (.object "java/lang/Object")) (by decide) rfl rfl (g := (mkF m 31 #[rv a, rv u, rv w] [(.ref u), (.ref a)])) rfl rfl (hb hby d21_31)
  have Fw7 := F_a_cell.same W7
  refine Wlk.of (fun _ k => st7 _ k) ?_
  have K8 : Keep h0 h7 [a] := K0.wr W7 (Or.inl (List.mem_of_getElem? (i := 0) rfl))
  have N9 := Fr.snoc X7 N6 g_a
  show Wlk p.tables e below (T7.setTop (mkF m 34 #[rv a, rv u, rv w] [])) K
  refine Wlk.of (fun _ k => XS.aloadN X7.here hx rfl (hb hby d21_34) rfl rfl k) ?_
  show Wlk p.tables e below (T7.setTop (mkF m 35 #[rv a, rv u, rv w] [(.ref a)])) K
  refine Wlk.of (fun _ k => XS.aloadN X7.here hx rfl (hb hby d21_35) rfl rfl k) ?_
  show Wlk p.tables e below (T7.setTop (mkF m 36 #[rv a, rv u, rv w] [(.ref w), (.ref a)])) K
  have f10 : Fld Z h7 a "com/example/gapweave/gapweave/AggregateFunction$Extreme" "value" "Ljava/lang/Object;" (.ref z) := (F_a_value.other W7 (Or.inr (slot_ne (Or.inl (wd hw 162 rfl)) (Or.inl (wd hw 160 rfl)) (by decide) (t := (.object "java/lang/Object")) (t' := (.object "java/lang/Object")) (by decide) (by decide))))
  have f11 : Exa Z h7 a "com/example/gapweave/gapweave/AggregateFunction$Extreme" := (E_a.wr W7)
  obtain ⟨T12, h12, X12, e12, W12, st12⟩ := putF X7 hx hZ hown (host := "") (Or.inl (wd hw 161 rfl)) Via.refl e7 f10 f11 (Or.inl (wd hw 162 rfl)) (wd hw 130 rfl) (ty := (.object "java/lang/Object")) (by decide) rfl rfl (g := (mkF m 36 #[rv a, rv u, rv w] [(.ref w), (.ref a)])) rfl rfl (hb hby d21_36)
  have Fw12 := f10.same W12
  refine Wlk.of (fun _ k => st12 _ k) ?_
  have K13 : Keep h0 h12 [a] := K8.wr W12 (Or.inl (List.mem_of_getElem? (i := 0) rfl))
  have N14 := Fr.snoc X12 N9 g_a
  show Wlk p.tables e below (T12.setTop (mkF m 39 #[rv a, rv u, rv w] [])) K
  have f15 : Fld Z h12 a "com/example/gapweave/gapweave/AggregateFunction$Extreme" "order" "Ljava/util/Comparator;" (.ref la) := ((F_a_order.other W7 (Or.inr (slot_ne (Or.inr (wd hw 150 rfl)) (Or.inl (wd hw 160 rfl)) (by decide) (t := (.object "java/util/Comparator")) (t' := (.object "java/lang/Object")) (by decide) (by decide)))).other W12 (Or.inr (slot_ne (Or.inr (wd hw 150 rfl)) (Or.inl (wd hw 162 rfl)) (by decide) (t := (.object "java/util/Comparator")) (t' := (.object "java/lang/Object")) (by decide) (by decide))))
  have f16 : Fld Z h12 a "com/example/gapweave/gapweave/AggregateFunction$Extreme" "sign" "I" (.int (-1 : Int32)) := ((F_a_sign.other W7 (Or.inr (slot_ne (Or.inr (wd hw 152 rfl)) (Or.inl (wd hw 160 rfl)) (by decide) (t := .int) (t' := (.object "java/lang/Object")) (by decide) (by decide)))).other W12 (Or.inr (slot_ne (Or.inr (wd hw 152 rfl)) (Or.inl (wd hw 162 rfl)) (by decide) (t := .int) (t' := (.object "java/lang/Object")) (by decide) (by decide))))
  have f17 : Fld Z h12 a "com/example/gapweave/gapweave/AggregateFunction$Extreme" "cell" "Ljava/lang/Object;" (.ref u) := (Fw7.other W12 (Or.inr (slot_ne (Or.inl (wd hw 160 rfl)) (Or.inl (wd hw 162 rfl)) (by decide) (t := (.object "java/lang/Object")) (t' := (.object "java/lang/Object")) (by decide) (by decide))))
  refine hK none X12 (fun q => rfl) (fun fs hr => X12.returnOut hx hret (hb hby d21_39) hr) ?_ (by decide) (by decide)
  rw [show T12.heap = h12 from e12]
  exact ⟨rfl, N14, K13, f15, f16, f17, Fw12⟩
theorem ef_c_xip (m : MethodId) (a : Addr) (la : Addr) : entryFrame m #[(.ref a), (.ref la), (.int (1 : Int32))] 3 = mkF m 0 #[rv a, rv la, iv (1 : Int32)] [] := by first | (simp [entryFrame, mkF, argsToLocals, Value.category]; done) | rfl
def Q_c_xip (Z : State) (a : Addr) (la : Addr) (h0 : Heap) (n0 : Nat) (v : Option Value) (h : Heap) (L : List Loc) : Prop := v = none ∧ Fr n0 L ∧ Keep h0 h [a] ∧ Fld Z h a "com/example/gapweave/gapweave/AggregateFunction$Extreme" "order" "Ljava/util/Comparator;" (.ref la) ∧ Fld Z h a "com/example/gapweave/gapweave/AggregateFunction$Extreme" "sign" "I" (.int (1 : Int32)) ∧ Fld Z h a "com/example/gapweave/gapweave/AggregateFunction$Extreme" "cell" "Ljava/lang/Object;" .null ∧ Fld Z h a "com/example/gapweave/gapweave/AggregateFunction$Extreme" "value" "Ljava/lang/Object;" .null
set_option maxRecDepth 65536 in
set_option maxHeartbeats 40000000 in
theorem c_xip (l : Launch) (Z : State) (a0 : Array Value) (hw : ∀ d ∈ tables_1, d.before a0 Z = true) (a : Addr) (la : Addr) (h0 : Heap) (n0 : Nat) (Z0 : n0 ≤ h0.size) (E_a : Exa Z h0 a "com/example/gapweave/gapweave/AggregateFunction$Extreme") (F_a_order : Fld Z h0 a "com/example/gapweave/gapweave/AggregateFunction$Extreme" "order" "Ljava/util/Comparator;" .null) (F_a_sign : Fld Z h0 a "com/example/gapweave/gapweave/AggregateFunction$Extreme" "sign" "I" (.int (0 : Int32))) (F_a_cell : Fld Z h0 a "com/example/gapweave/gapweave/AggregateFunction$Extreme" "cell" "Ljava/lang/Object;" .null) (F_a_value : Fld Z h0 a "com/example/gapweave/gapweave/AggregateFunction$Extreme" "value" "Ljava/lang/Object;" .null) (g_a : n0 ≤ a) :
    Ctr l Z h0 (⟨"com/example/gapweave/gapweave/AggregateFunction$Extreme", "<init>", "(Ljava/util/Comparator;I)V"⟩ : MethodName) prog_7_method_1_code 3 none [] ({ frames := 1, cells := 0, slots := 0, locals := 12 } : Room) #[(.ref a), (.ref la), (.int (1 : Int32))] (Q_c_xip Z a la h0 n0) := by
  refine Ctr.make (plainFor_of_name pn_220) fun p e s m below meth c s₁ K hret hml hx hby hown hnm hnamed hH hZ X0 e0 hK => ?_
  have hown : s.vm.findClass "com/example/gapweave/gapweave/AggregateFunction$Extreme" = some m.cls := hown
  have N0 := Fr.nil n0
  have K0 : Keep h0 h0 [a] := Keep.refl _ _
  refine Wlk.of (fun _ k => castTop (ef_c_xip m a la) k) ?_
  show Wlk p.tables e below (s₁.setTop (mkF m 0 #[rv a, rv la, iv (1 : Int32)] [])) K
  refine Wlk.of (fun _ k => XS.aloadN X0.here hx rfl (hb hby d20_0) rfl rfl k) ?_
  show Wlk p.tables e below (s₁.setTop (mkF m 1 #[rv a, rv la, iv (1 : Int32)] [(.ref a)])) K
  obtain ⟨T1, X1, e1, st1⟩ := initO X0 hx hZ hown (wd hw 148 rfl) (wd hw 47 rfl) (wd hw 48 rfl) e0 (g := (mkF m 1 #[rv a, rv la, iv (1 : Int32)] [(.ref a)])) rfl (by rw [hml]; rfl) rfl (hb hby d20_1) (by decide) (W := 0) (by show 2 * 0 + _ ≤ _; exact Nat.le_of_eq rfl) (by decide)
  refine Wlk.of (fun _ k => st1 _ k) ?_
  show Wlk p.tables e below (T1.setTop (mkF m 4 #[rv a, rv la, iv (1 : Int32)] [])) K
  refine Wlk.of (fun _ k => XS.aloadN X1.here hx rfl (hb hby d20_4) rfl rfl k) ?_
  show Wlk p.tables e below (T1.setTop (mkF m 5 #[rv a, rv la, iv (1 : Int32)] [(.ref a)])) K
  refine Wlk.of (fun _ k => XS.aloadN X1.here hx rfl (hb hby d20_5) rfl rfl k) ?_
  show Wlk p.tables e below (T1.setTop (mkF m 6 #[rv a, rv la, iv (1 : Int32)] [(.ref la), (.ref a)])) K
  obtain ⟨T2, h2, X2, e2, W2, st2⟩ := putF X1 hx hZ hown (host := "") (Or.inl (wd hw 149 rfl)) Via.refl e1 F_a_order E_a (Or.inr ⟨(wd hw 150 rfl), rfl, hnm⟩) (wd hw 130 rfl) (ty := (.object "java/util/Comparator")) (by decide) rfl rfl (g := (mkF m 6 #[rv a, rv la, iv (1 : Int32)] [(.ref la), (.ref a)])) rfl rfl (hb hby d20_6)
  have Fw2 := F_a_order.same W2
  refine Wlk.of (fun _ k => st2 _ k) ?_
  have K3 : Keep h0 h2 [a] := K0.wr W2 (Or.inl (List.mem_of_getElem? (i := 0) rfl))
  have N4 := Fr.snoc X2 N0 g_a
  show Wlk p.tables e below (T2.setTop (mkF m 9 #[rv a, rv la, iv (1 : Int32)] [])) K
  refine Wlk.of (fun _ k => XS.aloadN X2.here hx rfl (hb hby d20_9) rfl rfl k) ?_
  show Wlk p.tables e below (T2.setTop (mkF m 10 #[rv a, rv la, iv (1 : Int32)] [(.ref a)])) K
  refine Wlk.of (fun _ k => XS.iloadN X2.here hx rfl (hb hby d20_10) rfl k) ?_
  show Wlk p.tables e below (T2.setTop (mkF m 11 #[rv a, rv la, iv (1 : Int32)] [(.int (1 : Int32)), (.ref a)])) K
  have f5 : Fld Z h2 a "com/example/gapweave/gapweave/AggregateFunction$Extreme" "sign" "I" (.int (0 : Int32)) := (F_a_sign.other W2 (Or.inr (slot_ne (Or.inr (wd hw 152 rfl)) (Or.inr (wd hw 150 rfl)) (by decide) (t := .int) (t' := (.object "java/util/Comparator")) (by decide) (by decide))))
  have f6 : Exa Z h2 a "com/example/gapweave/gapweave/AggregateFunction$Extreme" := (E_a.wr W2)
  obtain ⟨T7, h7, X7, e7, W7, st7⟩ := putF X2 hx hZ hown (host := "") (Or.inl (wd hw 151 rfl)) Via.refl e2 f5 f6 (Or.inr ⟨(wd hw 152 rfl), rfl, hnm⟩) (wd hw 130 rfl) (ty := .int) (by decide) rfl rfl (g := (mkF m 11 #[rv a, rv la, iv (1 : Int32)] [(.int (1 : Int32)), (.ref a)])) rfl rfl (hb hby d20_11)
  have Fw7 := f5.same W7
  refine Wlk.of (fun _ k => st7 _ k) ?_
  have K8 : Keep h0 h7 [a] := K3.wr W7 (Or.inl (List.mem_of_getElem? (i := 0) rfl))
  have N9 := Fr.snoc X7 N4 g_a
  show Wlk p.tables e below (T7.setTop (mkF m 14 #[rv a, rv la, iv (1 : Int32)] [])) K
  have f10 : Fld Z h7 a "com/example/gapweave/gapweave/AggregateFunction$Extreme" "order" "Ljava/util/Comparator;" (.ref la) := (Fw2.other W7 (Or.inr (slot_ne (Or.inr (wd hw 150 rfl)) (Or.inr (wd hw 152 rfl)) (by decide) (t := (.object "java/util/Comparator")) (t' := .int) (by decide) (by decide))))
  have f11 : Fld Z h7 a "com/example/gapweave/gapweave/AggregateFunction$Extreme" "cell" "Ljava/lang/Object;" .null := ((F_a_cell.other W2 (Or.inr (slot_ne (Or.inl (wd hw 160 rfl)) (Or.inr (wd hw 150 rfl)) (by decide) (t := (.object "java/lang/Object")) (t' := (.object "java/util/Comparator")) (by decide) (by decide)))).other W7 (Or.inr (slot_ne (Or.inl (wd hw 160 rfl)) (Or.inr (wd hw 152 rfl)) (by decide) (t := (.object "java/lang/Object")) (t' := .int) (by decide) (by decide))))
  have f12 : Fld Z h7 a "com/example/gapweave/gapweave/AggregateFunction$Extreme" "value" "Ljava/lang/Object;" .null := ((F_a_value.other W2 (Or.inr (slot_ne (Or.inl (wd hw 162 rfl)) (Or.inr (wd hw 150 rfl)) (by decide) (t := (.object "java/lang/Object")) (t' := (.object "java/util/Comparator")) (by decide) (by decide)))).other W7 (Or.inr (slot_ne (Or.inl (wd hw 162 rfl)) (Or.inr (wd hw 152 rfl)) (by decide) (t := (.object "java/lang/Object")) (t' := .int) (by decide) (by decide))))
  refine hK none X7 (fun q => rfl) (fun fs hr => X7.returnOut hx hret (hb hby d20_14) hr) ?_ (by decide) (by decide)
  rw [show T7.heap = h7 from e7]
  exact ⟨rfl, N9, K8, f10, Fw7, f11, f12⟩
theorem ef_c_xap (m : MethodId) (a : Addr) (u : Addr) (w : Addr) : entryFrame m #[(.ref a), (.ref u), (.ref w)] 3 = mkF m 0 #[rv a, rv u, rv w] [] := by first | (simp [entryFrame, mkF, argsToLocals, Value.category]; done) | rfl
def Q_c_xap (Z : State) (a : Addr) (u : Addr) (w : Addr) (la : Addr) (h0 : Heap) (n0 : Nat) (v : Option Value) (h : Heap) (L : List Loc) : Prop := v = none ∧ Fr n0 L ∧ Keep h0 h [a] ∧ Fld Z h a "com/example/gapweave/gapweave/AggregateFunction$Extreme" "order" "Ljava/util/Comparator;" (.ref la) ∧ Fld Z h a "com/example/gapweave/gapweave/AggregateFunction$Extreme" "sign" "I" (.int (1 : Int32)) ∧ Fld Z h a "com/example/gapweave/gapweave/AggregateFunction$Extreme" "cell" "Ljava/lang/Object;" (.ref u) ∧ Fld Z h a "com/example/gapweave/gapweave/AggregateFunction$Extreme" "value" "Ljava/lang/Object;" (.ref w)
set_option maxRecDepth 65536 in
set_option maxHeartbeats 40000000 in
theorem c_xap (l : Launch) (Z : State) (a0 : Array Value) (hw : ∀ d ∈ tables_1, d.before a0 Z = true) (a : Addr) (u : Addr) (w : Addr) (la : Addr) (h0 : Heap) (n0 : Nat) (Z0 : n0 ≤ h0.size) (E_a : Exa Z h0 a "com/example/gapweave/gapweave/AggregateFunction$Extreme") (F_a_order : Fld Z h0 a "com/example/gapweave/gapweave/AggregateFunction$Extreme" "order" "Ljava/util/Comparator;" (.ref la)) (F_a_sign : Fld Z h0 a "com/example/gapweave/gapweave/AggregateFunction$Extreme" "sign" "I" (.int (1 : Int32))) (F_a_cell : Fld Z h0 a "com/example/gapweave/gapweave/AggregateFunction$Extreme" "cell" "Ljava/lang/Object;" .null) (F_a_value : Fld Z h0 a "com/example/gapweave/gapweave/AggregateFunction$Extreme" "value" "Ljava/lang/Object;" .null) (g_a : n0 ≤ a) :
    Ctr l Z h0 (⟨"com/example/gapweave/gapweave/AggregateFunction$Extreme", "add", "(Ljava/lang/Object;Ljava/lang/Object;)V"⟩ : MethodName) prog_7_method_2_code 3 none [] ({ frames := 0, cells := 0, slots := 0, locals := 0 } : Room) #[(.ref a), (.ref u), (.ref w)] (Q_c_xap Z a u w la h0 n0) := by
  refine Ctr.make (plainFor_of_name pn_220) fun p e s m below meth c s₁ K hret hml hx hby hown hnm hnamed hH hZ X0 e0 hK => ?_
  have hown : s.vm.findClass "com/example/gapweave/gapweave/AggregateFunction$Extreme" = some m.cls := hown
  have N0 := Fr.nil n0
  have K0 : Keep h0 h0 [a] := Keep.refl _ _
  refine Wlk.of (fun _ k => castTop (ef_c_xap m a u w) k) ?_
  show Wlk p.tables e below (s₁.setTop (mkF m 0 #[rv a, rv u, rv w] [])) K
  refine Wlk.of (fun _ k => XS.aloadN X0.here hx rfl (hb hby d21_0) rfl rfl k) ?_
  show Wlk p.tables e below (s₁.setTop (mkF m 1 #[rv a, rv u, rv w] [(.ref a)])) K
  obtain ⟨T1, X1, e1, st1⟩ := getF X0 hx hZ hown (host := "") (Or.inl (wd hw 159 rfl)) Via.refl e0 F_a_cell (g := (mkF m 1 #[rv a, rv u, rv w] [(.ref a)])) rfl rfl (hb hby d21_1)
  refine Wlk.of (fun _ k => st1 _ k) ?_
  show Wlk p.tables e below (T1.setTop (mkF m 4 #[rv a, rv u, rv w] [.null])) K
  refine Wlk.of (fun _ k => XS.ifnullYes X1.here hx rfl (pc0 := 4) (pc' := 29) rfl (hb hby d21_4) rfl (by decide) (by decide) k) ?_
  show Wlk p.tables e below (T1.setTop (mkF m 29 #[rv a, rv u, rv w] [])) K
  refine Wlk.of (fun _ k => XS.aloadN X1.here hx rfl (hb hby d21_29) rfl rfl k) ?_
  show Wlk p.tables e below (T1.setTop (mkF m 30 #[rv a, rv u, rv w] [(.ref a)])) K
  refine Wlk.of (fun _ k => XS.aloadN X1.here hx rfl (hb hby d21_30) rfl rfl k) ?_
  show Wlk p.tables e below (T1.setTop (mkF m 31 #[rv a, rv u, rv w] [(.ref u), (.ref a)])) K
  obtain ⟨T2, h2, X2, e2, W2, st2⟩ := putF X1 hx hZ hown (host := "") (Or.inl (wd hw 159 rfl)) Via.refl e1 F_a_cell E_a (Or.inl (wd hw 160 rfl)) (wd hw 130 rfl) (ty := (.object "java/lang/Object")) (by decide) rfl rfl (g := (mkF m 31 #[rv a, rv u, rv w] [(.ref u), (.ref a)])) rfl rfl (hb hby d21_31)
  have Fw2 := F_a_cell.same W2
  refine Wlk.of (fun _ k => st2 _ k) ?_
  have K3 : Keep h0 h2 [a] := K0.wr W2 (Or.inl (List.mem_of_getElem? (i := 0) rfl))
  have N4 := Fr.snoc X2 N0 g_a
  show Wlk p.tables e below (T2.setTop (mkF m 34 #[rv a, rv u, rv w] [])) K
  refine Wlk.of (fun _ k => XS.aloadN X2.here hx rfl (hb hby d21_34) rfl rfl k) ?_
  show Wlk p.tables e below (T2.setTop (mkF m 35 #[rv a, rv u, rv w] [(.ref a)])) K
  refine Wlk.of (fun _ k => XS.aloadN X2.here hx rfl (hb hby d21_35) rfl rfl k) ?_
  show Wlk p.tables e below (T2.setTop (mkF m 36 #[rv a, rv u, rv w] [(.ref w), (.ref a)])) K
  have f5 : Fld Z h2 a "com/example/gapweave/gapweave/AggregateFunction$Extreme" "value" "Ljava/lang/Object;" .null := (F_a_value.other W2 (Or.inr (slot_ne (Or.inl (wd hw 162 rfl)) (Or.inl (wd hw 160 rfl)) (by decide) (t := (.object "java/lang/Object")) (t' := (.object "java/lang/Object")) (by decide) (by decide))))
  have f6 : Exa Z h2 a "com/example/gapweave/gapweave/AggregateFunction$Extreme" := (E_a.wr W2)
  obtain ⟨T7, h7, X7, e7, W7, st7⟩ := putF X2 hx hZ hown (host := "") (Or.inl (wd hw 161 rfl)) Via.refl e2 f5 f6 (Or.inl (wd hw 162 rfl)) (wd hw 130 rfl) (ty := (.object "java/lang/Object")) (by decide) rfl rfl (g := (mkF m 36 #[rv a, rv u, rv w] [(.ref w), (.ref a)])) rfl rfl (hb hby d21_36)
  have Fw7 := f5.same W7
  refine Wlk.of (fun _ k => st7 _ k) ?_
  have K8 : Keep h0 h7 [a] := K3.wr W7 (Or.inl (List.mem_of_getElem? (i := 0) rfl))
  have N9 := Fr.snoc X7 N4 g_a
  show Wlk p.tables e below (T7.setTop (mkF m 39 #[rv a, rv u, rv w] [])) K
  have f10 : Fld Z h7 a "com/example/gapweave/gapweave/AggregateFunction$Extreme" "order" "Ljava/util/Comparator;" (.ref la) := ((F_a_order.other W2 (Or.inr (slot_ne (Or.inr (wd hw 150 rfl)) (Or.inl (wd hw 160 rfl)) (by decide) (t := (.object "java/util/Comparator")) (t' := (.object "java/lang/Object")) (by decide) (by decide)))).other W7 (Or.inr (slot_ne (Or.inr (wd hw 150 rfl)) (Or.inl (wd hw 162 rfl)) (by decide) (t := (.object "java/util/Comparator")) (t' := (.object "java/lang/Object")) (by decide) (by decide))))
  have f11 : Fld Z h7 a "com/example/gapweave/gapweave/AggregateFunction$Extreme" "sign" "I" (.int (1 : Int32)) := ((F_a_sign.other W2 (Or.inr (slot_ne (Or.inr (wd hw 152 rfl)) (Or.inl (wd hw 160 rfl)) (by decide) (t := .int) (t' := (.object "java/lang/Object")) (by decide) (by decide)))).other W7 (Or.inr (slot_ne (Or.inr (wd hw 152 rfl)) (Or.inl (wd hw 162 rfl)) (by decide) (t := .int) (t' := (.object "java/lang/Object")) (by decide) (by decide))))
  have f12 : Fld Z h7 a "com/example/gapweave/gapweave/AggregateFunction$Extreme" "cell" "Ljava/lang/Object;" (.ref u) := (Fw2.other W7 (Or.inr (slot_ne (Or.inl (wd hw 160 rfl)) (Or.inl (wd hw 162 rfl)) (by decide) (t := (.object "java/lang/Object")) (t' := (.object "java/lang/Object")) (by decide) (by decide))))
  refine hK none X7 (fun q => rfl) (fun fs hr => X7.returnOut hx hret (hb hby d21_39) hr) ?_ (by decide) (by decide)
  rw [show T7.heap = h7 from e7]
  exact ⟨rfl, N9, K8, f10, f11, f12, Fw7⟩
theorem ef_c_xbp0 (m : MethodId) (a : Addr) (u : Addr) (w : Addr) : entryFrame m #[(.ref a), (.ref u), (.ref w)] 3 = mkF m 0 #[rv a, rv u, rv w] [] := by first | (simp [entryFrame, mkF, argsToLocals, Value.category]; done) | rfl
def Q_c_xbp0 (Z : State) (a : Addr) (u : Addr) (w : Addr) (la : Addr) (y : Addr) (z : Addr) (cK : ClassId) (h0 : Heap) (n0 : Nat) (v : Option Value) (h : Heap) (L : List Loc) : Prop := v = none ∧ Fr n0 L ∧ Keep h0 h [a] ∧ Fld Z h a "com/example/gapweave/gapweave/AggregateFunction$Extreme" "order" "Ljava/util/Comparator;" (.ref la) ∧ Fld Z h a "com/example/gapweave/gapweave/AggregateFunction$Extreme" "sign" "I" (.int (1 : Int32)) ∧ Fld Z h a "com/example/gapweave/gapweave/AggregateFunction$Extreme" "cell" "Ljava/lang/Object;" (.ref u) ∧ Fld Z h a "com/example/gapweave/gapweave/AggregateFunction$Extreme" "value" "Ljava/lang/Object;" (.ref w)
set_option maxRecDepth 65536 in
set_option maxHeartbeats 40000000 in
theorem c_xbp0 (l : Launch) (Z : State) (a0 : Array Value) (hw : ∀ d ∈ tables_1, d.before a0 Z = true) (a : Addr) (u : Addr) (w : Addr) (la : Addr) (y : Addr) (z : Addr) (cK : ClassId) (h0 : Heap) (n0 : Nat) (Z0 : n0 ≤ h0.size) (E_a : Exa Z h0 a "com/example/gapweave/gapweave/AggregateFunction$Extreme") (F_a_order : Fld Z h0 a "com/example/gapweave/gapweave/AggregateFunction$Extreme" "order" "Ljava/util/Comparator;" (.ref la)) (F_a_sign : Fld Z h0 a "com/example/gapweave/gapweave/AggregateFunction$Extreme" "sign" "I" (.int (1 : Int32))) (F_a_cell : Fld Z h0 a "com/example/gapweave/gapweave/AggregateFunction$Extreme" "cell" "Ljava/lang/Object;" (.ref y)) (F_a_value : Fld Z h0 a "com/example/gapweave/gapweave/AggregateFunction$Extreme" "value" "Ljava/lang/Object;" (.ref z)) (E_w : Exa Z h0 w "java/lang/Long") (F_w_value : Fld Z h0 w "java/lang/Long" "value" "J" (.long (1 : Int64))) (E_z : Exa Z h0 z "java/lang/Long") (F_z_value : Fld Z h0 z "java/lang/Long" "value" "J" (.long (0 : Int64))) (Fn_la : Fn h0 la cK) (hmade : Jvm.LamKit.Made Z "com/example/gapweave/gapweave/AggregateFunction" own_sg cK) (g_a : n0 ≤ a) :
    Ctr l Z h0 (⟨"com/example/gapweave/gapweave/AggregateFunction$Extreme", "add", "(Ljava/lang/Object;Ljava/lang/Object;)V"⟩ : MethodName) prog_7_method_2_code 3 none [] ({ frames := 3, cells := 0, slots := 0, locals := 43 } : Room) #[(.ref a), (.ref u), (.ref w)] (Q_c_xbp0 Z a u w la y z cK h0 n0) := by
  refine Ctr.make (plainFor_of_name pn_220) fun p e s m below meth c s₁ K hret hml hx hby hown hnm hnamed hH hZ X0 e0 hK => ?_
  have hown : s.vm.findClass "com/example/gapweave/gapweave/AggregateFunction$Extreme" = some m.cls := hown
  have N0 := Fr.nil n0
  have K0 : Keep h0 h0 [a] := Keep.refl _ _
  refine Wlk.of (fun _ k => castTop (ef_c_xbp0 m a u w) k) ?_
  show Wlk p.tables e below (s₁.setTop (mkF m 0 #[rv a, rv u, rv w] [])) K
  refine Wlk.of (fun _ k => XS.aloadN X0.here hx rfl (hb hby d21_0) rfl rfl k) ?_
  show Wlk p.tables e below (s₁.setTop (mkF m 1 #[rv a, rv u, rv w] [(.ref a)])) K
  obtain ⟨T1, X1, e1, st1⟩ := getF X0 hx hZ hown (host := "") (Or.inl (wd hw 159 rfl)) Via.refl e0 F_a_cell (g := (mkF m 1 #[rv a, rv u, rv w] [(.ref a)])) rfl rfl (hb hby d21_1)
  refine Wlk.of (fun _ k => st1 _ k) ?_
  show Wlk p.tables e below (T1.setTop (mkF m 4 #[rv a, rv u, rv w] [(.ref y)])) K
  refine Wlk.of (fun _ k => XS.ifnullNo X1.here hx rfl (hb hby d21_4) rfl k) ?_
  show Wlk p.tables e below (T1.setTop (mkF m 7 #[rv a, rv u, rv w] [])) K
  refine Wlk.of (fun _ k => XS.aloadN X1.here hx rfl (hb hby d21_7) rfl rfl k) ?_
  show Wlk p.tables e below (T1.setTop (mkF m 8 #[rv a, rv u, rv w] [(.ref a)])) K
  obtain ⟨T2, X2, e2, st2⟩ := getF X1 hx hZ hown (host := "") (Or.inl (wd hw 151 rfl)) Via.refl e1 F_a_sign (g := (mkF m 8 #[rv a, rv u, rv w] [(.ref a)])) rfl rfl (hb hby d21_8)
  refine Wlk.of (fun _ k => st2 _ k) ?_
  show Wlk p.tables e below (T2.setTop (mkF m 11 #[rv a, rv u, rv w] [(.int (1 : Int32))])) K
  refine Wlk.of (fun _ k => XS.aloadN X2.here hx rfl (hb hby d21_11) rfl rfl k) ?_
  show Wlk p.tables e below (T2.setTop (mkF m 12 #[rv a, rv u, rv w] [(.ref a), (.int (1 : Int32))])) K
  obtain ⟨T3, X3, e3, st3⟩ := getF X2 hx hZ hown (host := "") (Or.inl (wd hw 149 rfl)) Via.refl e2 F_a_order (g := (mkF m 12 #[rv a, rv u, rv w] [(.ref a), (.int (1 : Int32))])) rfl rfl (hb hby d21_12)
  refine Wlk.of (fun _ k => st3 _ k) ?_
  show Wlk p.tables e below (T3.setTop (mkF m 15 #[rv a, rv u, rv w] [(.ref la), (.int (1 : Int32))])) K
  refine Wlk.of (fun _ k => XS.aloadN X3.here hx rfl (hb hby d21_15) rfl rfl k) ?_
  show Wlk p.tables e below (T3.setTop (mkF m 16 #[rv a, rv u, rv w] [(.ref w), (.ref la), (.int (1 : Int32))])) K
  refine Wlk.of (fun _ k => XS.aloadN X3.here hx rfl (hb hby d21_16) rfl rfl k) ?_
  show Wlk p.tables e below (T3.setTop (mkF m 17 #[rv a, rv u, rv w] [(.ref a), (.ref w), (.ref la), (.int (1 : Int32))])) K
  obtain ⟨T4, X4, e4, st4⟩ := getF X3 hx hZ hown (host := "") (Or.inl (wd hw 161 rfl)) Via.refl e3 F_a_value (g := (mkF m 17 #[rv a, rv u, rv w] [(.ref a), (.ref w), (.ref la), (.int (1 : Int32))])) rfl rfl (hb hby d21_17)
  refine Wlk.of (fun _ k => st4 _ k) ?_
  show Wlk p.tables e below (T4.setTop (mkF m 20 #[rv a, rv u, rv w] [(.ref z), (.ref w), (.ref la), (.int (1 : Int32))])) K
  obtain ⟨T5, L5, X5, N5, e5, st5⟩ := Ctr.lam (y := (⟨"com/example/gapweave/gapweave/AggregateFunction", "lambda$order$0", "(Ljava/lang/Object;Ljava/lang/Object;)I"⟩ : MethodName)) (xi := (⟨"java/util/Comparator", "compare", "(Ljava/lang/Object;Ljava/lang/Object;)I"⟩ : MethodName)) (w := (1 : Int32)) (c_la10 l Z a0 hw w z h0 n0 (Nat.le_trans Z0 K0.1) E_w F_w_value E_z F_z_value) (fun _ _ _ q => q) X4 hx hH e4 hown (wd hw 163 rfl) (wd hw 164 rfl) (wd hw 165 rfl) (wd hw 167 rfl) (wd hw 166 rfl) (wd hw 6 rfl) ⟨rfl, rfl, (by decide +kernel)⟩ ⟨rfl, rfl, (by decide +kernel)⟩ (by decide) (by decide) hmade Fn_la own_fwd own_f0 own_f1 own_f2 own_f5 (g := (mkF m 20 #[rv a, rv u, rv w] [(.ref z), (.ref w), (.ref la), (.int (1 : Int32))])) rfl (by rw [hml]; rfl) (rest := [(.int (1 : Int32))]) rfl pd_231 pd_231 rfl (W := 1) (by show 2 * 0 + _ ≤ _; exact Nat.le_of_eq rfl) (by decide) (by decide) (hb hby d21_20) rfl rfl (by decide) (by decide)
  have N6 := Fr.app N0 N5
  refine Wlk.of (fun _ k => st5 _ k) ?_
  show Wlk p.tables e below (T5.setTop (mkF m 25 #[rv a, rv u, rv w] [(.int (1 : Int32)), (.int (1 : Int32))])) K
  refine Wlk.of (fun _ k => XS.imul X5.here hx rfl (hb hby d21_25) rfl k) ?_
  show Wlk p.tables e below (T5.setTop (mkF m 26 #[rv a, rv u, rv w] [(.int (1 : Int32))])) K
  refine Wlk.of (fun _ k => XS.ifNo X5.here hx rfl (hb hby d21_26) rfl ((if0 _ _).trans (tlt (by decide : (0 : Int32) < (1 : Int32))).2.2.2) k) ?_
  show Wlk p.tables e below (T5.setTop (mkF m 29 #[rv a, rv u, rv w] [])) K
  refine Wlk.of (fun _ k => XS.aloadN X5.here hx rfl (hb hby d21_29) rfl rfl k) ?_
  show Wlk p.tables e below (T5.setTop (mkF m 30 #[rv a, rv u, rv w] [(.ref a)])) K
  refine Wlk.of (fun _ k => XS.aloadN X5.here hx rfl (hb hby d21_30) rfl rfl k) ?_
  show Wlk p.tables e below (T5.setTop (mkF m 31 #[rv a, rv u, rv w] [(.ref u), (.ref a)])) K
  obtain ⟨T7, h7, X7, e7, W7, st7⟩ := putF X5 hx hZ hown (host := "") (Or.inl (wd hw 159 rfl)) Via.refl e5 F_a_cell E_a (Or.inl (wd hw 160 rfl)) (wd hw 130 rfl) (ty := (.object "java/lang/Object")) (by decide) rfl rfl (g := (mkF m 31 #[rv a, rv u, rv w] [(.ref u), (.ref a)])) rfl rfl (hb hby d21_31)
  have Fw7 := F_a_cell.same W7
  refine Wlk.of (fun _ k => st7 _ k) ?_
  have K8 : Keep h0 h7 [a] := K0.wr W7 (Or.inl (List.mem_of_getElem? (i := 0) rfl))
  have N9 := Fr.snoc X7 N6 g_a
  show Wlk p.tables e below (T7.setTop (mkF m 34 #[rv a, rv u, rv w] [])) K
  refine Wlk.of (fun _ k => XS.aloadN X7.here hx rfl (hb hby d21_34) rfl rfl k) ?_
  show Wlk p.tables e below (T7.setTop (mkF m 35 #[rv a, rv u, rv w] [(.ref a)])) K
  refine Wlk.of (fun _ k => XS.aloadN X7.here hx rfl (hb hby d21_35) rfl rfl k) ?_
  show Wlk p.tables e below (T7.setTop (mkF m 36 #[rv a, rv u, rv w] [(.ref w), (.ref a)])) K
  have f10 : Fld Z h7 a "com/example/gapweave/gapweave/AggregateFunction$Extreme" "value" "Ljava/lang/Object;" (.ref z) := (F_a_value.other W7 (Or.inr (slot_ne (Or.inl (wd hw 162 rfl)) (Or.inl (wd hw 160 rfl)) (by decide) (t := (.object "java/lang/Object")) (t' := (.object "java/lang/Object")) (by decide) (by decide))))
  have f11 : Exa Z h7 a "com/example/gapweave/gapweave/AggregateFunction$Extreme" := (E_a.wr W7)
  obtain ⟨T12, h12, X12, e12, W12, st12⟩ := putF X7 hx hZ hown (host := "") (Or.inl (wd hw 161 rfl)) Via.refl e7 f10 f11 (Or.inl (wd hw 162 rfl)) (wd hw 130 rfl) (ty := (.object "java/lang/Object")) (by decide) rfl rfl (g := (mkF m 36 #[rv a, rv u, rv w] [(.ref w), (.ref a)])) rfl rfl (hb hby d21_36)
  have Fw12 := f10.same W12
  refine Wlk.of (fun _ k => st12 _ k) ?_
  have K13 : Keep h0 h12 [a] := K8.wr W12 (Or.inl (List.mem_of_getElem? (i := 0) rfl))
  have N14 := Fr.snoc X12 N9 g_a
  show Wlk p.tables e below (T12.setTop (mkF m 39 #[rv a, rv u, rv w] [])) K
  have f15 : Fld Z h12 a "com/example/gapweave/gapweave/AggregateFunction$Extreme" "order" "Ljava/util/Comparator;" (.ref la) := ((F_a_order.other W7 (Or.inr (slot_ne (Or.inr (wd hw 150 rfl)) (Or.inl (wd hw 160 rfl)) (by decide) (t := (.object "java/util/Comparator")) (t' := (.object "java/lang/Object")) (by decide) (by decide)))).other W12 (Or.inr (slot_ne (Or.inr (wd hw 150 rfl)) (Or.inl (wd hw 162 rfl)) (by decide) (t := (.object "java/util/Comparator")) (t' := (.object "java/lang/Object")) (by decide) (by decide))))
  have f16 : Fld Z h12 a "com/example/gapweave/gapweave/AggregateFunction$Extreme" "sign" "I" (.int (1 : Int32)) := ((F_a_sign.other W7 (Or.inr (slot_ne (Or.inr (wd hw 152 rfl)) (Or.inl (wd hw 160 rfl)) (by decide) (t := .int) (t' := (.object "java/lang/Object")) (by decide) (by decide)))).other W12 (Or.inr (slot_ne (Or.inr (wd hw 152 rfl)) (Or.inl (wd hw 162 rfl)) (by decide) (t := .int) (t' := (.object "java/lang/Object")) (by decide) (by decide))))
  have f17 : Fld Z h12 a "com/example/gapweave/gapweave/AggregateFunction$Extreme" "cell" "Ljava/lang/Object;" (.ref u) := (Fw7.other W12 (Or.inr (slot_ne (Or.inl (wd hw 160 rfl)) (Or.inl (wd hw 162 rfl)) (by decide) (t := (.object "java/lang/Object")) (t' := (.object "java/lang/Object")) (by decide) (by decide))))
  refine hK none X12 (fun q => rfl) (fun fs hr => X12.returnOut hx hret (hb hby d21_39) hr) ?_ (by decide) (by decide)
  rw [show T12.heap = h12 from e12]
  exact ⟨rfl, N14, K13, f15, f16, f17, Fw12⟩
theorem ef_c_xbp2 (m : MethodId) (a : Addr) (u : Addr) (w : Addr) : entryFrame m #[(.ref a), (.ref u), (.ref w)] 3 = mkF m 0 #[rv a, rv u, rv w] [] := by first | (simp [entryFrame, mkF, argsToLocals, Value.category]; done) | rfl
def Q_c_xbp2 (Z : State) (a : Addr) (u : Addr) (w : Addr) (la : Addr) (y : Addr) (z : Addr) (cK : ClassId) (h0 : Heap) (n0 : Nat) (v : Option Value) (h : Heap) (L : List Loc) : Prop := v = none ∧ Fr n0 L ∧ h = h0
set_option maxRecDepth 65536 in
set_option maxHeartbeats 40000000 in
theorem c_xbp2 (l : Launch) (Z : State) (a0 : Array Value) (hw : ∀ d ∈ tables_1, d.before a0 Z = true) (a : Addr) (u : Addr) (w : Addr) (la : Addr) (y : Addr) (z : Addr) (cK : ClassId) (h0 : Heap) (n0 : Nat) (Z0 : n0 ≤ h0.size) (E_a : Exa Z h0 a "com/example/gapweave/gapweave/AggregateFunction$Extreme") (F_a_order : Fld Z h0 a "com/example/gapweave/gapweave/AggregateFunction$Extreme" "order" "Ljava/util/Comparator;" (.ref la)) (F_a_sign : Fld Z h0 a "com/example/gapweave/gapweave/AggregateFunction$Extreme" "sign" "I" (.int (1 : Int32))) (F_a_cell : Fld Z h0 a "com/example/gapweave/gapweave/AggregateFunction$Extreme" "cell" "Ljava/lang/Object;" (.ref y)) (F_a_value : Fld Z h0 a "com/example/gapweave/gapweave/AggregateFunction$Extreme" "value" "Ljava/lang/Object;" (.ref z)) (E_w : Exa Z h0 w "java/lang/Long") (F_w_value : Fld Z h0 w "java/lang/Long" "value" "J" (.long (1 : Int64))) (E_z : Exa Z h0 z "java/lang/Long") (F_z_value : Fld Z h0 z "java/lang/Long" "value" "J" (.long (2 : Int64))) (Fn_la : Fn h0 la cK) (hmade : Jvm.LamKit.Made Z "com/example/gapweave/gapweave/AggregateFunction" own_sg cK) (g_a : n0 ≤ a) :
    Ctr l Z h0 (⟨"com/example/gapweave/gapweave/AggregateFunction$Extreme", "add", "(Ljava/lang/Object;Ljava/lang/Object;)V"⟩ : MethodName) prog_7_method_2_code 3 none [] ({ frames := 3, cells := 0, slots := 0, locals := 43 } : Room) #[(.ref a), (.ref u), (.ref w)] (Q_c_xbp2 Z a u w la y z cK h0 n0) := by
  refine Ctr.make (plainFor_of_name pn_220) fun p e s m below meth c s₁ K hret hml hx hby hown hnm hnamed hH hZ X0 e0 hK => ?_
  have hown : s.vm.findClass "com/example/gapweave/gapweave/AggregateFunction$Extreme" = some m.cls := hown
  have N0 := Fr.nil n0
  have K0 : Keep h0 h0 [] := Keep.refl _ _
  refine Wlk.of (fun _ k => castTop (ef_c_xbp2 m a u w) k) ?_
  show Wlk p.tables e below (s₁.setTop (mkF m 0 #[rv a, rv u, rv w] [])) K
  refine Wlk.of (fun _ k => XS.aloadN X0.here hx rfl (hb hby d21_0) rfl rfl k) ?_
  show Wlk p.tables e below (s₁.setTop (mkF m 1 #[rv a, rv u, rv w] [(.ref a)])) K
  obtain ⟨T1, X1, e1, st1⟩ := getF X0 hx hZ hown (host := "") (Or.inl (wd hw 159 rfl)) Via.refl e0 F_a_cell (g := (mkF m 1 #[rv a, rv u, rv w] [(.ref a)])) rfl rfl (hb hby d21_1)
  refine Wlk.of (fun _ k => st1 _ k) ?_
  show Wlk p.tables e below (T1.setTop (mkF m 4 #[rv a, rv u, rv w] [(.ref y)])) K
  refine Wlk.of (fun _ k => XS.ifnullNo X1.here hx rfl (hb hby d21_4) rfl k) ?_
  show Wlk p.tables e below (T1.setTop (mkF m 7 #[rv a, rv u, rv w] [])) K
  refine Wlk.of (fun _ k => XS.aloadN X1.here hx rfl (hb hby d21_7) rfl rfl k) ?_
  show Wlk p.tables e below (T1.setTop (mkF m 8 #[rv a, rv u, rv w] [(.ref a)])) K
  obtain ⟨T2, X2, e2, st2⟩ := getF X1 hx hZ hown (host := "") (Or.inl (wd hw 151 rfl)) Via.refl e1 F_a_sign (g := (mkF m 8 #[rv a, rv u, rv w] [(.ref a)])) rfl rfl (hb hby d21_8)
  refine Wlk.of (fun _ k => st2 _ k) ?_
  show Wlk p.tables e below (T2.setTop (mkF m 11 #[rv a, rv u, rv w] [(.int (1 : Int32))])) K
  refine Wlk.of (fun _ k => XS.aloadN X2.here hx rfl (hb hby d21_11) rfl rfl k) ?_
  show Wlk p.tables e below (T2.setTop (mkF m 12 #[rv a, rv u, rv w] [(.ref a), (.int (1 : Int32))])) K
  obtain ⟨T3, X3, e3, st3⟩ := getF X2 hx hZ hown (host := "") (Or.inl (wd hw 149 rfl)) Via.refl e2 F_a_order (g := (mkF m 12 #[rv a, rv u, rv w] [(.ref a), (.int (1 : Int32))])) rfl rfl (hb hby d21_12)
  refine Wlk.of (fun _ k => st3 _ k) ?_
  show Wlk p.tables e below (T3.setTop (mkF m 15 #[rv a, rv u, rv w] [(.ref la), (.int (1 : Int32))])) K
  refine Wlk.of (fun _ k => XS.aloadN X3.here hx rfl (hb hby d21_15) rfl rfl k) ?_
  show Wlk p.tables e below (T3.setTop (mkF m 16 #[rv a, rv u, rv w] [(.ref w), (.ref la), (.int (1 : Int32))])) K
  refine Wlk.of (fun _ k => XS.aloadN X3.here hx rfl (hb hby d21_16) rfl rfl k) ?_
  show Wlk p.tables e below (T3.setTop (mkF m 17 #[rv a, rv u, rv w] [(.ref a), (.ref w), (.ref la), (.int (1 : Int32))])) K
  obtain ⟨T4, X4, e4, st4⟩ := getF X3 hx hZ hown (host := "") (Or.inl (wd hw 161 rfl)) Via.refl e3 F_a_value (g := (mkF m 17 #[rv a, rv u, rv w] [(.ref a), (.ref w), (.ref la), (.int (1 : Int32))])) rfl rfl (hb hby d21_17)
  refine Wlk.of (fun _ k => st4 _ k) ?_
  show Wlk p.tables e below (T4.setTop (mkF m 20 #[rv a, rv u, rv w] [(.ref z), (.ref w), (.ref la), (.int (1 : Int32))])) K
  obtain ⟨T5, L5, X5, N5, e5, st5⟩ := Ctr.lam (y := (⟨"com/example/gapweave/gapweave/AggregateFunction", "lambda$order$0", "(Ljava/lang/Object;Ljava/lang/Object;)I"⟩ : MethodName)) (xi := (⟨"java/util/Comparator", "compare", "(Ljava/lang/Object;Ljava/lang/Object;)I"⟩ : MethodName)) (w := (-1 : Int32)) (c_la12 l Z a0 hw w z h0 n0 (Nat.le_trans Z0 K0.1) E_w F_w_value E_z F_z_value) (fun _ _ _ q => q) X4 hx hH e4 hown (wd hw 163 rfl) (wd hw 164 rfl) (wd hw 165 rfl) (wd hw 167 rfl) (wd hw 166 rfl) (wd hw 6 rfl) ⟨rfl, rfl, (by decide +kernel)⟩ ⟨rfl, rfl, (by decide +kernel)⟩ (by decide) (by decide) hmade Fn_la own_fwd own_f0 own_f1 own_f2 own_f5 (g := (mkF m 20 #[rv a, rv u, rv w] [(.ref z), (.ref w), (.ref la), (.int (1 : Int32))])) rfl (by rw [hml]; rfl) (rest := [(.int (1 : Int32))]) rfl pd_231 pd_231 rfl (W := 1) (by show 2 * 0 + _ ≤ _; exact Nat.le_of_eq rfl) (by decide) (by decide) (hb hby d21_20) rfl rfl (by decide) (by decide)
  have N6 := Fr.app N0 N5
  refine Wlk.of (fun _ k => st5 _ k) ?_
  show Wlk p.tables e below (T5.setTop (mkF m 25 #[rv a, rv u, rv w] [(.int (-1 : Int32)), (.int (1 : Int32))])) K
  refine Wlk.of (fun _ k => XS.imul X5.here hx rfl (hb hby d21_25) rfl k) ?_
  show Wlk p.tables e below (T5.setTop (mkF m 26 #[rv a, rv u, rv w] [(.int (-1 : Int32))])) K
  refine Wlk.of (fun _ k => XS.ifYes X5.here hx rfl (pc0 := 26) (pc' := 39) rfl (hb hby d21_26) rfl ((if0 _ _).trans (flt (by decide : ¬ ((0 : Int32) < (-1 : Int32)))).2.2.2) (by decide) (by decide) k) ?_
  show Wlk p.tables e below (T5.setTop (mkF m 39 #[rv a, rv u, rv w] [])) K
  refine hK none X5 (fun q => rfl) (fun fs hr => X5.returnOut hx hret (hb hby d21_39) hr) ?_ (by decide) (by decide)
  rw [show T5.heap = h0 from e5]
  exact ⟨rfl, N6, rfl⟩
theorem d24_0 : decode prog_7_method_3_code 0 = .ok (.aload_n 0, 1) := by decide +kernel
theorem d24_1 : decode prog_7_method_3_code 1 = .ok (.getfield 17, 3) := by decide +kernel
theorem d24_4 : decode prog_7_method_3_code 4 = .ok (.areturn, 1) := by decide +kernel
theorem ef_c_xr (m : MethodId) (a : Addr) : entryFrame m #[(.ref a)] 1 = mkF m 0 #[rv a] [] := by first | (simp [entryFrame, mkF, argsToLocals, Value.category]; done) | rfl
def Q_c_xr (Z : State) (a : Addr) (y : Addr) (h0 : Heap) (n0 : Nat) (v : Option Value) (h : Heap) (L : List Loc) : Prop := v = (some (.ref y)) ∧ Fr n0 L ∧ h = h0
set_option maxRecDepth 65536 in
set_option maxHeartbeats 40000000 in
theorem c_xr (l : Launch) (Z : State) (a0 : Array Value) (hw : ∀ d ∈ tables_1, d.before a0 Z = true) (a : Addr) (y : Addr) (h0 : Heap) (n0 : Nat) (Z0 : n0 ≤ h0.size) (F_a_cell : Fld Z h0 a "com/example/gapweave/gapweave/AggregateFunction$Extreme" "cell" "Ljava/lang/Object;" (.ref y)) :
    Ctr l Z h0 (⟨"com/example/gapweave/gapweave/AggregateFunction$Extreme", "result", "()Ljava/lang/Object;"⟩ : MethodName) prog_7_method_3_code 1 (some (.object "java/lang/Object")) [] ({ frames := 0, cells := 0, slots := 0, locals := 0 } : Room) #[(.ref a)] (Q_c_xr Z a y h0 n0) := by
  refine Ctr.make (plainFor_of_name pn_220) fun p e s m below meth c s₁ K hret hml hx hby hown hnm hnamed hH hZ X0 e0 hK => ?_
  have hown : s.vm.findClass "com/example/gapweave/gapweave/AggregateFunction$Extreme" = some m.cls := hown
  have N0 := Fr.nil n0
  have K0 : Keep h0 h0 [] := Keep.refl _ _
  refine Wlk.of (fun _ k => castTop (ef_c_xr m a) k) ?_
  show Wlk p.tables e below (s₁.setTop (mkF m 0 #[rv a] [])) K
  refine Wlk.of (fun _ k => XS.aloadN X0.here hx rfl (hb hby d24_0) rfl rfl k) ?_
  show Wlk p.tables e below (s₁.setTop (mkF m 1 #[rv a] [(.ref a)])) K
  obtain ⟨T1, X1, e1, st1⟩ := getF X0 hx hZ hown (host := "") (Or.inl (wd hw 159 rfl)) Via.refl e0 F_a_cell (g := (mkF m 1 #[rv a] [(.ref a)])) rfl rfl (hb hby d24_1)
  refine Wlk.of (fun _ k => st1 _ k) ?_
  show Wlk p.tables e below (T1.setTop (mkF m 4 #[rv a] [(.ref y)])) K
  refine hK (some (.ref y)) X1 (fun q => by cases q) (fun fs hr => retOut X1 hx hret rfl (Or.inr (Or.inr (Or.inr (Or.inr ⟨rfl, rfl, rfl⟩)))) (hb hby d24_4) hr) ?_ (by decide) (by decide)
  rw [show T1.heap = h0 from e1]
  exact ⟨rfl, N0, rfl⟩
theorem d16_0 : decode method_4_code 0 = .ok (.aload_n 0, 1) := by decide +kernel
theorem d16_1 : decode method_4_code 1 = .ok (.aload_n 1, 1) := by decide +kernel
theorem d16_2 : decode method_4_code 2 = .ok (.if_acmp .ne 5, 3) := by decide +kernel
theorem d16_5 : decode method_4_code 5 = .ok (.iconst 1, 1) := by decide +kernel
theorem d16_6 : decode method_4_code 6 = .ok (.ireturn, 1) := by decide +kernel
theorem pn_250 : plainName "com/example/gapweave/gapweave/AggregateFunctionReadsValuesPinLaw" = true := by first | (simp [plainName, overriddenIn]; done) | decide +kernel
theorem ef_c_seq (m : MethodId) (a : Addr) : entryFrame m #[(.ref a), (.ref a)] 2 = mkF m 0 #[rv a, rv a] [] := by first | (simp [entryFrame, mkF, argsToLocals, Value.category]; done) | rfl
def Q_c_seq (Z : State) (a : Addr) (h0 : Heap) (n0 : Nat) (v : Option Value) (h : Heap) (L : List Loc) : Prop := v = (some (.int (1 : Int32))) ∧ Fr n0 L ∧ h = h0
set_option maxRecDepth 65536 in
set_option maxHeartbeats 40000000 in
theorem c_seq (l : Launch) (Z : State) (a0 : Array Value) (hw : ∀ d ∈ tables_1, d.before a0 Z = true) (a : Addr) (h0 : Heap) (n0 : Nat) (Z0 : n0 ≤ h0.size) :
    Ctr l Z h0 (⟨"com/example/gapweave/gapweave/AggregateFunctionReadsValuesPinLaw", "same", "(Ljava/lang/Object;Ljava/lang/Object;)Z"⟩ : MethodName) method_4_code 2 (some .boolean) [] ({ frames := 0, cells := 0, slots := 0, locals := 0 } : Room) #[(.ref a), (.ref a)] (Q_c_seq Z a h0 n0) := by
  refine Ctr.make (plainFor_of_name pn_250) fun p e s m below meth c s₁ K hret hml hx hby hown hnm hnamed hH hZ X0 e0 hK => ?_
  have hown : s.vm.findClass "com/example/gapweave/gapweave/AggregateFunctionReadsValuesPinLaw" = some m.cls := hown
  have N0 := Fr.nil n0
  have K0 : Keep h0 h0 [] := Keep.refl _ _
  refine Wlk.of (fun _ k => castTop (ef_c_seq m a) k) ?_
  show Wlk p.tables e below (s₁.setTop (mkF m 0 #[rv a, rv a] [])) K
  refine Wlk.of (fun _ k => XS.aloadN X0.here hx rfl (hb hby d16_0) rfl rfl k) ?_
  show Wlk p.tables e below (s₁.setTop (mkF m 1 #[rv a, rv a] [(.ref a)])) K
  refine Wlk.of (fun _ k => XS.aloadN X0.here hx rfl (hb hby d16_1) rfl rfl k) ?_
  show Wlk p.tables e below (s₁.setTop (mkF m 2 #[rv a, rv a] [(.ref a), (.ref a)])) K
  refine Wlk.of (fun _ k => acmp X0 hx rfl (cd := .ne) (x := (.ref a)) (y := (.ref a)) rfl rfl (pc0 := 2) (pc' := 5) (same := true) rfl (hb hby d16_2) rfl (decide_eq_true rfl) (by decide) (by decide) k) ?_
  show Wlk p.tables e below (s₁.setTop (mkF m 5 #[rv a, rv a] [])) K
  refine Wlk.of (fun _ k => XS.iconst X0.here hx rfl (hb hby d16_5) k) ?_
  show Wlk p.tables e below (s₁.setTop (mkF m 6 #[rv a, rv a] [(.int (1 : Int32))])) K
  refine hK (some (.int (1 : Int32))) X0 (fun q => by cases q) (fun fs hr => retN X0 hx (t := .boolean) hret (by simp) (hb hby d16_6) hr) ?_ (by decide) (by decide)
  rw [show s₁.heap = h0 from e0]
  exact ⟨rfl, N0, rfl⟩
theorem d16_7 : decode method_4_code 7 = .ok (.aload_n 0, 1) := by decide +kernel
theorem d16_8 : decode method_4_code 8 = .ok (.ifnull 7, 3) := by decide +kernel
theorem d16_11 : decode method_4_code 11 = .ok (.aload_n 1, 1) := by decide +kernel
theorem d16_12 : decode method_4_code 12 = .ok (.ifnonnull 5, 3) := by decide +kernel
theorem d16_17 : decode method_4_code 17 = .ok (.aload_n 0, 1) := by decide +kernel
theorem d16_18 : decode method_4_code 18 = .ok (.instanceof 15, 3) := by decide +kernel
theorem d16_21 : decode method_4_code 21 = .ok (.ifCond .eq 34, 3) := by decide +kernel
theorem d16_24 : decode method_4_code 24 = .ok (.aload_n 1, 1) := by decide +kernel
theorem d16_25 : decode method_4_code 25 = .ok (.instanceof 15, 3) := by decide +kernel
theorem d16_28 : decode method_4_code 28 = .ok (.ifCond .eq 27, 3) := by decide +kernel
theorem d16_31 : decode method_4_code 31 = .ok (.aload_n 0, 1) := by decide +kernel
theorem d16_32 : decode method_4_code 32 = .ok (.checkcast 15, 3) := by decide +kernel
theorem d16_35 : decode method_4_code 35 = .ok (.invokevirtual 74, 3) := by decide +kernel
theorem d16_38 : decode method_4_code 38 = .ok (.aload_n 1, 1) := by decide +kernel
theorem d16_39 : decode method_4_code 39 = .ok (.checkcast 15, 3) := by decide +kernel
theorem d16_42 : decode method_4_code 42 = .ok (.invokevirtual 74, 3) := by decide +kernel
theorem d16_45 : decode method_4_code 45 = .ok (.lcmp, 1) := by decide +kernel
theorem d16_46 : decode method_4_code 46 = .ok (.ifCond .ne 7, 3) := by decide +kernel
theorem d16_53 : decode method_4_code 53 = .ok (.iconst 0, 1) := by decide +kernel
theorem d16_54 : decode method_4_code 54 = .ok (.ireturn, 1) := by decide +kernel
theorem ef_c_sL13 (m : MethodId) (a : Addr) (b : Addr) : entryFrame m #[(.ref a), (.ref b)] 2 = mkF m 0 #[rv a, rv b] [] := by first | (simp [entryFrame, mkF, argsToLocals, Value.category]; done) | rfl
def Q_c_sL13 (Z : State) (a : Addr) (b : Addr) (h0 : Heap) (n0 : Nat) (v : Option Value) (h : Heap) (L : List Loc) : Prop := v = (some (.int (0 : Int32))) ∧ Fr n0 L ∧ h = h0
set_option maxRecDepth 65536 in
set_option maxHeartbeats 40000000 in
theorem c_sL13 (l : Launch) (Z : State) (a0 : Array Value) (hw : ∀ d ∈ tables_1, d.before a0 Z = true) (a : Addr) (b : Addr) (h0 : Heap) (n0 : Nat) (Z0 : n0 ≤ h0.size) (E_a : Exa Z h0 a "java/lang/Long") (F_a_value : Fld Z h0 a "java/lang/Long" "value" "J" (.long (1 : Int64))) (E_b : Exa Z h0 b "java/lang/Long") (F_b_value : Fld Z h0 b "java/lang/Long" "value" "J" (.long (3 : Int64))) (ne_a_b : a ≠ b) :
    Ctr l Z h0 (⟨"com/example/gapweave/gapweave/AggregateFunctionReadsValuesPinLaw", "same", "(Ljava/lang/Object;Ljava/lang/Object;)Z"⟩ : MethodName) method_4_code 2 (some .boolean) [] ({ frames := 1, cells := 0, slots := 0, locals := 14 } : Room) #[(.ref a), (.ref b)] (Q_c_sL13 Z a b h0 n0) := by
  refine Ctr.make (plainFor_of_name pn_250) fun p e s m below meth c s₁ K hret hml hx hby hown hnm hnamed hH hZ X0 e0 hK => ?_
  have hown : s.vm.findClass "com/example/gapweave/gapweave/AggregateFunctionReadsValuesPinLaw" = some m.cls := hown
  have N0 := Fr.nil n0
  have K0 : Keep h0 h0 [] := Keep.refl _ _
  refine Wlk.of (fun _ k => castTop (ef_c_sL13 m a b) k) ?_
  show Wlk p.tables e below (s₁.setTop (mkF m 0 #[rv a, rv b] [])) K
  refine Wlk.of (fun _ k => XS.aloadN X0.here hx rfl (hb hby d16_0) rfl rfl k) ?_
  show Wlk p.tables e below (s₁.setTop (mkF m 1 #[rv a, rv b] [(.ref a)])) K
  refine Wlk.of (fun _ k => XS.aloadN X0.here hx rfl (hb hby d16_1) rfl rfl k) ?_
  show Wlk p.tables e below (s₁.setTop (mkF m 2 #[rv a, rv b] [(.ref b), (.ref a)])) K
  refine Wlk.of (fun _ k => acmp X0 hx rfl (cd := .ne) (x := (.ref a)) (y := (.ref b)) rfl rfl (pc0 := 2) (pc' := 7) (same := false) rfl (hb hby d16_2) rfl (decide_eq_false (fun q => ne_a_b (Value.ref.inj q))) (by decide) (by decide) k) ?_
  show Wlk p.tables e below (s₁.setTop (mkF m 7 #[rv a, rv b] [])) K
  refine Wlk.of (fun _ k => XS.aloadN X0.here hx rfl (hb hby d16_7) rfl rfl k) ?_
  show Wlk p.tables e below (s₁.setTop (mkF m 8 #[rv a, rv b] [(.ref a)])) K
  refine Wlk.of (fun _ k => XS.ifnullNo X0.here hx rfl (hb hby d16_8) rfl k) ?_
  show Wlk p.tables e below (s₁.setTop (mkF m 11 #[rv a, rv b] [])) K
  refine Wlk.of (fun _ k => XS.aloadN X0.here hx rfl (hb hby d16_11) rfl rfl k) ?_
  show Wlk p.tables e below (s₁.setTop (mkF m 12 #[rv a, rv b] [(.ref b)])) K
  refine Wlk.of (fun _ k => XT.ifnonnullYes X0.here hx rfl (pc0 := 12) (pc' := 17) rfl (hb hby d16_12) rfl (by decide) (by decide) k) ?_
  show Wlk p.tables e below (s₁.setTop (mkF m 17 #[rv a, rv b] [])) K
  refine Wlk.of (fun _ k => XS.aloadN X0.here hx rfl (hb hby d16_17) rfl rfl k) ?_
  show Wlk p.tables e below (s₁.setTop (mkF m 18 #[rv a, rv b] [(.ref a)])) K
  obtain ⟨T1, X1, e1, st1⟩ := instY X0 hx hZ hown (wd hw 111 rfl) e0 (Ins.of_exa E_a (wd hw 178 rfl)) (g := (mkF m 18 #[rv a, rv b] [(.ref a)])) rfl rfl (hb hby d16_18)
  refine Wlk.of (fun _ k => st1 _ k) ?_
  show Wlk p.tables e below (T1.setTop (mkF m 21 #[rv a, rv b] [(.int (1 : Int32))])) K
  refine Wlk.of (fun _ k => XS.ifNo X1.here hx rfl (hb hby d16_21) rfl ((if0 _ _).trans (feq (by decide : ¬ ((1 : Int32) = (0 : Int32)))).1) k) ?_
  show Wlk p.tables e below (T1.setTop (mkF m 24 #[rv a, rv b] [])) K
  refine Wlk.of (fun _ k => XS.aloadN X1.here hx rfl (hb hby d16_24) rfl rfl k) ?_
  show Wlk p.tables e below (T1.setTop (mkF m 25 #[rv a, rv b] [(.ref b)])) K
  obtain ⟨T2, X2, e2, st2⟩ := instY X1 hx hZ hown (wd hw 111 rfl) e1 (Ins.of_exa E_b (wd hw 178 rfl)) (g := (mkF m 25 #[rv a, rv b] [(.ref b)])) rfl rfl (hb hby d16_25)
  refine Wlk.of (fun _ k => st2 _ k) ?_
  show Wlk p.tables e below (T2.setTop (mkF m 28 #[rv a, rv b] [(.int (1 : Int32))])) K
  refine Wlk.of (fun _ k => XS.ifNo X2.here hx rfl (hb hby d16_28) rfl ((if0 _ _).trans (feq (by decide : ¬ ((1 : Int32) = (0 : Int32)))).1) k) ?_
  show Wlk p.tables e below (T2.setTop (mkF m 31 #[rv a, rv b] [])) K
  refine Wlk.of (fun _ k => XS.aloadN X2.here hx rfl (hb hby d16_31) rfl rfl k) ?_
  show Wlk p.tables e below (T2.setTop (mkF m 32 #[rv a, rv b] [(.ref a)])) K
  obtain ⟨T3, X3, e3, st3⟩ := castY X2 hx hZ hown (wd hw 111 rfl) e2 (Ins.of_exa E_a (wd hw 178 rfl)) (g := (mkF m 32 #[rv a, rv b] [(.ref a)])) rfl rfl (hb hby d16_32)
  refine Wlk.of (fun _ k => st3 _ k) ?_
  show Wlk p.tables e below (T3.setTop (mkF m 35 #[rv a, rv b] [(.ref a)])) K
  obtain ⟨v4, T4, L4, X4, q4, st4⟩ := Ctr.virtual (y := (⟨"java/lang/Long", "longValue", "()J"⟩ : MethodName)) (c_lv l Z a0 hw a (1 : Int64) h0 n0 (Nat.le_trans Z0 K0.1) F_a_value) X3 hx hH e3 hown (wd hw 179 rfl) (wd hw 180 rfl) (notFace_of_selects (args := #[]) (mvT hZ (wd hw 181 rfl))) (wd hw 181 rfl) (wd hw 63 rfl) (wd hw 10 rfl) (wd hw 64 rfl) (by decide) E_a pd_80 (g := (mkF m 35 #[rv a, rv b] [(.ref a)])) rfl (by rw [hml]; rfl) (argsL := []) (rest := []) rfl rfl rfl (W := 0) (by show 2 * 0 + _ ≤ _; exact Nat.le_of_eq rfl) (by decide) (by decide) (hb hby d16_35) (by decide) (by decide)
  obtain ⟨rfl, N4q, hh4⟩ := q4
  have N5 := Fr.app N0 N4q
  refine Wlk.of (fun _ k => st4 _ k) ?_
  show Wlk p.tables e below (T4.setTop (mkF m 38 #[rv a, rv b] [(.long (1 : Int64))])) K
  refine Wlk.of (fun _ k => XS.aloadN X4.here hx rfl (hb hby d16_38) rfl rfl k) ?_
  show Wlk p.tables e below (T4.setTop (mkF m 39 #[rv a, rv b] [(.ref b), (.long (1 : Int64))])) K
  obtain ⟨T6, X6, e6, st6⟩ := castY X4 hx hZ hown (wd hw 111 rfl) hh4 (Ins.of_exa E_b (wd hw 178 rfl)) (g := (mkF m 39 #[rv a, rv b] [(.ref b), (.long (1 : Int64))])) rfl rfl (hb hby d16_39)
  refine Wlk.of (fun _ k => st6 _ k) ?_
  show Wlk p.tables e below (T6.setTop (mkF m 42 #[rv a, rv b] [(.ref b), (.long (1 : Int64))])) K
  obtain ⟨v7, T7, L7, X7, q7, st7⟩ := Ctr.virtual (y := (⟨"java/lang/Long", "longValue", "()J"⟩ : MethodName)) (c_lv l Z a0 hw b (3 : Int64) h0 n0 (Nat.le_trans Z0 K0.1) F_b_value) X6 hx hH e6 hown (wd hw 179 rfl) (wd hw 180 rfl) (notFace_of_selects (args := #[]) (mvT hZ (wd hw 181 rfl))) (wd hw 181 rfl) (wd hw 63 rfl) (wd hw 10 rfl) (wd hw 64 rfl) (by decide) E_b pd_80 (g := (mkF m 42 #[rv a, rv b] [(.ref b), (.long (1 : Int64))])) rfl (by rw [hml]; rfl) (argsL := []) (rest := [(.long (1 : Int64))]) rfl rfl rfl (W := 2) (by show 2 * 0 + _ ≤ _; exact Nat.le_of_eq rfl) (by decide) (by decide) (hb hby d16_42) (by decide) (by decide)
  obtain ⟨rfl, N7q, hh7⟩ := q7
  have N8 := Fr.app N5 N7q
  refine Wlk.of (fun _ k => st7 _ k) ?_
  show Wlk p.tables e below (T7.setTop (mkF m 45 #[rv a, rv b] [(.long (3 : Int64)), (.long (1 : Int64))])) K
  refine Wlk.of (fun _ k => XS.lcmp X7.here hx rfl (hb hby d16_45) rfl k) ?_
  show Wlk p.tables e below (T7.setTop (mkF m 46 #[rv a, rv b] [(.int (lcmpW (1 : Int64) (3 : Int64)))])) K
  refine Wlk.of (fun _ k => XS.ifYes X7.here hx rfl (pc0 := 46) (pc' := 53) rfl (hb hby d16_46) rfl ((if0 _ _).trans (feq (fun q => (by decide : ¬ ((1 : Int64) = (3 : Int64))) ((lw_eq _ _).mp q))).2) (by decide) (by decide) k) ?_
  show Wlk p.tables e below (T7.setTop (mkF m 53 #[rv a, rv b] [])) K
  refine Wlk.of (fun _ k => XS.iconst X7.here hx rfl (hb hby d16_53) k) ?_
  show Wlk p.tables e below (T7.setTop (mkF m 54 #[rv a, rv b] [(.int (0 : Int32))])) K
  refine hK (some (.int (0 : Int32))) X7 (fun q => by cases q) (fun fs hr => retN X7 hx (t := .boolean) hret (by simp) (hb hby d16_54) hr) ?_ (by decide) (by decide)
  rw [show T7.heap = h0 from hh7]
  exact ⟨rfl, N8, rfl⟩
theorem ef_c_sL12 (m : MethodId) (a : Addr) (b : Addr) : entryFrame m #[(.ref a), (.ref b)] 2 = mkF m 0 #[rv a, rv b] [] := by first | (simp [entryFrame, mkF, argsToLocals, Value.category]; done) | rfl
def Q_c_sL12 (Z : State) (a : Addr) (b : Addr) (h0 : Heap) (n0 : Nat) (v : Option Value) (h : Heap) (L : List Loc) : Prop := v = (some (.int (0 : Int32))) ∧ Fr n0 L ∧ h = h0
set_option maxRecDepth 65536 in
set_option maxHeartbeats 40000000 in
theorem c_sL12 (l : Launch) (Z : State) (a0 : Array Value) (hw : ∀ d ∈ tables_1, d.before a0 Z = true) (a : Addr) (b : Addr) (h0 : Heap) (n0 : Nat) (Z0 : n0 ≤ h0.size) (E_a : Exa Z h0 a "java/lang/Long") (F_a_value : Fld Z h0 a "java/lang/Long" "value" "J" (.long (1 : Int64))) (E_b : Exa Z h0 b "java/lang/Long") (F_b_value : Fld Z h0 b "java/lang/Long" "value" "J" (.long (2 : Int64))) (ne_a_b : a ≠ b) :
    Ctr l Z h0 (⟨"com/example/gapweave/gapweave/AggregateFunctionReadsValuesPinLaw", "same", "(Ljava/lang/Object;Ljava/lang/Object;)Z"⟩ : MethodName) method_4_code 2 (some .boolean) [] ({ frames := 1, cells := 0, slots := 0, locals := 14 } : Room) #[(.ref a), (.ref b)] (Q_c_sL12 Z a b h0 n0) := by
  refine Ctr.make (plainFor_of_name pn_250) fun p e s m below meth c s₁ K hret hml hx hby hown hnm hnamed hH hZ X0 e0 hK => ?_
  have hown : s.vm.findClass "com/example/gapweave/gapweave/AggregateFunctionReadsValuesPinLaw" = some m.cls := hown
  have N0 := Fr.nil n0
  have K0 : Keep h0 h0 [] := Keep.refl _ _
  refine Wlk.of (fun _ k => castTop (ef_c_sL12 m a b) k) ?_
  show Wlk p.tables e below (s₁.setTop (mkF m 0 #[rv a, rv b] [])) K
  refine Wlk.of (fun _ k => XS.aloadN X0.here hx rfl (hb hby d16_0) rfl rfl k) ?_
  show Wlk p.tables e below (s₁.setTop (mkF m 1 #[rv a, rv b] [(.ref a)])) K
  refine Wlk.of (fun _ k => XS.aloadN X0.here hx rfl (hb hby d16_1) rfl rfl k) ?_
  show Wlk p.tables e below (s₁.setTop (mkF m 2 #[rv a, rv b] [(.ref b), (.ref a)])) K
  refine Wlk.of (fun _ k => acmp X0 hx rfl (cd := .ne) (x := (.ref a)) (y := (.ref b)) rfl rfl (pc0 := 2) (pc' := 7) (same := false) rfl (hb hby d16_2) rfl (decide_eq_false (fun q => ne_a_b (Value.ref.inj q))) (by decide) (by decide) k) ?_
  show Wlk p.tables e below (s₁.setTop (mkF m 7 #[rv a, rv b] [])) K
  refine Wlk.of (fun _ k => XS.aloadN X0.here hx rfl (hb hby d16_7) rfl rfl k) ?_
  show Wlk p.tables e below (s₁.setTop (mkF m 8 #[rv a, rv b] [(.ref a)])) K
  refine Wlk.of (fun _ k => XS.ifnullNo X0.here hx rfl (hb hby d16_8) rfl k) ?_
  show Wlk p.tables e below (s₁.setTop (mkF m 11 #[rv a, rv b] [])) K
  refine Wlk.of (fun _ k => XS.aloadN X0.here hx rfl (hb hby d16_11) rfl rfl k) ?_
  show Wlk p.tables e below (s₁.setTop (mkF m 12 #[rv a, rv b] [(.ref b)])) K
  refine Wlk.of (fun _ k => XT.ifnonnullYes X0.here hx rfl (pc0 := 12) (pc' := 17) rfl (hb hby d16_12) rfl (by decide) (by decide) k) ?_
  show Wlk p.tables e below (s₁.setTop (mkF m 17 #[rv a, rv b] [])) K
  refine Wlk.of (fun _ k => XS.aloadN X0.here hx rfl (hb hby d16_17) rfl rfl k) ?_
  show Wlk p.tables e below (s₁.setTop (mkF m 18 #[rv a, rv b] [(.ref a)])) K
  obtain ⟨T1, X1, e1, st1⟩ := instY X0 hx hZ hown (wd hw 111 rfl) e0 (Ins.of_exa E_a (wd hw 178 rfl)) (g := (mkF m 18 #[rv a, rv b] [(.ref a)])) rfl rfl (hb hby d16_18)
  refine Wlk.of (fun _ k => st1 _ k) ?_
  show Wlk p.tables e below (T1.setTop (mkF m 21 #[rv a, rv b] [(.int (1 : Int32))])) K
  refine Wlk.of (fun _ k => XS.ifNo X1.here hx rfl (hb hby d16_21) rfl ((if0 _ _).trans (feq (by decide : ¬ ((1 : Int32) = (0 : Int32)))).1) k) ?_
  show Wlk p.tables e below (T1.setTop (mkF m 24 #[rv a, rv b] [])) K
  refine Wlk.of (fun _ k => XS.aloadN X1.here hx rfl (hb hby d16_24) rfl rfl k) ?_
  show Wlk p.tables e below (T1.setTop (mkF m 25 #[rv a, rv b] [(.ref b)])) K
  obtain ⟨T2, X2, e2, st2⟩ := instY X1 hx hZ hown (wd hw 111 rfl) e1 (Ins.of_exa E_b (wd hw 178 rfl)) (g := (mkF m 25 #[rv a, rv b] [(.ref b)])) rfl rfl (hb hby d16_25)
  refine Wlk.of (fun _ k => st2 _ k) ?_
  show Wlk p.tables e below (T2.setTop (mkF m 28 #[rv a, rv b] [(.int (1 : Int32))])) K
  refine Wlk.of (fun _ k => XS.ifNo X2.here hx rfl (hb hby d16_28) rfl ((if0 _ _).trans (feq (by decide : ¬ ((1 : Int32) = (0 : Int32)))).1) k) ?_
  show Wlk p.tables e below (T2.setTop (mkF m 31 #[rv a, rv b] [])) K
  refine Wlk.of (fun _ k => XS.aloadN X2.here hx rfl (hb hby d16_31) rfl rfl k) ?_
  show Wlk p.tables e below (T2.setTop (mkF m 32 #[rv a, rv b] [(.ref a)])) K
  obtain ⟨T3, X3, e3, st3⟩ := castY X2 hx hZ hown (wd hw 111 rfl) e2 (Ins.of_exa E_a (wd hw 178 rfl)) (g := (mkF m 32 #[rv a, rv b] [(.ref a)])) rfl rfl (hb hby d16_32)
  refine Wlk.of (fun _ k => st3 _ k) ?_
  show Wlk p.tables e below (T3.setTop (mkF m 35 #[rv a, rv b] [(.ref a)])) K
  obtain ⟨v4, T4, L4, X4, q4, st4⟩ := Ctr.virtual (y := (⟨"java/lang/Long", "longValue", "()J"⟩ : MethodName)) (c_lv l Z a0 hw a (1 : Int64) h0 n0 (Nat.le_trans Z0 K0.1) F_a_value) X3 hx hH e3 hown (wd hw 179 rfl) (wd hw 180 rfl) (notFace_of_selects (args := #[]) (mvT hZ (wd hw 181 rfl))) (wd hw 181 rfl) (wd hw 63 rfl) (wd hw 10 rfl) (wd hw 64 rfl) (by decide) E_a pd_80 (g := (mkF m 35 #[rv a, rv b] [(.ref a)])) rfl (by rw [hml]; rfl) (argsL := []) (rest := []) rfl rfl rfl (W := 0) (by show 2 * 0 + _ ≤ _; exact Nat.le_of_eq rfl) (by decide) (by decide) (hb hby d16_35) (by decide) (by decide)
  obtain ⟨rfl, N4q, hh4⟩ := q4
  have N5 := Fr.app N0 N4q
  refine Wlk.of (fun _ k => st4 _ k) ?_
  show Wlk p.tables e below (T4.setTop (mkF m 38 #[rv a, rv b] [(.long (1 : Int64))])) K
  refine Wlk.of (fun _ k => XS.aloadN X4.here hx rfl (hb hby d16_38) rfl rfl k) ?_
  show Wlk p.tables e below (T4.setTop (mkF m 39 #[rv a, rv b] [(.ref b), (.long (1 : Int64))])) K
  obtain ⟨T6, X6, e6, st6⟩ := castY X4 hx hZ hown (wd hw 111 rfl) hh4 (Ins.of_exa E_b (wd hw 178 rfl)) (g := (mkF m 39 #[rv a, rv b] [(.ref b), (.long (1 : Int64))])) rfl rfl (hb hby d16_39)
  refine Wlk.of (fun _ k => st6 _ k) ?_
  show Wlk p.tables e below (T6.setTop (mkF m 42 #[rv a, rv b] [(.ref b), (.long (1 : Int64))])) K
  obtain ⟨v7, T7, L7, X7, q7, st7⟩ := Ctr.virtual (y := (⟨"java/lang/Long", "longValue", "()J"⟩ : MethodName)) (c_lv l Z a0 hw b (2 : Int64) h0 n0 (Nat.le_trans Z0 K0.1) F_b_value) X6 hx hH e6 hown (wd hw 179 rfl) (wd hw 180 rfl) (notFace_of_selects (args := #[]) (mvT hZ (wd hw 181 rfl))) (wd hw 181 rfl) (wd hw 63 rfl) (wd hw 10 rfl) (wd hw 64 rfl) (by decide) E_b pd_80 (g := (mkF m 42 #[rv a, rv b] [(.ref b), (.long (1 : Int64))])) rfl (by rw [hml]; rfl) (argsL := []) (rest := [(.long (1 : Int64))]) rfl rfl rfl (W := 2) (by show 2 * 0 + _ ≤ _; exact Nat.le_of_eq rfl) (by decide) (by decide) (hb hby d16_42) (by decide) (by decide)
  obtain ⟨rfl, N7q, hh7⟩ := q7
  have N8 := Fr.app N5 N7q
  refine Wlk.of (fun _ k => st7 _ k) ?_
  show Wlk p.tables e below (T7.setTop (mkF m 45 #[rv a, rv b] [(.long (2 : Int64)), (.long (1 : Int64))])) K
  refine Wlk.of (fun _ k => XS.lcmp X7.here hx rfl (hb hby d16_45) rfl k) ?_
  show Wlk p.tables e below (T7.setTop (mkF m 46 #[rv a, rv b] [(.int (lcmpW (1 : Int64) (2 : Int64)))])) K
  refine Wlk.of (fun _ k => XS.ifYes X7.here hx rfl (pc0 := 46) (pc' := 53) rfl (hb hby d16_46) rfl ((if0 _ _).trans (feq (fun q => (by decide : ¬ ((1 : Int64) = (2 : Int64))) ((lw_eq _ _).mp q))).2) (by decide) (by decide) k) ?_
  show Wlk p.tables e below (T7.setTop (mkF m 53 #[rv a, rv b] [])) K
  refine Wlk.of (fun _ k => XS.iconst X7.here hx rfl (hb hby d16_53) k) ?_
  show Wlk p.tables e below (T7.setTop (mkF m 54 #[rv a, rv b] [(.int (0 : Int32))])) K
  refine hK (some (.int (0 : Int32))) X7 (fun q => by cases q) (fun fs hr => retN X7 hx (t := .boolean) hret (by simp) (hb hby d16_54) hr) ?_ (by decide) (by decide)
  rw [show T7.heap = h0 from hh7]
  exact ⟨rfl, N8, rfl⟩
theorem ef_c_sL21 (m : MethodId) (a : Addr) (b : Addr) : entryFrame m #[(.ref a), (.ref b)] 2 = mkF m 0 #[rv a, rv b] [] := by first | (simp [entryFrame, mkF, argsToLocals, Value.category]; done) | rfl
def Q_c_sL21 (Z : State) (a : Addr) (b : Addr) (h0 : Heap) (n0 : Nat) (v : Option Value) (h : Heap) (L : List Loc) : Prop := v = (some (.int (0 : Int32))) ∧ Fr n0 L ∧ h = h0
set_option maxRecDepth 65536 in
set_option maxHeartbeats 40000000 in
theorem c_sL21 (l : Launch) (Z : State) (a0 : Array Value) (hw : ∀ d ∈ tables_1, d.before a0 Z = true) (a : Addr) (b : Addr) (h0 : Heap) (n0 : Nat) (Z0 : n0 ≤ h0.size) (E_a : Exa Z h0 a "java/lang/Long") (F_a_value : Fld Z h0 a "java/lang/Long" "value" "J" (.long (2 : Int64))) (E_b : Exa Z h0 b "java/lang/Long") (F_b_value : Fld Z h0 b "java/lang/Long" "value" "J" (.long (1 : Int64))) (ne_a_b : a ≠ b) :
    Ctr l Z h0 (⟨"com/example/gapweave/gapweave/AggregateFunctionReadsValuesPinLaw", "same", "(Ljava/lang/Object;Ljava/lang/Object;)Z"⟩ : MethodName) method_4_code 2 (some .boolean) [] ({ frames := 1, cells := 0, slots := 0, locals := 14 } : Room) #[(.ref a), (.ref b)] (Q_c_sL21 Z a b h0 n0) := by
  refine Ctr.make (plainFor_of_name pn_250) fun p e s m below meth c s₁ K hret hml hx hby hown hnm hnamed hH hZ X0 e0 hK => ?_
  have hown : s.vm.findClass "com/example/gapweave/gapweave/AggregateFunctionReadsValuesPinLaw" = some m.cls := hown
  have N0 := Fr.nil n0
  have K0 : Keep h0 h0 [] := Keep.refl _ _
  refine Wlk.of (fun _ k => castTop (ef_c_sL21 m a b) k) ?_
  show Wlk p.tables e below (s₁.setTop (mkF m 0 #[rv a, rv b] [])) K
  refine Wlk.of (fun _ k => XS.aloadN X0.here hx rfl (hb hby d16_0) rfl rfl k) ?_
  show Wlk p.tables e below (s₁.setTop (mkF m 1 #[rv a, rv b] [(.ref a)])) K
  refine Wlk.of (fun _ k => XS.aloadN X0.here hx rfl (hb hby d16_1) rfl rfl k) ?_
  show Wlk p.tables e below (s₁.setTop (mkF m 2 #[rv a, rv b] [(.ref b), (.ref a)])) K
  refine Wlk.of (fun _ k => acmp X0 hx rfl (cd := .ne) (x := (.ref a)) (y := (.ref b)) rfl rfl (pc0 := 2) (pc' := 7) (same := false) rfl (hb hby d16_2) rfl (decide_eq_false (fun q => ne_a_b (Value.ref.inj q))) (by decide) (by decide) k) ?_
  show Wlk p.tables e below (s₁.setTop (mkF m 7 #[rv a, rv b] [])) K
  refine Wlk.of (fun _ k => XS.aloadN X0.here hx rfl (hb hby d16_7) rfl rfl k) ?_
  show Wlk p.tables e below (s₁.setTop (mkF m 8 #[rv a, rv b] [(.ref a)])) K
  refine Wlk.of (fun _ k => XS.ifnullNo X0.here hx rfl (hb hby d16_8) rfl k) ?_
  show Wlk p.tables e below (s₁.setTop (mkF m 11 #[rv a, rv b] [])) K
  refine Wlk.of (fun _ k => XS.aloadN X0.here hx rfl (hb hby d16_11) rfl rfl k) ?_
  show Wlk p.tables e below (s₁.setTop (mkF m 12 #[rv a, rv b] [(.ref b)])) K
  refine Wlk.of (fun _ k => XT.ifnonnullYes X0.here hx rfl (pc0 := 12) (pc' := 17) rfl (hb hby d16_12) rfl (by decide) (by decide) k) ?_
  show Wlk p.tables e below (s₁.setTop (mkF m 17 #[rv a, rv b] [])) K
  refine Wlk.of (fun _ k => XS.aloadN X0.here hx rfl (hb hby d16_17) rfl rfl k) ?_
  show Wlk p.tables e below (s₁.setTop (mkF m 18 #[rv a, rv b] [(.ref a)])) K
  obtain ⟨T1, X1, e1, st1⟩ := instY X0 hx hZ hown (wd hw 111 rfl) e0 (Ins.of_exa E_a (wd hw 178 rfl)) (g := (mkF m 18 #[rv a, rv b] [(.ref a)])) rfl rfl (hb hby d16_18)
  refine Wlk.of (fun _ k => st1 _ k) ?_
  show Wlk p.tables e below (T1.setTop (mkF m 21 #[rv a, rv b] [(.int (1 : Int32))])) K
  refine Wlk.of (fun _ k => XS.ifNo X1.here hx rfl (hb hby d16_21) rfl ((if0 _ _).trans (feq (by decide : ¬ ((1 : Int32) = (0 : Int32)))).1) k) ?_
  show Wlk p.tables e below (T1.setTop (mkF m 24 #[rv a, rv b] [])) K
  refine Wlk.of (fun _ k => XS.aloadN X1.here hx rfl (hb hby d16_24) rfl rfl k) ?_
  show Wlk p.tables e below (T1.setTop (mkF m 25 #[rv a, rv b] [(.ref b)])) K
  obtain ⟨T2, X2, e2, st2⟩ := instY X1 hx hZ hown (wd hw 111 rfl) e1 (Ins.of_exa E_b (wd hw 178 rfl)) (g := (mkF m 25 #[rv a, rv b] [(.ref b)])) rfl rfl (hb hby d16_25)
  refine Wlk.of (fun _ k => st2 _ k) ?_
  show Wlk p.tables e below (T2.setTop (mkF m 28 #[rv a, rv b] [(.int (1 : Int32))])) K
  refine Wlk.of (fun _ k => XS.ifNo X2.here hx rfl (hb hby d16_28) rfl ((if0 _ _).trans (feq (by decide : ¬ ((1 : Int32) = (0 : Int32)))).1) k) ?_
  show Wlk p.tables e below (T2.setTop (mkF m 31 #[rv a, rv b] [])) K
  refine Wlk.of (fun _ k => XS.aloadN X2.here hx rfl (hb hby d16_31) rfl rfl k) ?_
  show Wlk p.tables e below (T2.setTop (mkF m 32 #[rv a, rv b] [(.ref a)])) K
  obtain ⟨T3, X3, e3, st3⟩ := castY X2 hx hZ hown (wd hw 111 rfl) e2 (Ins.of_exa E_a (wd hw 178 rfl)) (g := (mkF m 32 #[rv a, rv b] [(.ref a)])) rfl rfl (hb hby d16_32)
  refine Wlk.of (fun _ k => st3 _ k) ?_
  show Wlk p.tables e below (T3.setTop (mkF m 35 #[rv a, rv b] [(.ref a)])) K
  obtain ⟨v4, T4, L4, X4, q4, st4⟩ := Ctr.virtual (y := (⟨"java/lang/Long", "longValue", "()J"⟩ : MethodName)) (c_lv l Z a0 hw a (2 : Int64) h0 n0 (Nat.le_trans Z0 K0.1) F_a_value) X3 hx hH e3 hown (wd hw 179 rfl) (wd hw 180 rfl) (notFace_of_selects (args := #[]) (mvT hZ (wd hw 181 rfl))) (wd hw 181 rfl) (wd hw 63 rfl) (wd hw 10 rfl) (wd hw 64 rfl) (by decide) E_a pd_80 (g := (mkF m 35 #[rv a, rv b] [(.ref a)])) rfl (by rw [hml]; rfl) (argsL := []) (rest := []) rfl rfl rfl (W := 0) (by show 2 * 0 + _ ≤ _; exact Nat.le_of_eq rfl) (by decide) (by decide) (hb hby d16_35) (by decide) (by decide)
  obtain ⟨rfl, N4q, hh4⟩ := q4
  have N5 := Fr.app N0 N4q
  refine Wlk.of (fun _ k => st4 _ k) ?_
  show Wlk p.tables e below (T4.setTop (mkF m 38 #[rv a, rv b] [(.long (2 : Int64))])) K
  refine Wlk.of (fun _ k => XS.aloadN X4.here hx rfl (hb hby d16_38) rfl rfl k) ?_
  show Wlk p.tables e below (T4.setTop (mkF m 39 #[rv a, rv b] [(.ref b), (.long (2 : Int64))])) K
  obtain ⟨T6, X6, e6, st6⟩ := castY X4 hx hZ hown (wd hw 111 rfl) hh4 (Ins.of_exa E_b (wd hw 178 rfl)) (g := (mkF m 39 #[rv a, rv b] [(.ref b), (.long (2 : Int64))])) rfl rfl (hb hby d16_39)
  refine Wlk.of (fun _ k => st6 _ k) ?_
  show Wlk p.tables e below (T6.setTop (mkF m 42 #[rv a, rv b] [(.ref b), (.long (2 : Int64))])) K
  obtain ⟨v7, T7, L7, X7, q7, st7⟩ := Ctr.virtual (y := (⟨"java/lang/Long", "longValue", "()J"⟩ : MethodName)) (c_lv l Z a0 hw b (1 : Int64) h0 n0 (Nat.le_trans Z0 K0.1) F_b_value) X6 hx hH e6 hown (wd hw 179 rfl) (wd hw 180 rfl) (notFace_of_selects (args := #[]) (mvT hZ (wd hw 181 rfl))) (wd hw 181 rfl) (wd hw 63 rfl) (wd hw 10 rfl) (wd hw 64 rfl) (by decide) E_b pd_80 (g := (mkF m 42 #[rv a, rv b] [(.ref b), (.long (2 : Int64))])) rfl (by rw [hml]; rfl) (argsL := []) (rest := [(.long (2 : Int64))]) rfl rfl rfl (W := 2) (by show 2 * 0 + _ ≤ _; exact Nat.le_of_eq rfl) (by decide) (by decide) (hb hby d16_42) (by decide) (by decide)
  obtain ⟨rfl, N7q, hh7⟩ := q7
  have N8 := Fr.app N5 N7q
  refine Wlk.of (fun _ k => st7 _ k) ?_
  show Wlk p.tables e below (T7.setTop (mkF m 45 #[rv a, rv b] [(.long (1 : Int64)), (.long (2 : Int64))])) K
  refine Wlk.of (fun _ k => XS.lcmp X7.here hx rfl (hb hby d16_45) rfl k) ?_
  show Wlk p.tables e below (T7.setTop (mkF m 46 #[rv a, rv b] [(.int (lcmpW (2 : Int64) (1 : Int64)))])) K
  refine Wlk.of (fun _ k => XS.ifYes X7.here hx rfl (pc0 := 46) (pc' := 53) rfl (hb hby d16_46) rfl ((if0 _ _).trans (feq (fun q => (by decide : ¬ ((2 : Int64) = (1 : Int64))) ((lw_eq _ _).mp q))).2) (by decide) (by decide) k) ?_
  show Wlk p.tables e below (T7.setTop (mkF m 53 #[rv a, rv b] [])) K
  refine Wlk.of (fun _ k => XS.iconst X7.here hx rfl (hb hby d16_53) k) ?_
  show Wlk p.tables e below (T7.setTop (mkF m 54 #[rv a, rv b] [(.int (0 : Int32))])) K
  refine hK (some (.int (0 : Int32))) X7 (fun q => by cases q) (fun fs hr => retN X7 hx (t := .boolean) hret (by simp) (hb hby d16_54) hr) ?_ (by decide) (by decide)
  rw [show T7.heap = h0 from hh7]
  exact ⟨rfl, N8, rfl⟩
theorem pd_271 : parseMethodDescriptor "()D" = some ⟨[], some .double⟩ := by decide +kernel
theorem d16_55 : decode method_4_code 55 = .ok (.aload_n 0, 1) := by decide +kernel
theorem d16_56 : decode method_4_code 56 = .ok (.instanceof 78, 3) := by decide +kernel
theorem d16_59 : decode method_4_code 59 = .ok (.ifCond .eq 34, 3) := by decide +kernel
theorem d16_62 : decode method_4_code 62 = .ok (.aload_n 1, 1) := by decide +kernel
theorem d16_63 : decode method_4_code 63 = .ok (.instanceof 78, 3) := by decide +kernel
theorem d16_66 : decode method_4_code 66 = .ok (.ifCond .eq 27, 3) := by decide +kernel
theorem d16_69 : decode method_4_code 69 = .ok (.aload_n 0, 1) := by decide +kernel
theorem d16_70 : decode method_4_code 70 = .ok (.checkcast 78, 3) := by decide +kernel
theorem d16_73 : decode method_4_code 73 = .ok (.invokevirtual 80, 3) := by decide +kernel
theorem d16_76 : decode method_4_code 76 = .ok (.aload_n 1, 1) := by decide +kernel
theorem d16_77 : decode method_4_code 77 = .ok (.checkcast 78, 3) := by decide +kernel
theorem d16_80 : decode method_4_code 80 = .ok (.invokevirtual 80, 3) := by decide +kernel
theorem d16_83 : decode method_4_code 83 = .ok (.dcmp .l, 1) := by decide +kernel
theorem d16_84 : decode method_4_code 84 = .ok (.ifCond .ne 7, 3) := by decide +kernel
theorem d16_91 : decode method_4_code 91 = .ok (.iconst 0, 1) := by decide +kernel
theorem d16_92 : decode method_4_code 92 = .ok (.ireturn, 1) := by decide +kernel
theorem ef_c_sD (m : MethodId) (a : Addr) (b : Addr) : entryFrame m #[(.ref a), (.ref b)] 2 = mkF m 0 #[rv a, rv b] [] := by first | (simp [entryFrame, mkF, argsToLocals, Value.category]; done) | rfl
def Q_c_sD (Z : State) (a : Addr) (b : Addr) (h0 : Heap) (n0 : Nat) (v : Option Value) (h : Heap) (L : List Loc) : Prop := v = (some (.int (0 : Int32))) ∧ Fr n0 L ∧ h = h0
set_option maxRecDepth 65536 in
set_option maxHeartbeats 40000000 in
theorem c_sD (l : Launch) (Z : State) (a0 : Array Value) (hw : ∀ d ∈ tables_1, d.before a0 Z = true) (a : Addr) (b : Addr) (h0 : Heap) (n0 : Nat) (Z0 : n0 ≤ h0.size) (E_a : Exa Z h0 a "java/lang/Double") (F_a_value : Fld Z h0 a "java/lang/Double" "value" "D" (.double (FP.ddiv (FP.l2d (1 : Int64)) (FP.l2d (2 : Int64))))) (E_b : Exa Z h0 b "java/lang/Double") (F_b_value : Fld Z h0 b "java/lang/Double" "value" "D" (.double (FP.ddiv (FP.l2d (3 : Int64)) (FP.l2d (2 : Int64))))) (ne_a_b : a ≠ b) :
    Ctr l Z h0 (⟨"com/example/gapweave/gapweave/AggregateFunctionReadsValuesPinLaw", "same", "(Ljava/lang/Object;Ljava/lang/Object;)Z"⟩ : MethodName) method_4_code 2 (some .boolean) [] ({ frames := 1, cells := 0, slots := 0, locals := 14 } : Room) #[(.ref a), (.ref b)] (Q_c_sD Z a b h0 n0) := by
  refine Ctr.make (plainFor_of_name pn_250) fun p e s m below meth c s₁ K hret hml hx hby hown hnm hnamed hH hZ X0 e0 hK => ?_
  have hown : s.vm.findClass "com/example/gapweave/gapweave/AggregateFunctionReadsValuesPinLaw" = some m.cls := hown
  have N0 := Fr.nil n0
  have K0 : Keep h0 h0 [] := Keep.refl _ _
  refine Wlk.of (fun _ k => castTop (ef_c_sD m a b) k) ?_
  show Wlk p.tables e below (s₁.setTop (mkF m 0 #[rv a, rv b] [])) K
  refine Wlk.of (fun _ k => XS.aloadN X0.here hx rfl (hb hby d16_0) rfl rfl k) ?_
  show Wlk p.tables e below (s₁.setTop (mkF m 1 #[rv a, rv b] [(.ref a)])) K
  refine Wlk.of (fun _ k => XS.aloadN X0.here hx rfl (hb hby d16_1) rfl rfl k) ?_
  show Wlk p.tables e below (s₁.setTop (mkF m 2 #[rv a, rv b] [(.ref b), (.ref a)])) K
  refine Wlk.of (fun _ k => acmp X0 hx rfl (cd := .ne) (x := (.ref a)) (y := (.ref b)) rfl rfl (pc0 := 2) (pc' := 7) (same := false) rfl (hb hby d16_2) rfl (decide_eq_false (fun q => ne_a_b (Value.ref.inj q))) (by decide) (by decide) k) ?_
  show Wlk p.tables e below (s₁.setTop (mkF m 7 #[rv a, rv b] [])) K
  refine Wlk.of (fun _ k => XS.aloadN X0.here hx rfl (hb hby d16_7) rfl rfl k) ?_
  show Wlk p.tables e below (s₁.setTop (mkF m 8 #[rv a, rv b] [(.ref a)])) K
  refine Wlk.of (fun _ k => XS.ifnullNo X0.here hx rfl (hb hby d16_8) rfl k) ?_
  show Wlk p.tables e below (s₁.setTop (mkF m 11 #[rv a, rv b] [])) K
  refine Wlk.of (fun _ k => XS.aloadN X0.here hx rfl (hb hby d16_11) rfl rfl k) ?_
  show Wlk p.tables e below (s₁.setTop (mkF m 12 #[rv a, rv b] [(.ref b)])) K
  refine Wlk.of (fun _ k => XT.ifnonnullYes X0.here hx rfl (pc0 := 12) (pc' := 17) rfl (hb hby d16_12) rfl (by decide) (by decide) k) ?_
  show Wlk p.tables e below (s₁.setTop (mkF m 17 #[rv a, rv b] [])) K
  refine Wlk.of (fun _ k => XS.aloadN X0.here hx rfl (hb hby d16_17) rfl rfl k) ?_
  show Wlk p.tables e below (s₁.setTop (mkF m 18 #[rv a, rv b] [(.ref a)])) K
  obtain ⟨T1, X1, e1, st1⟩ := instNo X0 hx hZ hown (wd hw 111 rfl) e0 E_a (own_noDL hw) (g := (mkF m 18 #[rv a, rv b] [(.ref a)])) rfl rfl (hb hby d16_18)
  refine Wlk.of (fun _ k => st1 _ k) ?_
  show Wlk p.tables e below (T1.setTop (mkF m 21 #[rv a, rv b] [(.int (0 : Int32))])) K
  refine Wlk.of (fun _ k => XS.ifYes X1.here hx rfl (pc0 := 21) (pc' := 55) rfl (hb hby d16_21) rfl ((if0 _ _).trans (teq (by decide : (0 : Int32) = (0 : Int32))).1) (by decide) (by decide) k) ?_
  show Wlk p.tables e below (T1.setTop (mkF m 55 #[rv a, rv b] [])) K
  refine Wlk.of (fun _ k => XS.aloadN X1.here hx rfl (hb hby d16_55) rfl rfl k) ?_
  show Wlk p.tables e below (T1.setTop (mkF m 56 #[rv a, rv b] [(.ref a)])) K
  obtain ⟨T2, X2, e2, st2⟩ := instY X1 hx hZ hown (wd hw 115 rfl) e1 (Ins.of_exa E_a (wd hw 97 rfl)) (g := (mkF m 56 #[rv a, rv b] [(.ref a)])) rfl rfl (hb hby d16_56)
  refine Wlk.of (fun _ k => st2 _ k) ?_
  show Wlk p.tables e below (T2.setTop (mkF m 59 #[rv a, rv b] [(.int (1 : Int32))])) K
  refine Wlk.of (fun _ k => XS.ifNo X2.here hx rfl (hb hby d16_59) rfl ((if0 _ _).trans (feq (by decide : ¬ ((1 : Int32) = (0 : Int32)))).1) k) ?_
  show Wlk p.tables e below (T2.setTop (mkF m 62 #[rv a, rv b] [])) K
  refine Wlk.of (fun _ k => XS.aloadN X2.here hx rfl (hb hby d16_62) rfl rfl k) ?_
  show Wlk p.tables e below (T2.setTop (mkF m 63 #[rv a, rv b] [(.ref b)])) K
  obtain ⟨T3, X3, e3, st3⟩ := instY X2 hx hZ hown (wd hw 115 rfl) e2 (Ins.of_exa E_b (wd hw 97 rfl)) (g := (mkF m 63 #[rv a, rv b] [(.ref b)])) rfl rfl (hb hby d16_63)
  refine Wlk.of (fun _ k => st3 _ k) ?_
  show Wlk p.tables e below (T3.setTop (mkF m 66 #[rv a, rv b] [(.int (1 : Int32))])) K
  refine Wlk.of (fun _ k => XS.ifNo X3.here hx rfl (hb hby d16_66) rfl ((if0 _ _).trans (feq (by decide : ¬ ((1 : Int32) = (0 : Int32)))).1) k) ?_
  show Wlk p.tables e below (T3.setTop (mkF m 69 #[rv a, rv b] [])) K
  refine Wlk.of (fun _ k => XS.aloadN X3.here hx rfl (hb hby d16_69) rfl rfl k) ?_
  show Wlk p.tables e below (T3.setTop (mkF m 70 #[rv a, rv b] [(.ref a)])) K
  obtain ⟨T4, X4, e4, st4⟩ := castY X3 hx hZ hown (wd hw 115 rfl) e3 (Ins.of_exa E_a (wd hw 97 rfl)) (g := (mkF m 70 #[rv a, rv b] [(.ref a)])) rfl rfl (hb hby d16_70)
  refine Wlk.of (fun _ k => st4 _ k) ?_
  show Wlk p.tables e below (T4.setTop (mkF m 73 #[rv a, rv b] [(.ref a)])) K
  obtain ⟨v5, T5, L5, X5, q5, st5⟩ := Ctr.virtual (y := (⟨"java/lang/Double", "doubleValue", "()D"⟩ : MethodName)) (c_dv l Z a0 hw a ((FP.ddiv (FP.l2d (1 : Int64)) (FP.l2d (2 : Int64)))) h0 n0 (Nat.le_trans Z0 K0.1) F_a_value) X4 hx hH e4 hown (wd hw 116 rfl) (wd hw 117 rfl) (notFace_of_selects (args := #[]) (mvT hZ (wd hw 119 rfl))) (wd hw 119 rfl) (wd hw 118 rfl) (wd hw 91 rfl) (wd hw 120 rfl) (by decide) E_a pd_271 (g := (mkF m 73 #[rv a, rv b] [(.ref a)])) rfl (by rw [hml]; rfl) (argsL := []) (rest := []) rfl rfl rfl (W := 0) (by show 2 * 0 + _ ≤ _; exact Nat.le_of_eq rfl) (by decide) (by decide) (hb hby d16_73) (by decide) (by decide)
  obtain ⟨rfl, N5q, hh5⟩ := q5
  have N6 := Fr.app N0 N5q
  refine Wlk.of (fun _ k => st5 _ k) ?_
  show Wlk p.tables e below (T5.setTop (mkF m 76 #[rv a, rv b] [(.double (FP.ddiv (FP.l2d (1 : Int64)) (FP.l2d (2 : Int64))))])) K
  refine Wlk.of (fun _ k => XS.aloadN X5.here hx rfl (hb hby d16_76) rfl rfl k) ?_
  show Wlk p.tables e below (T5.setTop (mkF m 77 #[rv a, rv b] [(.ref b), (.double (FP.ddiv (FP.l2d (1 : Int64)) (FP.l2d (2 : Int64))))])) K
  obtain ⟨T7, X7, e7, st7⟩ := castY X5 hx hZ hown (wd hw 115 rfl) hh5 (Ins.of_exa E_b (wd hw 97 rfl)) (g := (mkF m 77 #[rv a, rv b] [(.ref b), (.double (FP.ddiv (FP.l2d (1 : Int64)) (FP.l2d (2 : Int64))))])) rfl rfl (hb hby d16_77)
  refine Wlk.of (fun _ k => st7 _ k) ?_
  show Wlk p.tables e below (T7.setTop (mkF m 80 #[rv a, rv b] [(.ref b), (.double (FP.ddiv (FP.l2d (1 : Int64)) (FP.l2d (2 : Int64))))])) K
  obtain ⟨v8, T8, L8, X8, q8, st8⟩ := Ctr.virtual (y := (⟨"java/lang/Double", "doubleValue", "()D"⟩ : MethodName)) (c_dv l Z a0 hw b ((FP.ddiv (FP.l2d (3 : Int64)) (FP.l2d (2 : Int64)))) h0 n0 (Nat.le_trans Z0 K0.1) F_b_value) X7 hx hH e7 hown (wd hw 116 rfl) (wd hw 117 rfl) (notFace_of_selects (args := #[]) (mvT hZ (wd hw 119 rfl))) (wd hw 119 rfl) (wd hw 118 rfl) (wd hw 91 rfl) (wd hw 120 rfl) (by decide) E_b pd_271 (g := (mkF m 80 #[rv a, rv b] [(.ref b), (.double (FP.ddiv (FP.l2d (1 : Int64)) (FP.l2d (2 : Int64))))])) rfl (by rw [hml]; rfl) (argsL := []) (rest := [(.double (FP.ddiv (FP.l2d (1 : Int64)) (FP.l2d (2 : Int64))))]) rfl rfl rfl (W := 2) (by show 2 * 0 + _ ≤ _; exact Nat.le_of_eq rfl) (by decide) (by decide) (hb hby d16_80) (by decide) (by decide)
  obtain ⟨rfl, N8q, hh8⟩ := q8
  have N9 := Fr.app N6 N8q
  refine Wlk.of (fun _ k => st8 _ k) ?_
  show Wlk p.tables e below (T8.setTop (mkF m 83 #[rv a, rv b] [(.double (FP.ddiv (FP.l2d (3 : Int64)) (FP.l2d (2 : Int64)))), (.double (FP.ddiv (FP.l2d (1 : Int64)) (FP.l2d (2 : Int64))))])) K
  refine Wlk.of (fun _ k => XS.dcmpS X8.here hx rfl (hb hby d16_83) rfl rfl k) ?_
  show Wlk p.tables e below (T8.setTop (mkF m 84 #[rv a, rv b] [(.int (cmpValue (FP.dcmp (FP.ddiv (FP.l2d (1 : Int64)) (FP.l2d (2 : Int64))) (FP.ddiv (FP.l2d (3 : Int64)) (FP.l2d (2 : Int64)))) .l))])) K
  refine Wlk.of (fun _ k => XS.ifYes X8.here hx rfl (pc0 := 84) (pc' := 91) rfl (hb hby d16_84) rfl ((if0 _ _).trans (feq (by decide +kernel : ¬ ((cmpValue (FP.dcmp (FP.ddiv (FP.l2d (1 : Int64)) (FP.l2d (2 : Int64))) (FP.ddiv (FP.l2d (3 : Int64)) (FP.l2d (2 : Int64)))) .l) = (0 : Int32)))).2) (by decide) (by decide) k) ?_
  show Wlk p.tables e below (T8.setTop (mkF m 91 #[rv a, rv b] [])) K
  refine Wlk.of (fun _ k => XS.iconst X8.here hx rfl (hb hby d16_91) k) ?_
  show Wlk p.tables e below (T8.setTop (mkF m 92 #[rv a, rv b] [(.int (0 : Int32))])) K
  refine hK (some (.int (0 : Int32))) X8 (fun q => by cases q) (fun fs hr => retN X8 hx (t := .boolean) hret (by simp) (hb hby d16_92) hr) ?_ (by decide) (by decide)
  rw [show T8.heap = h0 from hh8]
  exact ⟨rfl, N9, rfl⟩
theorem d5_0 : decode prog_1_method_9_code 0 = .ok (.aload_n 0, 1) := by decide +kernel
theorem d5_1 : decode prog_1_method_9_code 1 = .ok (.getstatic 174, 3) := by decide +kernel
theorem d5_4 : decode prog_1_method_9_code 4 = .ok (.if_acmp .eq 10, 3) := by decide +kernel
theorem d5_7 : decode prog_1_method_9_code 7 = .ok (.aload_n 0, 1) := by decide +kernel
theorem d5_8 : decode prog_1_method_9_code 8 = .ok (.getstatic 139, 3) := by decide +kernel
theorem d5_11 : decode prog_1_method_9_code 11 = .ok (.if_acmp .ne 7, 3) := by decide +kernel
theorem d5_14 : decode prog_1_method_9_code 14 = .ok (.iconst 1, 1) := by decide +kernel
theorem d5_15 : decode prog_1_method_9_code 15 = .ok (.goto 4, 3) := by decide +kernel
theorem d5_19 : decode prog_1_method_9_code 19 = .ok (.ireturn, 1) := by decide +kernel
theorem ef_c_isI (m : MethodId) (i64 : Addr) : entryFrame m #[(.ref i64)] 1 = mkF m 0 #[rv i64] [] := by first | (simp [entryFrame, mkF, argsToLocals, Value.category]; done) | rfl
def Q_c_isI (Z : State) (i64 : Addr) (i32 : Addr) (h0 : Heap) (n0 : Nat) (v : Option Value) (h : Heap) (L : List Loc) : Prop := v = (some (.int (1 : Int32))) ∧ Fr n0 L ∧ h = h0
set_option maxRecDepth 65536 in
set_option maxHeartbeats 40000000 in
theorem c_isI (l : Launch) (Z : State) (a0 : Array Value) (hw : ∀ d ∈ tables_1, d.before a0 Z = true) (i64 : Addr) (i32 : Addr) (h0 : Heap) (n0 : Nat) (Z0 : n0 ≤ h0.size) (S_INT32 : Sta Z h0 "com/example/gapweave/gapweave/ColumnType" "INT32" "Lcom/example/gapweave/gapweave/ColumnType;" (.ref i32)) (S_INT64 : Sta Z h0 "com/example/gapweave/gapweave/ColumnType" "INT64" "Lcom/example/gapweave/gapweave/ColumnType;" (.ref i64)) (ne_i64_i32 : i64 ≠ i32) :
    Ctr l Z h0 (⟨"com/example/gapweave/gapweave/AggregateFunction", "isIntegral", "(Lcom/example/gapweave/gapweave/ColumnType;)Z"⟩ : MethodName) prog_1_method_9_code 1 (some .boolean) [] ({ frames := 0, cells := 0, slots := 0, locals := 0 } : Room) #[(.ref i64)] (Q_c_isI Z i64 i32 h0 n0) := by
  refine Ctr.make (plainFor_of_name pn_90) fun p e s m below meth c s₁ K hret hml hx hby hown hnm hnamed hH hZ X0 e0 hK => ?_
  have hown : s.vm.findClass "com/example/gapweave/gapweave/AggregateFunction" = some m.cls := hown
  have N0 := Fr.nil n0
  have K0 : Keep h0 h0 [] := Keep.refl _ _
  refine Wlk.of (fun _ k => castTop (ef_c_isI m i64) k) ?_
  show Wlk p.tables e below (s₁.setTop (mkF m 0 #[rv i64] [])) K
  refine Wlk.of (fun _ k => XS.aloadN X0.here hx rfl (hb hby d5_0) rfl rfl k) ?_
  show Wlk p.tables e below (s₁.setTop (mkF m 1 #[rv i64] [(.ref i64)])) K
  obtain ⟨T1, X1, e1, st1⟩ := getS2 X0 hx hZ hown (host := "") (Or.inl (wd hw 37 rfl)) Via.refl e0 S_INT32 (g := (mkF m 1 #[rv i64] [(.ref i64)])) rfl (hb hby d5_1)
  refine Wlk.of (fun _ k => st1 _ k) ?_
  show Wlk p.tables e below (T1.setTop (mkF m 4 #[rv i64] [(.ref i32), (.ref i64)])) K
  refine Wlk.of (fun _ k => acmp X1 hx rfl (cd := .eq) (x := (.ref i64)) (y := (.ref i32)) rfl rfl (pc0 := 4) (pc' := 7) (same := false) rfl (hb hby d5_4) rfl (decide_eq_false (fun q => ne_i64_i32 (Value.ref.inj q))) (by decide) (by decide) k) ?_
  show Wlk p.tables e below (T1.setTop (mkF m 7 #[rv i64] [])) K
  refine Wlk.of (fun _ k => XS.aloadN X1.here hx rfl (hb hby d5_7) rfl rfl k) ?_
  show Wlk p.tables e below (T1.setTop (mkF m 8 #[rv i64] [(.ref i64)])) K
  obtain ⟨T2, X2, e2, st2⟩ := getS2 X1 hx hZ hown (host := "") (Or.inl (wd hw 39 rfl)) Via.refl e1 S_INT64 (g := (mkF m 8 #[rv i64] [(.ref i64)])) rfl (hb hby d5_8)
  refine Wlk.of (fun _ k => st2 _ k) ?_
  show Wlk p.tables e below (T2.setTop (mkF m 11 #[rv i64] [(.ref i64), (.ref i64)])) K
  refine Wlk.of (fun _ k => acmp X2 hx rfl (cd := .ne) (x := (.ref i64)) (y := (.ref i64)) rfl rfl (pc0 := 11) (pc' := 14) (same := true) rfl (hb hby d5_11) rfl (decide_eq_true rfl) (by decide) (by decide) k) ?_
  show Wlk p.tables e below (T2.setTop (mkF m 14 #[rv i64] [])) K
  refine Wlk.of (fun _ k => XS.iconst X2.here hx rfl (hb hby d5_14) k) ?_
  show Wlk p.tables e below (T2.setTop (mkF m 15 #[rv i64] [(.int (1 : Int32))])) K
  refine Wlk.of (fun _ k => XS.goto X2.here hx rfl (pc0 := 15) (pc' := 19) rfl (hb hby d5_15) (by decide) (by decide) k) ?_
  show Wlk p.tables e below (T2.setTop (mkF m 19 #[rv i64] [(.int (1 : Int32))])) K
  refine hK (some (.int (1 : Int32))) X2 (fun q => by cases q) (fun fs hr => retN X2 hx (t := .boolean) hret (by simp) (hb hby d5_19) hr) ?_ (by decide) (by decide)
  rw [show T2.heap = h0 from e2]
  exact ⟨rfl, N0, rfl⟩
theorem pd_297 : parseMethodDescriptor "()I" = some ⟨[], some .int⟩ := by decide +kernel
theorem d19_0 : decode prog_1_method_11_code 0 = .ok (.getstatic 194, 3) := by decide +kernel
theorem d19_3 : decode prog_1_method_11_code 3 = .ok (.aload_n 0, 1) := by decide +kernel
theorem d19_4 : decode prog_1_method_11_code 4 = .ok (.invokevirtual 200, 3) := by decide +kernel
theorem d19_7 : decode prog_1_method_11_code 7 = .ok (.iaload, 1) := by decide +kernel
theorem d19_8 : decode prog_1_method_11_code 8 = .ok (.tableswitch 72 1 6 #[40, 40, 48, 48, 56, 64], 40) := by decide +kernel
theorem d19_48 : decode prog_1_method_11_code 48 = .ok (.invokedynamic 201, 5) := by decide +kernel
theorem d19_53 : decode prog_1_method_11_code 53 = .ok (.goto 44, 3) := by decide +kernel
theorem d19_97 : decode prog_1_method_11_code 97 = .ok (.areturn, 1) := by decide +kernel
theorem ef_c_order (m : MethodId) (i64 : Addr) : entryFrame m #[(.ref i64)] 1 = mkF m 0 #[rv i64] [] := by first | (simp [entryFrame, mkF, argsToLocals, Value.category]; done) | rfl
def Q_c_order (Z : State) (i64 : Addr) (sm : Addr) (la : Addr) (vsS : (List Value)) (h0 : Heap) (n0 : Nat) (v : Option Value) (h : Heap) (L : List Loc) : Prop := v = (some (.ref la)) ∧ Fr n0 L ∧ h = h0
set_option maxRecDepth 65536 in
set_option maxHeartbeats 40000000 in
theorem c_order (l : Launch) (Z : State) (a0 : Array Value) (hw : ∀ d ∈ tables_1, d.before a0 Z = true) (i64 : Addr) (sm : Addr) (la : Addr) (vsS : (List Value)) (h0 : Heap) (n0 : Nat) (Z0 : n0 ≤ h0.size) (S__SwitchMap_com_example_gapweave_gapweave_ColumnType : Sta Z h0 "com/example/gapweave/gapweave/AggregateFunction$1" "$SwitchMap$com$example$gapweave$gapweave$ColumnType" "[I" (.ref sm)) (A_sm : Arl Z h0 sm .int vsS) (hS2 : vsS[2]? = some (.int (2 : Int32))) (E_i64 : Exa Z h0 i64 "com/example/gapweave/gapweave/ColumnType") (F_i64_ordinal : Fld Z h0 i64 "java/lang/Enum" "ordinal" "I" (.int (2 : Int32))) (hsite : Site Z (⟨"com/example/gapweave/gapweave/AggregateFunction", "order", "(Lcom/example/gapweave/gapweave/ColumnType;)Ljava/util/Comparator;"⟩ : MethodName) 48 la) :
    Ctr l Z h0 (⟨"com/example/gapweave/gapweave/AggregateFunction", "order", "(Lcom/example/gapweave/gapweave/ColumnType;)Ljava/util/Comparator;"⟩ : MethodName) prog_1_method_11_code 1 (some (.object "java/util/Comparator")) [] ({ frames := 1, cells := 0, slots := 0, locals := 3072 } : Room) #[(.ref i64)] (Q_c_order Z i64 sm la vsS h0 n0) := by
  refine Ctr.make (plainFor_of_name pn_90) fun p e s m below meth c s₁ K hret hml hx hby hown hnm hnamed hH hZ X0 e0 hK => ?_
  have hown : s.vm.findClass "com/example/gapweave/gapweave/AggregateFunction" = some m.cls := hown
  have N0 := Fr.nil n0
  have K0 : Keep h0 h0 [] := Keep.refl _ _
  refine Wlk.of (fun _ k => castTop (ef_c_order m i64) k) ?_
  show Wlk p.tables e below (s₁.setTop (mkF m 0 #[rv i64] [])) K
  obtain ⟨T1, X1, e1, st1⟩ := getS2 X0 hx hZ hown (host := "") (Or.inl (wd hw 135 rfl)) Via.refl e0 S__SwitchMap_com_example_gapweave_gapweave_ColumnType (g := (mkF m 0 #[rv i64] [])) rfl (hb hby d19_0)
  refine Wlk.of (fun _ k => st1 _ k) ?_
  show Wlk p.tables e below (T1.setTop (mkF m 3 #[rv i64] [(.ref sm)])) K
  refine Wlk.of (fun _ k => XS.aloadN X1.here hx rfl (hb hby d19_3) rfl rfl k) ?_
  show Wlk p.tables e below (T1.setTop (mkF m 4 #[rv i64] [(.ref i64), (.ref sm)])) K
  obtain ⟨v2, T2, L2, X2, q2, st2⟩ := Ctr.virtualUp (y := (⟨"com/example/gapweave/gapweave/ColumnType", "ordinal", "()I"⟩ : MethodName)) (owner := "java/lang/Enum") (c_ord l Z a0 hw i64 (2 : Int32) h0 n0 (Nat.le_trans Z0 K0.1) F_i64_ordinal) X1 hx hH e1 hown (wd hw 138 rfl) (wd hw 139 rfl) (wd hw 27 rfl) (by decide) (wd hw 140 rfl) (wd hw 28 rfl) (wd hw 30 rfl) (wd hw 31 rfl) E_i64 pd_297 (g := (mkF m 4 #[rv i64] [(.ref i64), (.ref sm)])) rfl (by rw [hml]; rfl) (argsL := []) (rest := [(.ref sm)]) rfl rfl rfl (W := 1) (by show 2 * 0 + _ ≤ _; exact Nat.le_of_eq rfl) (by decide) (by decide) (hb hby d19_4) (by decide) (by decide)
  obtain ⟨rfl, N2q, hh2⟩ := q2
  have N3 := Fr.app N0 N2q
  refine Wlk.of (fun _ k => st2 _ k) ?_
  show Wlk p.tables e below (T2.setTop (mkF m 7 #[rv i64] [(.int (2 : Int32)), (.ref sm)])) K
  refine Wlk.of (fun _ k => ldI X2 hx hZ hh2 A_sm (j := (2 : Int32)) (i := 2) (by decide) (by decide) hS2 (g := (mkF m 7 #[rv i64] [(.int (2 : Int32)), (.ref sm)])) rfl rfl (hb hby d19_7) _ k) ?_
  show Wlk p.tables e below (T2.setTop (mkF m 8 #[rv i64] [(.int (2 : Int32))])) K
  refine Wlk.of (fun _ k => X2.tableswitchIn hx (g := (mkF m 8 #[rv i64] [(.int (2 : Int32))])) rfl (k := (2 : Int32)) rfl (hb hby d19_8) (by decide) (off := 40) rfl (by show (0 : Int) ≤ ((8 : Nat) : Int) + (40); decide) _ k) ?_
  show Wlk p.tables e below (T2.setTop (mkF m 48 #[rv i64] [])) K
  refine Wlk.of (fun _ k => siteH X2 hx hH hnamed hsite (g := (mkF m 48 #[rv i64] [])) rfl (by rw [hml]; rfl) rfl (hb hby d19_48) (W := 0) (by show 2 * 0 + _ ≤ _; exact Nat.le_of_eq rfl) (by decide) _ k) ?_
  show Wlk p.tables e below (T2.setTop (mkF m 53 #[rv i64] [(.ref la)])) K
  refine Wlk.of (fun _ k => XS.goto X2.here hx rfl (pc0 := 53) (pc' := 97) rfl (hb hby d19_53) (by decide) (by decide) k) ?_
  show Wlk p.tables e below (T2.setTop (mkF m 97 #[rv i64] [(.ref la)])) K
  refine hK (some (.ref la)) X2 (fun q => by cases q) (fun fs hr => retOut X2 hx hret rfl (Or.inr (Or.inr (Or.inr (Or.inr ⟨rfl, rfl, rfl⟩)))) (hb hby d19_97) hr) ?_ (by decide) (by decide)
  rw [show T2.heap = h0 from hh2]
  exact ⟨rfl, N3, rfl⟩
theorem d1_0 : decode method_3_code 0 = .ok (.iload_n 0, 1) := by decide +kernel
theorem d1_1 : decode method_3_code 1 = .ok (.ifCond .ne 7, 3) := by decide +kernel
theorem d1_4 : decode method_3_code 4 = .ok (.getstatic 52, 3) := by decide +kernel
theorem d1_7 : decode method_3_code 7 = .ok (.areturn, 1) := by decide +kernel
theorem ef_c_pick0 (m : MethodId)  : entryFrame m #[(.int (0 : Int32))] 1 = mkF m 0 #[iv (0 : Int32)] [] := by first | (simp [entryFrame, mkF, argsToLocals, Value.category]; done) | rfl
def Q_c_pick0 (Z : State) (fA : Addr) (h0 : Heap) (n0 : Nat) (v : Option Value) (h : Heap) (L : List Loc) : Prop := v = (some (.ref fA)) ∧ Fr n0 L ∧ h = h0
set_option maxRecDepth 65536 in
set_option maxHeartbeats 40000000 in
theorem c_pick0 (l : Launch) (Z : State) (a0 : Array Value) (hw : ∀ d ∈ tables_1, d.before a0 Z = true) (fA : Addr) (h0 : Heap) (n0 : Nat) (Z0 : n0 ≤ h0.size) (S_AVG : Sta Z h0 "com/example/gapweave/gapweave/AggregateFunction" "AVG" "Lcom/example/gapweave/gapweave/AggregateFunction;" (.ref fA)) :
    Ctr l Z h0 (⟨"com/example/gapweave/gapweave/AggregateFunctionReadsValuesPinLaw", "pick", "(I)Lcom/example/gapweave/gapweave/AggregateFunction;"⟩ : MethodName) method_3_code 1 (some (.object "com/example/gapweave/gapweave/AggregateFunction")) [] ({ frames := 0, cells := 0, slots := 0, locals := 0 } : Room) #[(.int (0 : Int32))] (Q_c_pick0 Z fA h0 n0) := by
  refine Ctr.make (plainFor_of_name pn_250) fun p e s m below meth c s₁ K hret hml hx hby hown hnm hnamed hH hZ X0 e0 hK => ?_
  have hown : s.vm.findClass "com/example/gapweave/gapweave/AggregateFunctionReadsValuesPinLaw" = some m.cls := hown
  have N0 := Fr.nil n0
  have K0 : Keep h0 h0 [] := Keep.refl _ _
  refine Wlk.of (fun _ k => castTop (ef_c_pick0 m ) k) ?_
  show Wlk p.tables e below (s₁.setTop (mkF m 0 #[iv (0 : Int32)] [])) K
  refine Wlk.of (fun _ k => XS.iloadN X0.here hx rfl (hb hby d1_0) rfl k) ?_
  show Wlk p.tables e below (s₁.setTop (mkF m 1 #[iv (0 : Int32)] [(.int (0 : Int32))])) K
  refine Wlk.of (fun _ k => XS.ifNo X0.here hx rfl (hb hby d1_1) rfl ((if0 _ _).trans (teq (by decide : (0 : Int32) = (0 : Int32))).2) k) ?_
  show Wlk p.tables e below (s₁.setTop (mkF m 4 #[iv (0 : Int32)] [])) K
  obtain ⟨T1, X1, e1, st1⟩ := getS2 X0 hx hZ hown (host := "") (Or.inl (wd hw 5 rfl)) Via.refl e0 S_AVG (g := (mkF m 4 #[iv (0 : Int32)] [])) rfl (hb hby d1_4)
  refine Wlk.of (fun _ k => st1 _ k) ?_
  show Wlk p.tables e below (T1.setTop (mkF m 7 #[iv (0 : Int32)] [(.ref fA)])) K
  refine hK (some (.ref fA)) X1 (fun q => by cases q) (fun fs hr => retOut X1 hx hret rfl (Or.inr (Or.inr (Or.inr (Or.inr ⟨rfl, rfl, rfl⟩)))) (hb hby d1_7) hr) ?_ (by decide) (by decide)
  rw [show T1.heap = h0 from e1]
  exact ⟨rfl, N0, rfl⟩
theorem pd_310 : parseMethodDescriptor "(Lcom/example/gapweave/gapweave/ColumnType;)Z" = some ⟨[(.object "com/example/gapweave/gapweave/ColumnType")], some .boolean⟩ := by decide +kernel
theorem d3_0 : decode prog_1_method_8_code 0 = .ok (.aload_n 0, 1) := by decide +kernel
theorem d3_1 : decode prog_1_method_8_code 1 = .ok (.invokevirtual 85, 3) := by decide +kernel
theorem d3_4 : decode prog_1_method_8_code 4 = .ok (.tableswitch 44 0 6 #[54, 81, 108, 123, 138, 148, 158], 44) := by decide +kernel
theorem d3_58 : decode prog_1_method_8_code 58 = .ok (.aload_n 1, 1) := by decide +kernel
theorem d3_59 : decode prog_1_method_8_code 59 = .ok (.invokestatic 135, 3) := by decide +kernel
theorem d3_62 : decode prog_1_method_8_code 62 = .ok (.ifCond .eq 13, 3) := by decide +kernel
theorem d3_65 : decode prog_1_method_8_code 65 = .ok (.new 142, 3) := by decide +kernel
theorem d3_68 : decode prog_1_method_8_code 68 = .ok (.dup, 1) := by decide +kernel
theorem d3_69 : decode prog_1_method_8_code 69 = .ok (.invokespecial 144, 3) := by decide +kernel
theorem d3_72 : decode prog_1_method_8_code 72 = .ok (.goto 97, 3) := by decide +kernel
theorem d3_169 : decode prog_1_method_8_code 169 = .ok (.areturn, 1) := by decide +kernel
theorem ef_c_start0 (m : MethodId) (fA : Addr) (i64 : Addr) : entryFrame m #[(.ref fA), (.ref i64)] 2 = mkF m 0 #[rv fA, rv i64] [] := by first | (simp [entryFrame, mkF, argsToLocals, Value.category]; done) | rfl
def Q_c_start0 (Z : State) (fA : Addr) (i64 : Addr) (i32 : Addr) (h0 : Heap) (n0 : Nat) (v : Option Value) (h : Heap) (L : List Loc) : Prop := ∃ b : Addr, v = (some (.ref b)) ∧ Fr n0 L ∧ Keep h0 h [] ∧ h0.size ≤ b ∧ Exa Z h b "com/example/gapweave/gapweave/AggregateFunction$IntegerMean" ∧ Fld Z h b "com/example/gapweave/gapweave/AggregateFunction$IntegerMean" "count" "J" (.long (0 : Int64)) ∧ Fld Z h b "com/example/gapweave/gapweave/AggregateFunction$IntegerMean" "bigSum" "Ljava/math/BigInteger;" .null ∧ Fld Z h b "com/example/gapweave/gapweave/AggregateFunction$IntegerMean" "sum" "J" (.long (0 : Int64))
set_option maxRecDepth 65536 in
set_option maxHeartbeats 40000000 in
theorem c_start0 (l : Launch) (Z : State) (a0 : Array Value) (hw : ∀ d ∈ tables_1, d.before a0 Z = true) (fA : Addr) (i64 : Addr) (i32 : Addr) (h0 : Heap) (n0 : Nat) (Z0 : n0 ≤ h0.size) (E_fA : Exa Z h0 fA "com/example/gapweave/gapweave/AggregateFunction") (F_fA_ordinal : Fld Z h0 fA "java/lang/Enum" "ordinal" "I" (.int (0 : Int32))) (S_INT32 : Sta Z h0 "com/example/gapweave/gapweave/ColumnType" "INT32" "Lcom/example/gapweave/gapweave/ColumnType;" (.ref i32)) (S_INT64 : Sta Z h0 "com/example/gapweave/gapweave/ColumnType" "INT64" "Lcom/example/gapweave/gapweave/ColumnType;" (.ref i64)) (ne_i64_i32 : i64 ≠ i32) :
    Ctr l Z h0 (⟨"com/example/gapweave/gapweave/AggregateFunction", "start", "(Lcom/example/gapweave/gapweave/ColumnType;)Lcom/example/gapweave/gapweave/AggregateFunction$Accumulator;"⟩ : MethodName) prog_1_method_8_code 2 (some (.object "com/example/gapweave/gapweave/AggregateFunction$Accumulator")) [] ({ frames := 2, cells := 1, slots := 3, locals := 25 } : Room) #[(.ref fA), (.ref i64)] (Q_c_start0 Z fA i64 i32 h0 n0) := by
  refine Ctr.make (plainFor_of_name pn_90) fun p e s m below meth c s₁ K hret hml hx hby hown hnm hnamed hH hZ X0 e0 hK => ?_
  have hown : s.vm.findClass "com/example/gapweave/gapweave/AggregateFunction" = some m.cls := hown
  have N0 := Fr.nil n0
  have K0 : Keep h0 h0 [] := Keep.refl _ _
  refine Wlk.of (fun _ k => castTop (ef_c_start0 m fA i64) k) ?_
  show Wlk p.tables e below (s₁.setTop (mkF m 0 #[rv fA, rv i64] [])) K
  refine Wlk.of (fun _ k => XS.aloadN X0.here hx rfl (hb hby d3_0) rfl rfl k) ?_
  show Wlk p.tables e below (s₁.setTop (mkF m 1 #[rv fA, rv i64] [(.ref fA)])) K
  obtain ⟨v1, T1, L1, X1, q1, st1⟩ := Ctr.virtualUp (y := (⟨"com/example/gapweave/gapweave/AggregateFunction", "ordinal", "()I"⟩ : MethodName)) (owner := "java/lang/Enum") (c_ord l Z a0 hw fA (0 : Int32) h0 n0 (Nat.le_trans Z0 K0.1) F_fA_ordinal) X0 hx hH e0 hown (wd hw 25 rfl) (wd hw 26 rfl) (wd hw 27 rfl) (by decide) (wd hw 29 rfl) (wd hw 28 rfl) (wd hw 30 rfl) (wd hw 31 rfl) E_fA pd_297 (g := (mkF m 1 #[rv fA, rv i64] [(.ref fA)])) rfl (by rw [hml]; rfl) (argsL := []) (rest := []) rfl rfl rfl (W := 0) (by show 2 * 0 + _ ≤ _; exact Nat.le_of_eq rfl) (by decide) (by decide) (hb hby d3_1) (by decide) (by decide)
  obtain ⟨rfl, N1q, hh1⟩ := q1
  have N2 := Fr.app N0 N1q
  refine Wlk.of (fun _ k => st1 _ k) ?_
  show Wlk p.tables e below (T1.setTop (mkF m 4 #[rv fA, rv i64] [(.int (0 : Int32))])) K
  refine Wlk.of (fun _ k => X1.tableswitchIn hx (g := (mkF m 4 #[rv fA, rv i64] [(.int (0 : Int32))])) rfl (k := (0 : Int32)) rfl (hb hby d3_4) (by decide) (off := 54) rfl (by show (0 : Int) ≤ ((4 : Nat) : Int) + (54); decide) _ k) ?_
  show Wlk p.tables e below (T1.setTop (mkF m 58 #[rv fA, rv i64] [])) K
  refine Wlk.of (fun _ k => XS.aloadN X1.here hx rfl (hb hby d3_58) rfl rfl k) ?_
  show Wlk p.tables e below (T1.setTop (mkF m 59 #[rv fA, rv i64] [(.ref i64)])) K
  obtain ⟨v3, T3, L3, X3, q3, st3⟩ := Ctr.static (c_isI l Z a0 hw i64 i32 h0 n0 (Nat.le_trans Z0 K0.1) S_INT32 S_INT64 ne_i64_i32) X1 hx hH hh1 hown (wd hw 34 rfl) (wd hw 35 rfl) (wd hw 6 rfl) (wd hw 36 rfl) (by decide) pd_310 (g := (mkF m 59 #[rv fA, rv i64] [(.ref i64)])) rfl (by rw [hml]; rfl) (argsL := [(.ref i64)]) (rest := []) rfl rfl rfl (W := 0) (by show 2 * 0 + _ ≤ _; exact Nat.le_of_eq rfl) (by decide) (by decide) (hb hby d3_59) (by decide) (by decide)
  obtain ⟨rfl, N3q, hh3⟩ := q3
  have N4 := Fr.app N2 N3q
  refine Wlk.of (fun _ k => st3 _ k) ?_
  show Wlk p.tables e below (T3.setTop (mkF m 62 #[rv fA, rv i64] [(.int (1 : Int32))])) K
  refine Wlk.of (fun _ k => XS.ifNo X3.here hx rfl (hb hby d3_62) rfl ((if0 _ _).trans (feq (by decide : ¬ ((1 : Int32) = (0 : Int32)))).1) k) ?_
  show Wlk p.tables e below (T3.setTop (mkF m 65 #[rv fA, rv i64] [])) K
  obtain ⟨T5, h5, X5, e5, E5, A5, D5, -, st5⟩ := newO X3 hx hZ hown (wd hw 40 rfl) (wd hw 41 rfl) (wd hw 42 rfl) hh3 (g := (mkF m 65 #[rv fA, rv i64] [])) rfl (hb hby d3_65) (by decide) (by decide)
  obtain ⟨b5, g5⟩ : ∃ z, z = h0.size := ⟨_, rfl⟩
  rw [← g5] at A5 D5 st5
  have ne6 : fA ≠ b5 := Nat.ne_of_lt (Nat.lt_of_lt_of_le E_fA.lt (Nat.le_of_eq g5.symm))
  have sz_b5 : h0.size ≤ b5 := Nat.le_trans K0.1 (Nat.le_of_eq g5.symm)
  have g_b5 : n0 ≤ b5 := Nat.le_trans Z0 sz_b5
  have K8 : Keep h0 h5 [] := K0.ext E5
  have F_b5_count : Fld Z h5 b5 "com/example/gapweave/gapweave/AggregateFunction$IntegerMean" "count" "J" (.long (0 : Int64)) := D5 (Or.inl (wd hw 68 rfl)) (ty := .long) (by decide)
  have F_b5_bigSum : Fld Z h5 b5 "com/example/gapweave/gapweave/AggregateFunction$IntegerMean" "bigSum" "Ljava/math/BigInteger;" .null := D5 (Or.inl (wd hw 70 rfl)) (ty := (.object "java/math/BigInteger")) (by decide)
  have F_b5_sum : Fld Z h5 b5 "com/example/gapweave/gapweave/AggregateFunction$IntegerMean" "sum" "J" (.long (0 : Int64)) := D5 (Or.inl (wd hw 72 rfl)) (ty := .long) (by decide)
  refine Wlk.of (fun _ k => st5 _ k) ?_
  show Wlk p.tables e below (T5.setTop (mkF m 68 #[rv fA, rv i64] [(.ref b5)])) K
  refine Wlk.of (fun _ k => XS.dup X5.here hx rfl (hb hby d3_68) rfl rfl k) ?_
  show Wlk p.tables e below (T5.setTop (mkF m 69 #[rv fA, rv i64] [(.ref b5), (.ref b5)])) K
  obtain ⟨v9, T9, L9, X9, q9, st9⟩ := Ctr.specialRef (c_iIntegerMean l Z a0 hw b5 h5 n0 (Nat.le_trans Z0 K8.1) ) X5 hx hH e5 hown rfl (wd hw 43 rfl) (wd hw 44 rfl) (wd hw 42 rfl) (wd hw 45 rfl) (by decide) pd_67 (g := (mkF m 69 #[rv fA, rv i64] [(.ref b5), (.ref b5)])) rfl (by rw [hml]; rfl) (a := b5) (argsL := []) (rest := [(.ref b5)]) rfl rfl rfl (W := 1) (by show 2 * 0 + _ ≤ _; exact Nat.le_of_eq rfl) (by decide) (by decide) (hb hby d3_69) (by decide) (by decide)
  obtain ⟨rfl, N9q, hh9⟩ := q9
  have N10 := Fr.app N4 N9q
  refine Wlk.of (fun _ k => st9 _ k) ?_
  show Wlk p.tables e below (T9.setTop (mkF m 72 #[rv fA, rv i64] [(.ref b5)])) K
  refine Wlk.of (fun _ k => XS.goto X9.here hx rfl (pc0 := 72) (pc' := 169) rfl (hb hby d3_72) (by decide) (by decide) k) ?_
  show Wlk p.tables e below (T9.setTop (mkF m 169 #[rv fA, rv i64] [(.ref b5)])) K
  refine hK (some (.ref b5)) X9 (fun q => by cases q) (fun fs hr => retOut X9 hx hret rfl (Or.inr (Or.inr (Or.inr (Or.inr ⟨rfl, rfl, rfl⟩)))) (hb hby d3_169) hr) ?_ (by decide) (by decide)
  rw [show T9.heap = h5 from hh9]
  exact ⟨b5, rfl, N10, K8, sz_b5, A5, F_b5_count, F_b5_bigSum, F_b5_sum⟩
theorem d18_0 : decode prog_1_method_7_code 0 = .ok (.aload_n 0, 1) := by decide +kernel
theorem d18_1 : decode prog_1_method_7_code 1 = .ok (.getstatic 3, 3) := by decide +kernel
theorem d18_4 : decode prog_1_method_7_code 4 = .ok (.if_acmp .eq 24, 3) := by decide +kernel
theorem d18_28 : decode prog_1_method_7_code 28 = .ok (.iconst 1, 1) := by decide +kernel
theorem d18_29 : decode prog_1_method_7_code 29 = .ok (.goto 4, 3) := by decide +kernel
theorem d18_33 : decode prog_1_method_7_code 33 = .ok (.ireturn, 1) := by decide +kernel
theorem ef_c_rv0 (m : MethodId) (fA : Addr) : entryFrame m #[(.ref fA)] 1 = mkF m 0 #[rv fA] [] := by first | (simp [entryFrame, mkF, argsToLocals, Value.category]; done) | rfl
def Q_c_rv0 (Z : State) (fA : Addr) (h0 : Heap) (n0 : Nat) (v : Option Value) (h : Heap) (L : List Loc) : Prop := v = (some (.int (1 : Int32))) ∧ Fr n0 L ∧ h = h0
set_option maxRecDepth 65536 in
set_option maxHeartbeats 40000000 in
theorem c_rv0 (l : Launch) (Z : State) (a0 : Array Value) (hw : ∀ d ∈ tables_1, d.before a0 Z = true) (fA : Addr) (h0 : Heap) (n0 : Nat) (Z0 : n0 ≤ h0.size) (S_AVG : Sta Z h0 "com/example/gapweave/gapweave/AggregateFunction" "AVG" "Lcom/example/gapweave/gapweave/AggregateFunction;" (.ref fA)) :
    Ctr l Z h0 (⟨"com/example/gapweave/gapweave/AggregateFunction", "readsValues", "()Z"⟩ : MethodName) prog_1_method_7_code 1 (some .boolean) [] ({ frames := 0, cells := 0, slots := 0, locals := 0 } : Room) #[(.ref fA)] (Q_c_rv0 Z fA h0 n0) := by
  refine Ctr.make (plainFor_of_name pn_90) fun p e s m below meth c s₁ K hret hml hx hby hown hnm hnamed hH hZ X0 e0 hK => ?_
  have hown : s.vm.findClass "com/example/gapweave/gapweave/AggregateFunction" = some m.cls := hown
  have N0 := Fr.nil n0
  have K0 : Keep h0 h0 [] := Keep.refl _ _
  refine Wlk.of (fun _ k => castTop (ef_c_rv0 m fA) k) ?_
  show Wlk p.tables e below (s₁.setTop (mkF m 0 #[rv fA] [])) K
  refine Wlk.of (fun _ k => XS.aloadN X0.here hx rfl (hb hby d18_0) rfl rfl k) ?_
  show Wlk p.tables e below (s₁.setTop (mkF m 1 #[rv fA] [(.ref fA)])) K
  obtain ⟨T1, X1, e1, st1⟩ := getS2 X0 hx hZ hown (host := "") (Or.inl (wd hw 126 rfl)) Via.refl e0 S_AVG (g := (mkF m 1 #[rv fA] [(.ref fA)])) rfl (hb hby d18_1)
  refine Wlk.of (fun _ k => st1 _ k) ?_
  show Wlk p.tables e below (T1.setTop (mkF m 4 #[rv fA] [(.ref fA), (.ref fA)])) K
  refine Wlk.of (fun _ k => acmp X1 hx rfl (cd := .eq) (x := (.ref fA)) (y := (.ref fA)) rfl rfl (pc0 := 4) (pc' := 28) (same := true) rfl (hb hby d18_4) rfl (decide_eq_true rfl) (by decide) (by decide) k) ?_
  show Wlk p.tables e below (T1.setTop (mkF m 28 #[rv fA] [])) K
  refine Wlk.of (fun _ k => XS.iconst X1.here hx rfl (hb hby d18_28) k) ?_
  show Wlk p.tables e below (T1.setTop (mkF m 29 #[rv fA] [(.int (1 : Int32))])) K
  refine Wlk.of (fun _ k => XS.goto X1.here hx rfl (pc0 := 29) (pc' := 33) rfl (hb hby d18_29) (by decide) (by decide) k) ?_
  show Wlk p.tables e below (T1.setTop (mkF m 33 #[rv fA] [(.int (1 : Int32))])) K
  refine hK (some (.int (1 : Int32))) X1 (fun q => by cases q) (fun fs hr => retN X1 hx (t := .boolean) hret (by simp) (hb hby d18_33) hr) ?_ (by decide) (by decide)
  rw [show T1.heap = h0 from e1]
  exact ⟨rfl, N0, rfl⟩
theorem d1_8 : decode method_3_code 8 = .ok (.iload_n 0, 1) := by decide +kernel
theorem d1_9 : decode method_3_code 9 = .ok (.iconst 1, 1) := by decide +kernel
theorem d1_10 : decode method_3_code 10 = .ok (.if_icmp .ne 7, 3) := by decide +kernel
theorem d1_13 : decode method_3_code 13 = .ok (.getstatic 56, 3) := by decide +kernel
theorem d1_16 : decode method_3_code 16 = .ok (.areturn, 1) := by decide +kernel
theorem ef_c_pick1 (m : MethodId)  : entryFrame m #[(.int (1 : Int32))] 1 = mkF m 0 #[iv (1 : Int32)] [] := by first | (simp [entryFrame, mkF, argsToLocals, Value.category]; done) | rfl
def Q_c_pick1 (Z : State) (fS : Addr) (h0 : Heap) (n0 : Nat) (v : Option Value) (h : Heap) (L : List Loc) : Prop := v = (some (.ref fS)) ∧ Fr n0 L ∧ h = h0
set_option maxRecDepth 65536 in
set_option maxHeartbeats 40000000 in
theorem c_pick1 (l : Launch) (Z : State) (a0 : Array Value) (hw : ∀ d ∈ tables_1, d.before a0 Z = true) (fS : Addr) (h0 : Heap) (n0 : Nat) (Z0 : n0 ≤ h0.size) (S_SUM : Sta Z h0 "com/example/gapweave/gapweave/AggregateFunction" "SUM" "Lcom/example/gapweave/gapweave/AggregateFunction;" (.ref fS)) :
    Ctr l Z h0 (⟨"com/example/gapweave/gapweave/AggregateFunctionReadsValuesPinLaw", "pick", "(I)Lcom/example/gapweave/gapweave/AggregateFunction;"⟩ : MethodName) method_3_code 1 (some (.object "com/example/gapweave/gapweave/AggregateFunction")) [] ({ frames := 0, cells := 0, slots := 0, locals := 0 } : Room) #[(.int (1 : Int32))] (Q_c_pick1 Z fS h0 n0) := by
  refine Ctr.make (plainFor_of_name pn_250) fun p e s m below meth c s₁ K hret hml hx hby hown hnm hnamed hH hZ X0 e0 hK => ?_
  have hown : s.vm.findClass "com/example/gapweave/gapweave/AggregateFunctionReadsValuesPinLaw" = some m.cls := hown
  have N0 := Fr.nil n0
  have K0 : Keep h0 h0 [] := Keep.refl _ _
  refine Wlk.of (fun _ k => castTop (ef_c_pick1 m ) k) ?_
  show Wlk p.tables e below (s₁.setTop (mkF m 0 #[iv (1 : Int32)] [])) K
  refine Wlk.of (fun _ k => XS.iloadN X0.here hx rfl (hb hby d1_0) rfl k) ?_
  show Wlk p.tables e below (s₁.setTop (mkF m 1 #[iv (1 : Int32)] [(.int (1 : Int32))])) K
  refine Wlk.of (fun _ k => XS.ifYes X0.here hx rfl (pc0 := 1) (pc' := 8) rfl (hb hby d1_1) rfl ((if0 _ _).trans (feq (by decide : ¬ ((1 : Int32) = (0 : Int32)))).2) (by decide) (by decide) k) ?_
  show Wlk p.tables e below (s₁.setTop (mkF m 8 #[iv (1 : Int32)] [])) K
  refine Wlk.of (fun _ k => XS.iloadN X0.here hx rfl (hb hby d1_8) rfl k) ?_
  show Wlk p.tables e below (s₁.setTop (mkF m 9 #[iv (1 : Int32)] [(.int (1 : Int32))])) K
  refine Wlk.of (fun _ k => XS.iconst X0.here hx rfl (hb hby d1_9) k) ?_
  show Wlk p.tables e below (s₁.setTop (mkF m 10 #[iv (1 : Int32)] [(.int (1 : Int32)), (.int (1 : Int32))])) K
  refine Wlk.of (fun _ k => XS.icmpNo X0.here hx rfl (hb hby d1_10) rfl (teq (by decide : (1 : Int32) = (1 : Int32))).2 k) ?_
  show Wlk p.tables e below (s₁.setTop (mkF m 13 #[iv (1 : Int32)] [])) K
  obtain ⟨T1, X1, e1, st1⟩ := getS2 X0 hx hZ hown (host := "") (Or.inl (wd hw 255 rfl)) Via.refl e0 S_SUM (g := (mkF m 13 #[iv (1 : Int32)] [])) rfl (hb hby d1_13)
  refine Wlk.of (fun _ k => st1 _ k) ?_
  show Wlk p.tables e below (T1.setTop (mkF m 16 #[iv (1 : Int32)] [(.ref fS)])) K
  refine hK (some (.ref fS)) X1 (fun q => by cases q) (fun fs hr => retOut X1 hx hret rfl (Or.inr (Or.inr (Or.inr (Or.inr ⟨rfl, rfl, rfl⟩)))) (hb hby d1_16) hr) ?_ (by decide) (by decide)
  rw [show T1.heap = h0 from e1]
  exact ⟨rfl, N0, rfl⟩
theorem d3_85 : decode prog_1_method_8_code 85 = .ok (.aload_n 1, 1) := by decide +kernel
theorem d3_86 : decode prog_1_method_8_code 86 = .ok (.invokestatic 135, 3) := by decide +kernel
theorem d3_89 : decode prog_1_method_8_code 89 = .ok (.ifCond .eq 13, 3) := by decide +kernel
theorem d3_92 : decode prog_1_method_8_code 92 = .ok (.new 150, 3) := by decide +kernel
theorem d3_95 : decode prog_1_method_8_code 95 = .ok (.dup, 1) := by decide +kernel
theorem d3_96 : decode prog_1_method_8_code 96 = .ok (.invokespecial 152, 3) := by decide +kernel
theorem d3_99 : decode prog_1_method_8_code 99 = .ok (.goto 70, 3) := by decide +kernel
theorem ef_c_start1 (m : MethodId) (fS : Addr) (i64 : Addr) : entryFrame m #[(.ref fS), (.ref i64)] 2 = mkF m 0 #[rv fS, rv i64] [] := by first | (simp [entryFrame, mkF, argsToLocals, Value.category]; done) | rfl
def Q_c_start1 (Z : State) (fS : Addr) (i64 : Addr) (i32 : Addr) (h0 : Heap) (n0 : Nat) (v : Option Value) (h : Heap) (L : List Loc) : Prop := ∃ b : Addr, v = (some (.ref b)) ∧ Fr n0 L ∧ Keep h0 h [] ∧ h0.size ≤ b ∧ Exa Z h b "com/example/gapweave/gapweave/AggregateFunction$IntegerSum" ∧ Fld Z h b "com/example/gapweave/gapweave/AggregateFunction$IntegerSum" "sum" "J" (.long (0 : Int64)) ∧ Fld Z h b "com/example/gapweave/gapweave/AggregateFunction$IntegerSum" "any" "Z" (.int (0 : Int32))
set_option maxRecDepth 65536 in
set_option maxHeartbeats 40000000 in
theorem c_start1 (l : Launch) (Z : State) (a0 : Array Value) (hw : ∀ d ∈ tables_1, d.before a0 Z = true) (fS : Addr) (i64 : Addr) (i32 : Addr) (h0 : Heap) (n0 : Nat) (Z0 : n0 ≤ h0.size) (E_fS : Exa Z h0 fS "com/example/gapweave/gapweave/AggregateFunction") (F_fS_ordinal : Fld Z h0 fS "java/lang/Enum" "ordinal" "I" (.int (1 : Int32))) (S_INT32 : Sta Z h0 "com/example/gapweave/gapweave/ColumnType" "INT32" "Lcom/example/gapweave/gapweave/ColumnType;" (.ref i32)) (S_INT64 : Sta Z h0 "com/example/gapweave/gapweave/ColumnType" "INT64" "Lcom/example/gapweave/gapweave/ColumnType;" (.ref i64)) (ne_i64_i32 : i64 ≠ i32) :
    Ctr l Z h0 (⟨"com/example/gapweave/gapweave/AggregateFunction", "start", "(Lcom/example/gapweave/gapweave/ColumnType;)Lcom/example/gapweave/gapweave/AggregateFunction$Accumulator;"⟩ : MethodName) prog_1_method_8_code 2 (some (.object "com/example/gapweave/gapweave/AggregateFunction$Accumulator")) [] ({ frames := 2, cells := 1, slots := 2, locals := 25 } : Room) #[(.ref fS), (.ref i64)] (Q_c_start1 Z fS i64 i32 h0 n0) := by
  refine Ctr.make (plainFor_of_name pn_90) fun p e s m below meth c s₁ K hret hml hx hby hown hnm hnamed hH hZ X0 e0 hK => ?_
  have hown : s.vm.findClass "com/example/gapweave/gapweave/AggregateFunction" = some m.cls := hown
  have N0 := Fr.nil n0
  have K0 : Keep h0 h0 [] := Keep.refl _ _
  refine Wlk.of (fun _ k => castTop (ef_c_start1 m fS i64) k) ?_
  show Wlk p.tables e below (s₁.setTop (mkF m 0 #[rv fS, rv i64] [])) K
  refine Wlk.of (fun _ k => XS.aloadN X0.here hx rfl (hb hby d3_0) rfl rfl k) ?_
  show Wlk p.tables e below (s₁.setTop (mkF m 1 #[rv fS, rv i64] [(.ref fS)])) K
  obtain ⟨v1, T1, L1, X1, q1, st1⟩ := Ctr.virtualUp (y := (⟨"com/example/gapweave/gapweave/AggregateFunction", "ordinal", "()I"⟩ : MethodName)) (owner := "java/lang/Enum") (c_ord l Z a0 hw fS (1 : Int32) h0 n0 (Nat.le_trans Z0 K0.1) F_fS_ordinal) X0 hx hH e0 hown (wd hw 25 rfl) (wd hw 26 rfl) (wd hw 27 rfl) (by decide) (wd hw 29 rfl) (wd hw 28 rfl) (wd hw 30 rfl) (wd hw 31 rfl) E_fS pd_297 (g := (mkF m 1 #[rv fS, rv i64] [(.ref fS)])) rfl (by rw [hml]; rfl) (argsL := []) (rest := []) rfl rfl rfl (W := 0) (by show 2 * 0 + _ ≤ _; exact Nat.le_of_eq rfl) (by decide) (by decide) (hb hby d3_1) (by decide) (by decide)
  obtain ⟨rfl, N1q, hh1⟩ := q1
  have N2 := Fr.app N0 N1q
  refine Wlk.of (fun _ k => st1 _ k) ?_
  show Wlk p.tables e below (T1.setTop (mkF m 4 #[rv fS, rv i64] [(.int (1 : Int32))])) K
  refine Wlk.of (fun _ k => X1.tableswitchIn hx (g := (mkF m 4 #[rv fS, rv i64] [(.int (1 : Int32))])) rfl (k := (1 : Int32)) rfl (hb hby d3_4) (by decide) (off := 81) rfl (by show (0 : Int) ≤ ((4 : Nat) : Int) + (81); decide) _ k) ?_
  show Wlk p.tables e below (T1.setTop (mkF m 85 #[rv fS, rv i64] [])) K
  refine Wlk.of (fun _ k => XS.aloadN X1.here hx rfl (hb hby d3_85) rfl rfl k) ?_
  show Wlk p.tables e below (T1.setTop (mkF m 86 #[rv fS, rv i64] [(.ref i64)])) K
  obtain ⟨v3, T3, L3, X3, q3, st3⟩ := Ctr.static (c_isI l Z a0 hw i64 i32 h0 n0 (Nat.le_trans Z0 K0.1) S_INT32 S_INT64 ne_i64_i32) X1 hx hH hh1 hown (wd hw 34 rfl) (wd hw 35 rfl) (wd hw 6 rfl) (wd hw 36 rfl) (by decide) pd_310 (g := (mkF m 86 #[rv fS, rv i64] [(.ref i64)])) rfl (by rw [hml]; rfl) (argsL := [(.ref i64)]) (rest := []) rfl rfl rfl (W := 0) (by show 2 * 0 + _ ≤ _; exact Nat.le_of_eq rfl) (by decide) (by decide) (hb hby d3_86) (by decide) (by decide)
  obtain ⟨rfl, N3q, hh3⟩ := q3
  have N4 := Fr.app N2 N3q
  refine Wlk.of (fun _ k => st3 _ k) ?_
  show Wlk p.tables e below (T3.setTop (mkF m 89 #[rv fS, rv i64] [(.int (1 : Int32))])) K
  refine Wlk.of (fun _ k => XS.ifNo X3.here hx rfl (hb hby d3_89) rfl ((if0 _ _).trans (feq (by decide : ¬ ((1 : Int32) = (0 : Int32)))).1) k) ?_
  show Wlk p.tables e below (T3.setTop (mkF m 92 #[rv fS, rv i64] [])) K
  obtain ⟨T5, h5, X5, e5, E5, A5, D5, -, st5⟩ := newO X3 hx hZ hown (wd hw 256 rfl) (wd hw 257 rfl) (wd hw 258 rfl) hh3 (g := (mkF m 92 #[rv fS, rv i64] [])) rfl (hb hby d3_92) (by decide) (by decide)
  obtain ⟨b5, g5⟩ : ∃ z, z = h0.size := ⟨_, rfl⟩
  rw [← g5] at A5 D5 st5
  have ne6 : fS ≠ b5 := Nat.ne_of_lt (Nat.lt_of_lt_of_le E_fS.lt (Nat.le_of_eq g5.symm))
  have sz_b5 : h0.size ≤ b5 := Nat.le_trans K0.1 (Nat.le_of_eq g5.symm)
  have g_b5 : n0 ≤ b5 := Nat.le_trans Z0 sz_b5
  have K8 : Keep h0 h5 [] := K0.ext E5
  have F_b5_sum : Fld Z h5 b5 "com/example/gapweave/gapweave/AggregateFunction$IntegerSum" "sum" "J" (.long (0 : Int64)) := D5 (Or.inl (wd hw 270 rfl)) (ty := .long) (by decide)
  have F_b5_any : Fld Z h5 b5 "com/example/gapweave/gapweave/AggregateFunction$IntegerSum" "any" "Z" (.int (0 : Int32)) := D5 (Or.inl (wd hw 275 rfl)) (ty := .boolean) (by decide)
  refine Wlk.of (fun _ k => st5 _ k) ?_
  show Wlk p.tables e below (T5.setTop (mkF m 95 #[rv fS, rv i64] [(.ref b5)])) K
  refine Wlk.of (fun _ k => XS.dup X5.here hx rfl (hb hby d3_95) rfl rfl k) ?_
  show Wlk p.tables e below (T5.setTop (mkF m 96 #[rv fS, rv i64] [(.ref b5), (.ref b5)])) K
  obtain ⟨v9, T9, L9, X9, q9, st9⟩ := Ctr.specialRef (c_iIntegerSum l Z a0 hw b5 h5 n0 (Nat.le_trans Z0 K8.1) ) X5 hx hH e5 hown rfl (wd hw 259 rfl) (wd hw 260 rfl) (wd hw 258 rfl) (wd hw 261 rfl) (by decide) pd_67 (g := (mkF m 96 #[rv fS, rv i64] [(.ref b5), (.ref b5)])) rfl (by rw [hml]; rfl) (a := b5) (argsL := []) (rest := [(.ref b5)]) rfl rfl rfl (W := 1) (by show 2 * 0 + _ ≤ _; exact Nat.le_of_eq rfl) (by decide) (by decide) (hb hby d3_96) (by decide) (by decide)
  obtain ⟨rfl, N9q, hh9⟩ := q9
  have N10 := Fr.app N4 N9q
  refine Wlk.of (fun _ k => st9 _ k) ?_
  show Wlk p.tables e below (T9.setTop (mkF m 99 #[rv fS, rv i64] [(.ref b5)])) K
  refine Wlk.of (fun _ k => XS.goto X9.here hx rfl (pc0 := 99) (pc' := 169) rfl (hb hby d3_99) (by decide) (by decide) k) ?_
  show Wlk p.tables e below (T9.setTop (mkF m 169 #[rv fS, rv i64] [(.ref b5)])) K
  refine hK (some (.ref b5)) X9 (fun q => by cases q) (fun fs hr => retOut X9 hx hret rfl (Or.inr (Or.inr (Or.inr (Or.inr ⟨rfl, rfl, rfl⟩)))) (hb hby d3_169) hr) ?_ (by decide) (by decide)
  rw [show T9.heap = h5 from hh9]
  exact ⟨b5, rfl, N10, K8, sz_b5, A5, F_b5_sum, F_b5_any⟩
theorem d18_7 : decode prog_1_method_7_code 7 = .ok (.aload_n 0, 1) := by decide +kernel
theorem d18_8 : decode prog_1_method_7_code 8 = .ok (.getstatic 7, 3) := by decide +kernel
theorem d18_11 : decode prog_1_method_7_code 11 = .ok (.if_acmp .eq 17, 3) := by decide +kernel
theorem ef_c_rv1 (m : MethodId) (fS : Addr) : entryFrame m #[(.ref fS)] 1 = mkF m 0 #[rv fS] [] := by first | (simp [entryFrame, mkF, argsToLocals, Value.category]; done) | rfl
def Q_c_rv1 (Z : State) (fS : Addr) (fA : Addr) (h0 : Heap) (n0 : Nat) (v : Option Value) (h : Heap) (L : List Loc) : Prop := v = (some (.int (1 : Int32))) ∧ Fr n0 L ∧ h = h0
set_option maxRecDepth 65536 in
set_option maxHeartbeats 40000000 in
theorem c_rv1 (l : Launch) (Z : State) (a0 : Array Value) (hw : ∀ d ∈ tables_1, d.before a0 Z = true) (fS : Addr) (fA : Addr) (h0 : Heap) (n0 : Nat) (Z0 : n0 ≤ h0.size) (S_AVG : Sta Z h0 "com/example/gapweave/gapweave/AggregateFunction" "AVG" "Lcom/example/gapweave/gapweave/AggregateFunction;" (.ref fA)) (S_SUM : Sta Z h0 "com/example/gapweave/gapweave/AggregateFunction" "SUM" "Lcom/example/gapweave/gapweave/AggregateFunction;" (.ref fS)) (ne_fS_fA : fS ≠ fA) :
    Ctr l Z h0 (⟨"com/example/gapweave/gapweave/AggregateFunction", "readsValues", "()Z"⟩ : MethodName) prog_1_method_7_code 1 (some .boolean) [] ({ frames := 0, cells := 0, slots := 0, locals := 0 } : Room) #[(.ref fS)] (Q_c_rv1 Z fS fA h0 n0) := by
  refine Ctr.make (plainFor_of_name pn_90) fun p e s m below meth c s₁ K hret hml hx hby hown hnm hnamed hH hZ X0 e0 hK => ?_
  have hown : s.vm.findClass "com/example/gapweave/gapweave/AggregateFunction" = some m.cls := hown
  have N0 := Fr.nil n0
  have K0 : Keep h0 h0 [] := Keep.refl _ _
  refine Wlk.of (fun _ k => castTop (ef_c_rv1 m fS) k) ?_
  show Wlk p.tables e below (s₁.setTop (mkF m 0 #[rv fS] [])) K
  refine Wlk.of (fun _ k => XS.aloadN X0.here hx rfl (hb hby d18_0) rfl rfl k) ?_
  show Wlk p.tables e below (s₁.setTop (mkF m 1 #[rv fS] [(.ref fS)])) K
  obtain ⟨T1, X1, e1, st1⟩ := getS2 X0 hx hZ hown (host := "") (Or.inl (wd hw 126 rfl)) Via.refl e0 S_AVG (g := (mkF m 1 #[rv fS] [(.ref fS)])) rfl (hb hby d18_1)
  refine Wlk.of (fun _ k => st1 _ k) ?_
  show Wlk p.tables e below (T1.setTop (mkF m 4 #[rv fS] [(.ref fA), (.ref fS)])) K
  refine Wlk.of (fun _ k => acmp X1 hx rfl (cd := .eq) (x := (.ref fS)) (y := (.ref fA)) rfl rfl (pc0 := 4) (pc' := 7) (same := false) rfl (hb hby d18_4) rfl (decide_eq_false (fun q => ne_fS_fA (Value.ref.inj q))) (by decide) (by decide) k) ?_
  show Wlk p.tables e below (T1.setTop (mkF m 7 #[rv fS] [])) K
  refine Wlk.of (fun _ k => XS.aloadN X1.here hx rfl (hb hby d18_7) rfl rfl k) ?_
  show Wlk p.tables e below (T1.setTop (mkF m 8 #[rv fS] [(.ref fS)])) K
  obtain ⟨T2, X2, e2, st2⟩ := getS2 X1 hx hZ hown (host := "") (Or.inl (wd hw 182 rfl)) Via.refl e1 S_SUM (g := (mkF m 8 #[rv fS] [(.ref fS)])) rfl (hb hby d18_8)
  refine Wlk.of (fun _ k => st2 _ k) ?_
  show Wlk p.tables e below (T2.setTop (mkF m 11 #[rv fS] [(.ref fS), (.ref fS)])) K
  refine Wlk.of (fun _ k => acmp X2 hx rfl (cd := .eq) (x := (.ref fS)) (y := (.ref fS)) rfl rfl (pc0 := 11) (pc' := 28) (same := true) rfl (hb hby d18_11) rfl (decide_eq_true rfl) (by decide) (by decide) k) ?_
  show Wlk p.tables e below (T2.setTop (mkF m 28 #[rv fS] [])) K
  refine Wlk.of (fun _ k => XS.iconst X2.here hx rfl (hb hby d18_28) k) ?_
  show Wlk p.tables e below (T2.setTop (mkF m 29 #[rv fS] [(.int (1 : Int32))])) K
  refine Wlk.of (fun _ k => XS.goto X2.here hx rfl (pc0 := 29) (pc' := 33) rfl (hb hby d18_29) (by decide) (by decide) k) ?_
  show Wlk p.tables e below (T2.setTop (mkF m 33 #[rv fS] [(.int (1 : Int32))])) K
  refine hK (some (.int (1 : Int32))) X2 (fun q => by cases q) (fun fs hr => retN X2 hx (t := .boolean) hret (by simp) (hb hby d18_33) hr) ?_ (by decide) (by decide)
  rw [show T2.heap = h0 from e2]
  exact ⟨rfl, N0, rfl⟩
theorem d1_17 : decode method_3_code 17 = .ok (.iload_n 0, 1) := by decide +kernel
theorem d1_18 : decode method_3_code 18 = .ok (.iconst 2, 1) := by decide +kernel
theorem d1_19 : decode method_3_code 19 = .ok (.if_icmp .ne 7, 3) := by decide +kernel
theorem d1_22 : decode method_3_code 22 = .ok (.getstatic 59, 3) := by decide +kernel
theorem d1_25 : decode method_3_code 25 = .ok (.areturn, 1) := by decide +kernel
theorem ef_c_pick2 (m : MethodId)  : entryFrame m #[(.int (2 : Int32))] 1 = mkF m 0 #[iv (2 : Int32)] [] := by first | (simp [entryFrame, mkF, argsToLocals, Value.category]; done) | rfl
def Q_c_pick2 (Z : State) (fM : Addr) (h0 : Heap) (n0 : Nat) (v : Option Value) (h : Heap) (L : List Loc) : Prop := v = (some (.ref fM)) ∧ Fr n0 L ∧ h = h0
set_option maxRecDepth 65536 in
set_option maxHeartbeats 40000000 in
theorem c_pick2 (l : Launch) (Z : State) (a0 : Array Value) (hw : ∀ d ∈ tables_1, d.before a0 Z = true) (fM : Addr) (h0 : Heap) (n0 : Nat) (Z0 : n0 ≤ h0.size) (S_MIN : Sta Z h0 "com/example/gapweave/gapweave/AggregateFunction" "MIN" "Lcom/example/gapweave/gapweave/AggregateFunction;" (.ref fM)) :
    Ctr l Z h0 (⟨"com/example/gapweave/gapweave/AggregateFunctionReadsValuesPinLaw", "pick", "(I)Lcom/example/gapweave/gapweave/AggregateFunction;"⟩ : MethodName) method_3_code 1 (some (.object "com/example/gapweave/gapweave/AggregateFunction")) [] ({ frames := 0, cells := 0, slots := 0, locals := 0 } : Room) #[(.int (2 : Int32))] (Q_c_pick2 Z fM h0 n0) := by
  refine Ctr.make (plainFor_of_name pn_250) fun p e s m below meth c s₁ K hret hml hx hby hown hnm hnamed hH hZ X0 e0 hK => ?_
  have hown : s.vm.findClass "com/example/gapweave/gapweave/AggregateFunctionReadsValuesPinLaw" = some m.cls := hown
  have N0 := Fr.nil n0
  have K0 : Keep h0 h0 [] := Keep.refl _ _
  refine Wlk.of (fun _ k => castTop (ef_c_pick2 m ) k) ?_
  show Wlk p.tables e below (s₁.setTop (mkF m 0 #[iv (2 : Int32)] [])) K
  refine Wlk.of (fun _ k => XS.iloadN X0.here hx rfl (hb hby d1_0) rfl k) ?_
  show Wlk p.tables e below (s₁.setTop (mkF m 1 #[iv (2 : Int32)] [(.int (2 : Int32))])) K
  refine Wlk.of (fun _ k => XS.ifYes X0.here hx rfl (pc0 := 1) (pc' := 8) rfl (hb hby d1_1) rfl ((if0 _ _).trans (feq (by decide : ¬ ((2 : Int32) = (0 : Int32)))).2) (by decide) (by decide) k) ?_
  show Wlk p.tables e below (s₁.setTop (mkF m 8 #[iv (2 : Int32)] [])) K
  refine Wlk.of (fun _ k => XS.iloadN X0.here hx rfl (hb hby d1_8) rfl k) ?_
  show Wlk p.tables e below (s₁.setTop (mkF m 9 #[iv (2 : Int32)] [(.int (2 : Int32))])) K
  refine Wlk.of (fun _ k => XS.iconst X0.here hx rfl (hb hby d1_9) k) ?_
  show Wlk p.tables e below (s₁.setTop (mkF m 10 #[iv (2 : Int32)] [(.int (1 : Int32)), (.int (2 : Int32))])) K
  refine Wlk.of (fun _ k => XS.icmpYes X0.here hx rfl (pc0 := 10) (pc' := 17) rfl (hb hby d1_10) rfl (feq (by decide : ¬ ((2 : Int32) = (1 : Int32)))).2 (by decide) (by decide) k) ?_
  show Wlk p.tables e below (s₁.setTop (mkF m 17 #[iv (2 : Int32)] [])) K
  refine Wlk.of (fun _ k => XS.iloadN X0.here hx rfl (hb hby d1_17) rfl k) ?_
  show Wlk p.tables e below (s₁.setTop (mkF m 18 #[iv (2 : Int32)] [(.int (2 : Int32))])) K
  refine Wlk.of (fun _ k => XS.iconst X0.here hx rfl (hb hby d1_18) k) ?_
  show Wlk p.tables e below (s₁.setTop (mkF m 19 #[iv (2 : Int32)] [(.int (2 : Int32)), (.int (2 : Int32))])) K
  refine Wlk.of (fun _ k => XS.icmpNo X0.here hx rfl (hb hby d1_19) rfl (teq (by decide : (2 : Int32) = (2 : Int32))).2 k) ?_
  show Wlk p.tables e below (s₁.setTop (mkF m 22 #[iv (2 : Int32)] [])) K
  obtain ⟨T1, X1, e1, st1⟩ := getS2 X0 hx hZ hown (host := "") (Or.inl (wd hw 254 rfl)) Via.refl e0 S_MIN (g := (mkF m 22 #[iv (2 : Int32)] [])) rfl (hb hby d1_22)
  refine Wlk.of (fun _ k => st1 _ k) ?_
  show Wlk p.tables e below (T1.setTop (mkF m 25 #[iv (2 : Int32)] [(.ref fM)])) K
  refine hK (some (.ref fM)) X1 (fun q => by cases q) (fun fs hr => retOut X1 hx hret rfl (Or.inr (Or.inr (Or.inr (Or.inr ⟨rfl, rfl, rfl⟩)))) (hb hby d1_25) hr) ?_ (by decide) (by decide)
  rw [show T1.heap = h0 from e1]
  exact ⟨rfl, N0, rfl⟩
theorem pd_348 : parseMethodDescriptor "(Lcom/example/gapweave/gapweave/ColumnType;)Ljava/util/Comparator;" = some ⟨[(.object "com/example/gapweave/gapweave/ColumnType")], some (.object "java/util/Comparator")⟩ := by decide +kernel
theorem pd_349 : parseMethodDescriptor "(Ljava/util/Comparator;I)V" = some ⟨[(.object "java/util/Comparator"), .int], none⟩ := by decide +kernel
theorem d3_112 : decode prog_1_method_8_code 112 = .ok (.new 156, 3) := by decide +kernel
theorem d3_115 : decode prog_1_method_8_code 115 = .ok (.dup, 1) := by decide +kernel
theorem d3_116 : decode prog_1_method_8_code 116 = .ok (.aload_n 1, 1) := by decide +kernel
theorem d3_117 : decode prog_1_method_8_code 117 = .ok (.invokestatic 158, 3) := by decide +kernel
theorem d3_120 : decode prog_1_method_8_code 120 = .ok (.iconst (-1), 1) := by decide +kernel
theorem d3_121 : decode prog_1_method_8_code 121 = .ok (.invokespecial 162, 3) := by decide +kernel
theorem d3_124 : decode prog_1_method_8_code 124 = .ok (.goto 45, 3) := by decide +kernel
theorem ef_c_start2 (m : MethodId) (fM : Addr) (i64 : Addr) : entryFrame m #[(.ref fM), (.ref i64)] 2 = mkF m 0 #[rv fM, rv i64] [] := by first | (simp [entryFrame, mkF, argsToLocals, Value.category]; done) | rfl
def Q_c_start2 (Z : State) (fM : Addr) (i64 : Addr) (sm : Addr) (la : Addr) (vsS : (List Value)) (h0 : Heap) (n0 : Nat) (v : Option Value) (h : Heap) (L : List Loc) : Prop := ∃ b : Addr, v = (some (.ref b)) ∧ Fr n0 L ∧ Keep h0 h [] ∧ h0.size ≤ b ∧ Exa Z h b "com/example/gapweave/gapweave/AggregateFunction$Extreme" ∧ Fld Z h b "com/example/gapweave/gapweave/AggregateFunction$Extreme" "order" "Ljava/util/Comparator;" (.ref la) ∧ Fld Z h b "com/example/gapweave/gapweave/AggregateFunction$Extreme" "sign" "I" (.int (-1 : Int32)) ∧ Fld Z h b "com/example/gapweave/gapweave/AggregateFunction$Extreme" "cell" "Ljava/lang/Object;" .null ∧ Fld Z h b "com/example/gapweave/gapweave/AggregateFunction$Extreme" "value" "Ljava/lang/Object;" .null
set_option maxRecDepth 65536 in
set_option maxHeartbeats 40000000 in
theorem c_start2 (l : Launch) (Z : State) (a0 : Array Value) (hw : ∀ d ∈ tables_1, d.before a0 Z = true) (fM : Addr) (i64 : Addr) (sm : Addr) (la : Addr) (vsS : (List Value)) (h0 : Heap) (n0 : Nat) (Z0 : n0 ≤ h0.size) (E_fM : Exa Z h0 fM "com/example/gapweave/gapweave/AggregateFunction") (F_fM_ordinal : Fld Z h0 fM "java/lang/Enum" "ordinal" "I" (.int (2 : Int32))) (S__SwitchMap_com_example_gapweave_gapweave_ColumnType : Sta Z h0 "com/example/gapweave/gapweave/AggregateFunction$1" "$SwitchMap$com$example$gapweave$gapweave$ColumnType" "[I" (.ref sm)) (A_sm : Arl Z h0 sm .int vsS) (hS2 : vsS[2]? = some (.int (2 : Int32))) (E_i64 : Exa Z h0 i64 "com/example/gapweave/gapweave/ColumnType") (F_i64_ordinal : Fld Z h0 i64 "java/lang/Enum" "ordinal" "I" (.int (2 : Int32))) (hsite : Site Z (⟨"com/example/gapweave/gapweave/AggregateFunction", "order", "(Lcom/example/gapweave/gapweave/ColumnType;)Ljava/util/Comparator;"⟩ : MethodName) 48 la) :
    Ctr l Z h0 (⟨"com/example/gapweave/gapweave/AggregateFunction", "start", "(Lcom/example/gapweave/gapweave/ColumnType;)Lcom/example/gapweave/gapweave/AggregateFunction$Accumulator;"⟩ : MethodName) prog_1_method_8_code 2 (some (.object "com/example/gapweave/gapweave/AggregateFunction$Accumulator")) [] ({ frames := 2, cells := 1, slots := 4, locals := 3086 } : Room) #[(.ref fM), (.ref i64)] (Q_c_start2 Z fM i64 sm la vsS h0 n0) := by
  refine Ctr.make (plainFor_of_name pn_90) fun p e s m below meth c s₁ K hret hml hx hby hown hnm hnamed hH hZ X0 e0 hK => ?_
  have hown : s.vm.findClass "com/example/gapweave/gapweave/AggregateFunction" = some m.cls := hown
  have N0 := Fr.nil n0
  have K0 : Keep h0 h0 [] := Keep.refl _ _
  refine Wlk.of (fun _ k => castTop (ef_c_start2 m fM i64) k) ?_
  show Wlk p.tables e below (s₁.setTop (mkF m 0 #[rv fM, rv i64] [])) K
  refine Wlk.of (fun _ k => XS.aloadN X0.here hx rfl (hb hby d3_0) rfl rfl k) ?_
  show Wlk p.tables e below (s₁.setTop (mkF m 1 #[rv fM, rv i64] [(.ref fM)])) K
  obtain ⟨v1, T1, L1, X1, q1, st1⟩ := Ctr.virtualUp (y := (⟨"com/example/gapweave/gapweave/AggregateFunction", "ordinal", "()I"⟩ : MethodName)) (owner := "java/lang/Enum") (c_ord l Z a0 hw fM (2 : Int32) h0 n0 (Nat.le_trans Z0 K0.1) F_fM_ordinal) X0 hx hH e0 hown (wd hw 25 rfl) (wd hw 26 rfl) (wd hw 27 rfl) (by decide) (wd hw 29 rfl) (wd hw 28 rfl) (wd hw 30 rfl) (wd hw 31 rfl) E_fM pd_297 (g := (mkF m 1 #[rv fM, rv i64] [(.ref fM)])) rfl (by rw [hml]; rfl) (argsL := []) (rest := []) rfl rfl rfl (W := 0) (by show 2 * 0 + _ ≤ _; exact Nat.le_of_eq rfl) (by decide) (by decide) (hb hby d3_1) (by decide) (by decide)
  obtain ⟨rfl, N1q, hh1⟩ := q1
  have N2 := Fr.app N0 N1q
  refine Wlk.of (fun _ k => st1 _ k) ?_
  show Wlk p.tables e below (T1.setTop (mkF m 4 #[rv fM, rv i64] [(.int (2 : Int32))])) K
  refine Wlk.of (fun _ k => X1.tableswitchIn hx (g := (mkF m 4 #[rv fM, rv i64] [(.int (2 : Int32))])) rfl (k := (2 : Int32)) rfl (hb hby d3_4) (by decide) (off := 108) rfl (by show (0 : Int) ≤ ((4 : Nat) : Int) + (108); decide) _ k) ?_
  show Wlk p.tables e below (T1.setTop (mkF m 112 #[rv fM, rv i64] [])) K
  obtain ⟨T3, h3, X3, e3, E3, A3, D3, -, st3⟩ := newO X1 hx hZ hown (wd hw 129 rfl) (wd hw 130 rfl) (wd hw 131 rfl) hh1 (g := (mkF m 112 #[rv fM, rv i64] [])) rfl (hb hby d3_112) (by decide) (by decide)
  obtain ⟨b3, g3⟩ : ∃ z, z = h0.size := ⟨_, rfl⟩
  rw [← g3] at A3 D3 st3
  have ne4 : fM ≠ b3 := Nat.ne_of_lt (Nat.lt_of_lt_of_le E_fM.lt (Nat.le_of_eq g3.symm))
  have ne5 : i64 ≠ b3 := Nat.ne_of_lt (Nat.lt_of_lt_of_le E_i64.lt (Nat.le_of_eq g3.symm))
  have ne6 : sm ≠ b3 := Nat.ne_of_lt (Nat.lt_of_lt_of_le A_sm.lt (Nat.le_of_eq g3.symm))
  have sz_b3 : h0.size ≤ b3 := Nat.le_trans K0.1 (Nat.le_of_eq g3.symm)
  have g_b3 : n0 ≤ b3 := Nat.le_trans Z0 sz_b3
  have K8 : Keep h0 h3 [] := K0.ext E3
  have F_b3_order : Fld Z h3 b3 "com/example/gapweave/gapweave/AggregateFunction$Extreme" "order" "Ljava/util/Comparator;" .null := D3 (Or.inr (wd hw 150 rfl)) (ty := (.object "java/util/Comparator")) (by decide)
  have F_b3_sign : Fld Z h3 b3 "com/example/gapweave/gapweave/AggregateFunction$Extreme" "sign" "I" (.int (0 : Int32)) := D3 (Or.inr (wd hw 152 rfl)) (ty := .int) (by decide)
  have F_b3_cell : Fld Z h3 b3 "com/example/gapweave/gapweave/AggregateFunction$Extreme" "cell" "Ljava/lang/Object;" .null := D3 (Or.inl (wd hw 160 rfl)) (ty := (.object "java/lang/Object")) (by decide)
  have F_b3_value : Fld Z h3 b3 "com/example/gapweave/gapweave/AggregateFunction$Extreme" "value" "Ljava/lang/Object;" .null := D3 (Or.inl (wd hw 162 rfl)) (ty := (.object "java/lang/Object")) (by decide)
  refine Wlk.of (fun _ k => st3 _ k) ?_
  show Wlk p.tables e below (T3.setTop (mkF m 115 #[rv fM, rv i64] [(.ref b3)])) K
  refine Wlk.of (fun _ k => XS.dup X3.here hx rfl (hb hby d3_115) rfl rfl k) ?_
  show Wlk p.tables e below (T3.setTop (mkF m 116 #[rv fM, rv i64] [(.ref b3), (.ref b3)])) K
  refine Wlk.of (fun _ k => XS.aloadN X3.here hx rfl (hb hby d3_116) rfl rfl k) ?_
  show Wlk p.tables e below (T3.setTop (mkF m 117 #[rv fM, rv i64] [(.ref i64), (.ref b3), (.ref b3)])) K
  have f9 : Sta Z h3 "com/example/gapweave/gapweave/AggregateFunction$1" "$SwitchMap$com$example$gapweave$gapweave$ColumnType" "[I" (.ref sm) := (S__SwitchMap_com_example_gapweave_gapweave_ColumnType.ext E3)
  have f10 : Arl Z h3 sm .int vsS := (A_sm.ext E3)
  have f11 : Exa Z h3 i64 "com/example/gapweave/gapweave/ColumnType" := (E_i64.ext E3)
  have f12 : Fld Z h3 i64 "java/lang/Enum" "ordinal" "I" (.int (2 : Int32)) := (F_i64_ordinal.ext E3)
  obtain ⟨v13, T13, L13, X13, q13, st13⟩ := Ctr.static (c_order l Z a0 hw i64 sm la vsS h3 n0 (Nat.le_trans Z0 K8.1) f9 f10 hS2 f11 f12 hsite) X3 hx hH e3 hown (wd hw 132 rfl) (wd hw 133 rfl) (wd hw 6 rfl) (wd hw 134 rfl) (by decide) pd_348 (g := (mkF m 117 #[rv fM, rv i64] [(.ref i64), (.ref b3), (.ref b3)])) rfl (by rw [hml]; rfl) (argsL := [(.ref i64)]) (rest := [(.ref b3), (.ref b3)]) rfl rfl rfl (W := 2) (by show 2 * 0 + _ ≤ _; exact Nat.le_of_eq rfl) (by decide) (by decide) (hb hby d3_117) (by decide) (by decide)
  obtain ⟨rfl, N13q, hh13⟩ := q13
  have N14 := Fr.app N2 N13q
  refine Wlk.of (fun _ k => st13 _ k) ?_
  show Wlk p.tables e below (T13.setTop (mkF m 120 #[rv fM, rv i64] [(.ref la), (.ref b3), (.ref b3)])) K
  refine Wlk.of (fun _ k => XS.iconst X13.here hx rfl (hb hby d3_120) k) ?_
  show Wlk p.tables e below (T13.setTop (mkF m 121 #[rv fM, rv i64] [(.int (-1 : Int32)), (.ref la), (.ref b3), (.ref b3)])) K
  obtain ⟨v15, T15, L15, X15, q15, st15⟩ := Ctr.special (c_xim l Z a0 hw b3 la h3 n0 (Nat.le_trans Z0 K8.1) A3 F_b3_order F_b3_sign F_b3_cell F_b3_value g_b3) X13 hx hH hh13 hown rfl (wd hw 145 rfl) (wd hw 146 rfl) (wd hw 131 rfl) (wd hw 147 rfl) (by decide) pd_349 (g := (mkF m 121 #[rv fM, rv i64] [(.int (-1 : Int32)), (.ref la), (.ref b3), (.ref b3)])) rfl (by rw [hml]; rfl) (a := b3) (argsL := [(.ref la), (.int (-1 : Int32))]) (rest := [(.ref b3)]) rfl rfl rfl (W := 1) (by show 2 * 0 + _ ≤ _; exact Nat.le_of_eq rfl) (by decide) (by decide) (hb hby d3_121) (by decide) (by decide)
  obtain ⟨rfl, N15q, K15q, p15_0, p15_1, p15_2, p15_3⟩ := q15
  have N16 := Fr.app N14 N15q
  refine Wlk.of (fun _ k => st15 _ k) ?_
  have K17 : Keep h0 T15.heap [] := K8.trans K15q (allS (Or.inr sz_b3) all0)
  show Wlk p.tables e below (T15.setTop (mkF m 124 #[rv fM, rv i64] [(.ref b3)])) K
  refine Wlk.of (fun _ k => XS.goto X15.here hx rfl (pc0 := 124) (pc' := 169) rfl (hb hby d3_124) (by decide) (by decide) k) ?_
  show Wlk p.tables e below (T15.setTop (mkF m 169 #[rv fM, rv i64] [(.ref b3)])) K
  have f18 : Exa Z T15.heap b3 "com/example/gapweave/gapweave/AggregateFunction$Extreme" := (A3.keep K15q)
  refine hK (some (.ref b3)) X15 (fun q => by cases q) (fun fs hr => retOut X15 hx hret rfl (Or.inr (Or.inr (Or.inr (Or.inr ⟨rfl, rfl, rfl⟩)))) (hb hby d3_169) hr) ?_ (by decide) (by decide)
  skip
  exact ⟨b3, rfl, N16, K17, sz_b3, f18, p15_0, p15_1, p15_2, p15_3⟩
theorem d18_14 : decode prog_1_method_7_code 14 = .ok (.aload_n 0, 1) := by decide +kernel
theorem d18_15 : decode prog_1_method_7_code 15 = .ok (.getstatic 10, 3) := by decide +kernel
theorem d18_18 : decode prog_1_method_7_code 18 = .ok (.if_acmp .eq 10, 3) := by decide +kernel
theorem ef_c_rv2 (m : MethodId) (fM : Addr) : entryFrame m #[(.ref fM)] 1 = mkF m 0 #[rv fM] [] := by first | (simp [entryFrame, mkF, argsToLocals, Value.category]; done) | rfl
def Q_c_rv2 (Z : State) (fM : Addr) (fA : Addr) (fS : Addr) (h0 : Heap) (n0 : Nat) (v : Option Value) (h : Heap) (L : List Loc) : Prop := v = (some (.int (1 : Int32))) ∧ Fr n0 L ∧ h = h0
set_option maxRecDepth 65536 in
set_option maxHeartbeats 40000000 in
theorem c_rv2 (l : Launch) (Z : State) (a0 : Array Value) (hw : ∀ d ∈ tables_1, d.before a0 Z = true) (fM : Addr) (fA : Addr) (fS : Addr) (h0 : Heap) (n0 : Nat) (Z0 : n0 ≤ h0.size) (S_AVG : Sta Z h0 "com/example/gapweave/gapweave/AggregateFunction" "AVG" "Lcom/example/gapweave/gapweave/AggregateFunction;" (.ref fA)) (S_SUM : Sta Z h0 "com/example/gapweave/gapweave/AggregateFunction" "SUM" "Lcom/example/gapweave/gapweave/AggregateFunction;" (.ref fS)) (S_MIN : Sta Z h0 "com/example/gapweave/gapweave/AggregateFunction" "MIN" "Lcom/example/gapweave/gapweave/AggregateFunction;" (.ref fM)) (ne_fM_fA : fM ≠ fA) (ne_fM_fS : fM ≠ fS) :
    Ctr l Z h0 (⟨"com/example/gapweave/gapweave/AggregateFunction", "readsValues", "()Z"⟩ : MethodName) prog_1_method_7_code 1 (some .boolean) [] ({ frames := 0, cells := 0, slots := 0, locals := 0 } : Room) #[(.ref fM)] (Q_c_rv2 Z fM fA fS h0 n0) := by
  refine Ctr.make (plainFor_of_name pn_90) fun p e s m below meth c s₁ K hret hml hx hby hown hnm hnamed hH hZ X0 e0 hK => ?_
  have hown : s.vm.findClass "com/example/gapweave/gapweave/AggregateFunction" = some m.cls := hown
  have N0 := Fr.nil n0
  have K0 : Keep h0 h0 [] := Keep.refl _ _
  refine Wlk.of (fun _ k => castTop (ef_c_rv2 m fM) k) ?_
  show Wlk p.tables e below (s₁.setTop (mkF m 0 #[rv fM] [])) K
  refine Wlk.of (fun _ k => XS.aloadN X0.here hx rfl (hb hby d18_0) rfl rfl k) ?_
  show Wlk p.tables e below (s₁.setTop (mkF m 1 #[rv fM] [(.ref fM)])) K
  obtain ⟨T1, X1, e1, st1⟩ := getS2 X0 hx hZ hown (host := "") (Or.inl (wd hw 126 rfl)) Via.refl e0 S_AVG (g := (mkF m 1 #[rv fM] [(.ref fM)])) rfl (hb hby d18_1)
  refine Wlk.of (fun _ k => st1 _ k) ?_
  show Wlk p.tables e below (T1.setTop (mkF m 4 #[rv fM] [(.ref fA), (.ref fM)])) K
  refine Wlk.of (fun _ k => acmp X1 hx rfl (cd := .eq) (x := (.ref fM)) (y := (.ref fA)) rfl rfl (pc0 := 4) (pc' := 7) (same := false) rfl (hb hby d18_4) rfl (decide_eq_false (fun q => ne_fM_fA (Value.ref.inj q))) (by decide) (by decide) k) ?_
  show Wlk p.tables e below (T1.setTop (mkF m 7 #[rv fM] [])) K
  refine Wlk.of (fun _ k => XS.aloadN X1.here hx rfl (hb hby d18_7) rfl rfl k) ?_
  show Wlk p.tables e below (T1.setTop (mkF m 8 #[rv fM] [(.ref fM)])) K
  obtain ⟨T2, X2, e2, st2⟩ := getS2 X1 hx hZ hown (host := "") (Or.inl (wd hw 182 rfl)) Via.refl e1 S_SUM (g := (mkF m 8 #[rv fM] [(.ref fM)])) rfl (hb hby d18_8)
  refine Wlk.of (fun _ k => st2 _ k) ?_
  show Wlk p.tables e below (T2.setTop (mkF m 11 #[rv fM] [(.ref fS), (.ref fM)])) K
  refine Wlk.of (fun _ k => acmp X2 hx rfl (cd := .eq) (x := (.ref fM)) (y := (.ref fS)) rfl rfl (pc0 := 11) (pc' := 14) (same := false) rfl (hb hby d18_11) rfl (decide_eq_false (fun q => ne_fM_fS (Value.ref.inj q))) (by decide) (by decide) k) ?_
  show Wlk p.tables e below (T2.setTop (mkF m 14 #[rv fM] [])) K
  refine Wlk.of (fun _ k => XS.aloadN X2.here hx rfl (hb hby d18_14) rfl rfl k) ?_
  show Wlk p.tables e below (T2.setTop (mkF m 15 #[rv fM] [(.ref fM)])) K
  obtain ⟨T3, X3, e3, st3⟩ := getS2 X2 hx hZ hown (host := "") (Or.inl (wd hw 184 rfl)) Via.refl e2 S_MIN (g := (mkF m 15 #[rv fM] [(.ref fM)])) rfl (hb hby d18_15)
  refine Wlk.of (fun _ k => st3 _ k) ?_
  show Wlk p.tables e below (T3.setTop (mkF m 18 #[rv fM] [(.ref fM), (.ref fM)])) K
  refine Wlk.of (fun _ k => acmp X3 hx rfl (cd := .eq) (x := (.ref fM)) (y := (.ref fM)) rfl rfl (pc0 := 18) (pc' := 28) (same := true) rfl (hb hby d18_18) rfl (decide_eq_true rfl) (by decide) (by decide) k) ?_
  show Wlk p.tables e below (T3.setTop (mkF m 28 #[rv fM] [])) K
  refine Wlk.of (fun _ k => XS.iconst X3.here hx rfl (hb hby d18_28) k) ?_
  show Wlk p.tables e below (T3.setTop (mkF m 29 #[rv fM] [(.int (1 : Int32))])) K
  refine Wlk.of (fun _ k => XS.goto X3.here hx rfl (pc0 := 29) (pc' := 33) rfl (hb hby d18_29) (by decide) (by decide) k) ?_
  show Wlk p.tables e below (T3.setTop (mkF m 33 #[rv fM] [(.int (1 : Int32))])) K
  refine hK (some (.int (1 : Int32))) X3 (fun q => by cases q) (fun fs hr => retN X3 hx (t := .boolean) hret (by simp) (hb hby d18_33) hr) ?_ (by decide) (by decide)
  rw [show T3.heap = h0 from e3]
  exact ⟨rfl, N0, rfl⟩
theorem d1_26 : decode method_3_code 26 = .ok (.iload_n 0, 1) := by decide +kernel
theorem d1_27 : decode method_3_code 27 = .ok (.iconst 3, 1) := by decide +kernel
theorem d1_28 : decode method_3_code 28 = .ok (.if_icmp .ne 7, 3) := by decide +kernel
theorem d1_31 : decode method_3_code 31 = .ok (.getstatic 62, 3) := by decide +kernel
theorem d1_34 : decode method_3_code 34 = .ok (.areturn, 1) := by decide +kernel
theorem ef_c_pick3 (m : MethodId)  : entryFrame m #[(.int (3 : Int32))] 1 = mkF m 0 #[iv (3 : Int32)] [] := by first | (simp [entryFrame, mkF, argsToLocals, Value.category]; done) | rfl
def Q_c_pick3 (Z : State) (fX : Addr) (h0 : Heap) (n0 : Nat) (v : Option Value) (h : Heap) (L : List Loc) : Prop := v = (some (.ref fX)) ∧ Fr n0 L ∧ h = h0
set_option maxRecDepth 65536 in
set_option maxHeartbeats 40000000 in
theorem c_pick3 (l : Launch) (Z : State) (a0 : Array Value) (hw : ∀ d ∈ tables_1, d.before a0 Z = true) (fX : Addr) (h0 : Heap) (n0 : Nat) (Z0 : n0 ≤ h0.size) (S_MAX : Sta Z h0 "com/example/gapweave/gapweave/AggregateFunction" "MAX" "Lcom/example/gapweave/gapweave/AggregateFunction;" (.ref fX)) :
    Ctr l Z h0 (⟨"com/example/gapweave/gapweave/AggregateFunctionReadsValuesPinLaw", "pick", "(I)Lcom/example/gapweave/gapweave/AggregateFunction;"⟩ : MethodName) method_3_code 1 (some (.object "com/example/gapweave/gapweave/AggregateFunction")) [] ({ frames := 0, cells := 0, slots := 0, locals := 0 } : Room) #[(.int (3 : Int32))] (Q_c_pick3 Z fX h0 n0) := by
  refine Ctr.make (plainFor_of_name pn_250) fun p e s m below meth c s₁ K hret hml hx hby hown hnm hnamed hH hZ X0 e0 hK => ?_
  have hown : s.vm.findClass "com/example/gapweave/gapweave/AggregateFunctionReadsValuesPinLaw" = some m.cls := hown
  have N0 := Fr.nil n0
  have K0 : Keep h0 h0 [] := Keep.refl _ _
  refine Wlk.of (fun _ k => castTop (ef_c_pick3 m ) k) ?_
  show Wlk p.tables e below (s₁.setTop (mkF m 0 #[iv (3 : Int32)] [])) K
  refine Wlk.of (fun _ k => XS.iloadN X0.here hx rfl (hb hby d1_0) rfl k) ?_
  show Wlk p.tables e below (s₁.setTop (mkF m 1 #[iv (3 : Int32)] [(.int (3 : Int32))])) K
  refine Wlk.of (fun _ k => XS.ifYes X0.here hx rfl (pc0 := 1) (pc' := 8) rfl (hb hby d1_1) rfl ((if0 _ _).trans (feq (by decide : ¬ ((3 : Int32) = (0 : Int32)))).2) (by decide) (by decide) k) ?_
  show Wlk p.tables e below (s₁.setTop (mkF m 8 #[iv (3 : Int32)] [])) K
  refine Wlk.of (fun _ k => XS.iloadN X0.here hx rfl (hb hby d1_8) rfl k) ?_
  show Wlk p.tables e below (s₁.setTop (mkF m 9 #[iv (3 : Int32)] [(.int (3 : Int32))])) K
  refine Wlk.of (fun _ k => XS.iconst X0.here hx rfl (hb hby d1_9) k) ?_
  show Wlk p.tables e below (s₁.setTop (mkF m 10 #[iv (3 : Int32)] [(.int (1 : Int32)), (.int (3 : Int32))])) K
  refine Wlk.of (fun _ k => XS.icmpYes X0.here hx rfl (pc0 := 10) (pc' := 17) rfl (hb hby d1_10) rfl (feq (by decide : ¬ ((3 : Int32) = (1 : Int32)))).2 (by decide) (by decide) k) ?_
  show Wlk p.tables e below (s₁.setTop (mkF m 17 #[iv (3 : Int32)] [])) K
  refine Wlk.of (fun _ k => XS.iloadN X0.here hx rfl (hb hby d1_17) rfl k) ?_
  show Wlk p.tables e below (s₁.setTop (mkF m 18 #[iv (3 : Int32)] [(.int (3 : Int32))])) K
  refine Wlk.of (fun _ k => XS.iconst X0.here hx rfl (hb hby d1_18) k) ?_
  show Wlk p.tables e below (s₁.setTop (mkF m 19 #[iv (3 : Int32)] [(.int (2 : Int32)), (.int (3 : Int32))])) K
  refine Wlk.of (fun _ k => XS.icmpYes X0.here hx rfl (pc0 := 19) (pc' := 26) rfl (hb hby d1_19) rfl (feq (by decide : ¬ ((3 : Int32) = (2 : Int32)))).2 (by decide) (by decide) k) ?_
  show Wlk p.tables e below (s₁.setTop (mkF m 26 #[iv (3 : Int32)] [])) K
  refine Wlk.of (fun _ k => XS.iloadN X0.here hx rfl (hb hby d1_26) rfl k) ?_
  show Wlk p.tables e below (s₁.setTop (mkF m 27 #[iv (3 : Int32)] [(.int (3 : Int32))])) K
  refine Wlk.of (fun _ k => XS.iconst X0.here hx rfl (hb hby d1_27) k) ?_
  show Wlk p.tables e below (s₁.setTop (mkF m 28 #[iv (3 : Int32)] [(.int (3 : Int32)), (.int (3 : Int32))])) K
  refine Wlk.of (fun _ k => XS.icmpNo X0.here hx rfl (hb hby d1_28) rfl (teq (by decide : (3 : Int32) = (3 : Int32))).2 k) ?_
  show Wlk p.tables e below (s₁.setTop (mkF m 31 #[iv (3 : Int32)] [])) K
  obtain ⟨T1, X1, e1, st1⟩ := getS2 X0 hx hZ hown (host := "") (Or.inl (wd hw 127 rfl)) Via.refl e0 S_MAX (g := (mkF m 31 #[iv (3 : Int32)] [])) rfl (hb hby d1_31)
  refine Wlk.of (fun _ k => st1 _ k) ?_
  show Wlk p.tables e below (T1.setTop (mkF m 34 #[iv (3 : Int32)] [(.ref fX)])) K
  refine hK (some (.ref fX)) X1 (fun q => by cases q) (fun fs hr => retOut X1 hx hret rfl (Or.inr (Or.inr (Or.inr (Or.inr ⟨rfl, rfl, rfl⟩)))) (hb hby d1_34) hr) ?_ (by decide) (by decide)
  rw [show T1.heap = h0 from e1]
  exact ⟨rfl, N0, rfl⟩
theorem d3_127 : decode prog_1_method_8_code 127 = .ok (.new 156, 3) := by decide +kernel
theorem d3_130 : decode prog_1_method_8_code 130 = .ok (.dup, 1) := by decide +kernel
theorem d3_131 : decode prog_1_method_8_code 131 = .ok (.aload_n 1, 1) := by decide +kernel
theorem d3_132 : decode prog_1_method_8_code 132 = .ok (.invokestatic 158, 3) := by decide +kernel
theorem d3_135 : decode prog_1_method_8_code 135 = .ok (.iconst 1, 1) := by decide +kernel
theorem d3_136 : decode prog_1_method_8_code 136 = .ok (.invokespecial 162, 3) := by decide +kernel
theorem d3_139 : decode prog_1_method_8_code 139 = .ok (.goto 30, 3) := by decide +kernel
theorem ef_c_start3 (m : MethodId) (fX : Addr) (i64 : Addr) : entryFrame m #[(.ref fX), (.ref i64)] 2 = mkF m 0 #[rv fX, rv i64] [] := by first | (simp [entryFrame, mkF, argsToLocals, Value.category]; done) | rfl
def Q_c_start3 (Z : State) (fX : Addr) (i64 : Addr) (sm : Addr) (la : Addr) (vsS : (List Value)) (h0 : Heap) (n0 : Nat) (v : Option Value) (h : Heap) (L : List Loc) : Prop := ∃ b : Addr, v = (some (.ref b)) ∧ Fr n0 L ∧ Keep h0 h [] ∧ h0.size ≤ b ∧ Exa Z h b "com/example/gapweave/gapweave/AggregateFunction$Extreme" ∧ Fld Z h b "com/example/gapweave/gapweave/AggregateFunction$Extreme" "order" "Ljava/util/Comparator;" (.ref la) ∧ Fld Z h b "com/example/gapweave/gapweave/AggregateFunction$Extreme" "sign" "I" (.int (1 : Int32)) ∧ Fld Z h b "com/example/gapweave/gapweave/AggregateFunction$Extreme" "cell" "Ljava/lang/Object;" .null ∧ Fld Z h b "com/example/gapweave/gapweave/AggregateFunction$Extreme" "value" "Ljava/lang/Object;" .null
set_option maxRecDepth 65536 in
set_option maxHeartbeats 40000000 in
theorem c_start3 (l : Launch) (Z : State) (a0 : Array Value) (hw : ∀ d ∈ tables_1, d.before a0 Z = true) (fX : Addr) (i64 : Addr) (sm : Addr) (la : Addr) (vsS : (List Value)) (h0 : Heap) (n0 : Nat) (Z0 : n0 ≤ h0.size) (E_fX : Exa Z h0 fX "com/example/gapweave/gapweave/AggregateFunction") (F_fX_ordinal : Fld Z h0 fX "java/lang/Enum" "ordinal" "I" (.int (3 : Int32))) (S__SwitchMap_com_example_gapweave_gapweave_ColumnType : Sta Z h0 "com/example/gapweave/gapweave/AggregateFunction$1" "$SwitchMap$com$example$gapweave$gapweave$ColumnType" "[I" (.ref sm)) (A_sm : Arl Z h0 sm .int vsS) (hS2 : vsS[2]? = some (.int (2 : Int32))) (E_i64 : Exa Z h0 i64 "com/example/gapweave/gapweave/ColumnType") (F_i64_ordinal : Fld Z h0 i64 "java/lang/Enum" "ordinal" "I" (.int (2 : Int32))) (hsite : Site Z (⟨"com/example/gapweave/gapweave/AggregateFunction", "order", "(Lcom/example/gapweave/gapweave/ColumnType;)Ljava/util/Comparator;"⟩ : MethodName) 48 la) :
    Ctr l Z h0 (⟨"com/example/gapweave/gapweave/AggregateFunction", "start", "(Lcom/example/gapweave/gapweave/ColumnType;)Lcom/example/gapweave/gapweave/AggregateFunction$Accumulator;"⟩ : MethodName) prog_1_method_8_code 2 (some (.object "com/example/gapweave/gapweave/AggregateFunction$Accumulator")) [] ({ frames := 2, cells := 1, slots := 4, locals := 3086 } : Room) #[(.ref fX), (.ref i64)] (Q_c_start3 Z fX i64 sm la vsS h0 n0) := by
  refine Ctr.make (plainFor_of_name pn_90) fun p e s m below meth c s₁ K hret hml hx hby hown hnm hnamed hH hZ X0 e0 hK => ?_
  have hown : s.vm.findClass "com/example/gapweave/gapweave/AggregateFunction" = some m.cls := hown
  have N0 := Fr.nil n0
  have K0 : Keep h0 h0 [] := Keep.refl _ _
  refine Wlk.of (fun _ k => castTop (ef_c_start3 m fX i64) k) ?_
  show Wlk p.tables e below (s₁.setTop (mkF m 0 #[rv fX, rv i64] [])) K
  refine Wlk.of (fun _ k => XS.aloadN X0.here hx rfl (hb hby d3_0) rfl rfl k) ?_
  show Wlk p.tables e below (s₁.setTop (mkF m 1 #[rv fX, rv i64] [(.ref fX)])) K
  obtain ⟨v1, T1, L1, X1, q1, st1⟩ := Ctr.virtualUp (y := (⟨"com/example/gapweave/gapweave/AggregateFunction", "ordinal", "()I"⟩ : MethodName)) (owner := "java/lang/Enum") (c_ord l Z a0 hw fX (3 : Int32) h0 n0 (Nat.le_trans Z0 K0.1) F_fX_ordinal) X0 hx hH e0 hown (wd hw 25 rfl) (wd hw 26 rfl) (wd hw 27 rfl) (by decide) (wd hw 29 rfl) (wd hw 28 rfl) (wd hw 30 rfl) (wd hw 31 rfl) E_fX pd_297 (g := (mkF m 1 #[rv fX, rv i64] [(.ref fX)])) rfl (by rw [hml]; rfl) (argsL := []) (rest := []) rfl rfl rfl (W := 0) (by show 2 * 0 + _ ≤ _; exact Nat.le_of_eq rfl) (by decide) (by decide) (hb hby d3_1) (by decide) (by decide)
  obtain ⟨rfl, N1q, hh1⟩ := q1
  have N2 := Fr.app N0 N1q
  refine Wlk.of (fun _ k => st1 _ k) ?_
  show Wlk p.tables e below (T1.setTop (mkF m 4 #[rv fX, rv i64] [(.int (3 : Int32))])) K
  refine Wlk.of (fun _ k => X1.tableswitchIn hx (g := (mkF m 4 #[rv fX, rv i64] [(.int (3 : Int32))])) rfl (k := (3 : Int32)) rfl (hb hby d3_4) (by decide) (off := 123) rfl (by show (0 : Int) ≤ ((4 : Nat) : Int) + (123); decide) _ k) ?_
  show Wlk p.tables e below (T1.setTop (mkF m 127 #[rv fX, rv i64] [])) K
  obtain ⟨T3, h3, X3, e3, E3, A3, D3, -, st3⟩ := newO X1 hx hZ hown (wd hw 129 rfl) (wd hw 130 rfl) (wd hw 131 rfl) hh1 (g := (mkF m 127 #[rv fX, rv i64] [])) rfl (hb hby d3_127) (by decide) (by decide)
  obtain ⟨b3, g3⟩ : ∃ z, z = h0.size := ⟨_, rfl⟩
  rw [← g3] at A3 D3 st3
  have ne4 : fX ≠ b3 := Nat.ne_of_lt (Nat.lt_of_lt_of_le E_fX.lt (Nat.le_of_eq g3.symm))
  have ne5 : i64 ≠ b3 := Nat.ne_of_lt (Nat.lt_of_lt_of_le E_i64.lt (Nat.le_of_eq g3.symm))
  have ne6 : sm ≠ b3 := Nat.ne_of_lt (Nat.lt_of_lt_of_le A_sm.lt (Nat.le_of_eq g3.symm))
  have sz_b3 : h0.size ≤ b3 := Nat.le_trans K0.1 (Nat.le_of_eq g3.symm)
  have g_b3 : n0 ≤ b3 := Nat.le_trans Z0 sz_b3
  have K8 : Keep h0 h3 [] := K0.ext E3
  have F_b3_order : Fld Z h3 b3 "com/example/gapweave/gapweave/AggregateFunction$Extreme" "order" "Ljava/util/Comparator;" .null := D3 (Or.inr (wd hw 150 rfl)) (ty := (.object "java/util/Comparator")) (by decide)
  have F_b3_sign : Fld Z h3 b3 "com/example/gapweave/gapweave/AggregateFunction$Extreme" "sign" "I" (.int (0 : Int32)) := D3 (Or.inr (wd hw 152 rfl)) (ty := .int) (by decide)
  have F_b3_cell : Fld Z h3 b3 "com/example/gapweave/gapweave/AggregateFunction$Extreme" "cell" "Ljava/lang/Object;" .null := D3 (Or.inl (wd hw 160 rfl)) (ty := (.object "java/lang/Object")) (by decide)
  have F_b3_value : Fld Z h3 b3 "com/example/gapweave/gapweave/AggregateFunction$Extreme" "value" "Ljava/lang/Object;" .null := D3 (Or.inl (wd hw 162 rfl)) (ty := (.object "java/lang/Object")) (by decide)
  refine Wlk.of (fun _ k => st3 _ k) ?_
  show Wlk p.tables e below (T3.setTop (mkF m 130 #[rv fX, rv i64] [(.ref b3)])) K
  refine Wlk.of (fun _ k => XS.dup X3.here hx rfl (hb hby d3_130) rfl rfl k) ?_
  show Wlk p.tables e below (T3.setTop (mkF m 131 #[rv fX, rv i64] [(.ref b3), (.ref b3)])) K
  refine Wlk.of (fun _ k => XS.aloadN X3.here hx rfl (hb hby d3_131) rfl rfl k) ?_
  show Wlk p.tables e below (T3.setTop (mkF m 132 #[rv fX, rv i64] [(.ref i64), (.ref b3), (.ref b3)])) K
  have f9 : Sta Z h3 "com/example/gapweave/gapweave/AggregateFunction$1" "$SwitchMap$com$example$gapweave$gapweave$ColumnType" "[I" (.ref sm) := (S__SwitchMap_com_example_gapweave_gapweave_ColumnType.ext E3)
  have f10 : Arl Z h3 sm .int vsS := (A_sm.ext E3)
  have f11 : Exa Z h3 i64 "com/example/gapweave/gapweave/ColumnType" := (E_i64.ext E3)
  have f12 : Fld Z h3 i64 "java/lang/Enum" "ordinal" "I" (.int (2 : Int32)) := (F_i64_ordinal.ext E3)
  obtain ⟨v13, T13, L13, X13, q13, st13⟩ := Ctr.static (c_order l Z a0 hw i64 sm la vsS h3 n0 (Nat.le_trans Z0 K8.1) f9 f10 hS2 f11 f12 hsite) X3 hx hH e3 hown (wd hw 132 rfl) (wd hw 133 rfl) (wd hw 6 rfl) (wd hw 134 rfl) (by decide) pd_348 (g := (mkF m 132 #[rv fX, rv i64] [(.ref i64), (.ref b3), (.ref b3)])) rfl (by rw [hml]; rfl) (argsL := [(.ref i64)]) (rest := [(.ref b3), (.ref b3)]) rfl rfl rfl (W := 2) (by show 2 * 0 + _ ≤ _; exact Nat.le_of_eq rfl) (by decide) (by decide) (hb hby d3_132) (by decide) (by decide)
  obtain ⟨rfl, N13q, hh13⟩ := q13
  have N14 := Fr.app N2 N13q
  refine Wlk.of (fun _ k => st13 _ k) ?_
  show Wlk p.tables e below (T13.setTop (mkF m 135 #[rv fX, rv i64] [(.ref la), (.ref b3), (.ref b3)])) K
  refine Wlk.of (fun _ k => XS.iconst X13.here hx rfl (hb hby d3_135) k) ?_
  show Wlk p.tables e below (T13.setTop (mkF m 136 #[rv fX, rv i64] [(.int (1 : Int32)), (.ref la), (.ref b3), (.ref b3)])) K
  obtain ⟨v15, T15, L15, X15, q15, st15⟩ := Ctr.special (c_xip l Z a0 hw b3 la h3 n0 (Nat.le_trans Z0 K8.1) A3 F_b3_order F_b3_sign F_b3_cell F_b3_value g_b3) X13 hx hH hh13 hown rfl (wd hw 145 rfl) (wd hw 146 rfl) (wd hw 131 rfl) (wd hw 147 rfl) (by decide) pd_349 (g := (mkF m 136 #[rv fX, rv i64] [(.int (1 : Int32)), (.ref la), (.ref b3), (.ref b3)])) rfl (by rw [hml]; rfl) (a := b3) (argsL := [(.ref la), (.int (1 : Int32))]) (rest := [(.ref b3)]) rfl rfl rfl (W := 1) (by show 2 * 0 + _ ≤ _; exact Nat.le_of_eq rfl) (by decide) (by decide) (hb hby d3_136) (by decide) (by decide)
  obtain ⟨rfl, N15q, K15q, p15_0, p15_1, p15_2, p15_3⟩ := q15
  have N16 := Fr.app N14 N15q
  refine Wlk.of (fun _ k => st15 _ k) ?_
  have K17 : Keep h0 T15.heap [] := K8.trans K15q (allS (Or.inr sz_b3) all0)
  show Wlk p.tables e below (T15.setTop (mkF m 139 #[rv fX, rv i64] [(.ref b3)])) K
  refine Wlk.of (fun _ k => XS.goto X15.here hx rfl (pc0 := 139) (pc' := 169) rfl (hb hby d3_139) (by decide) (by decide) k) ?_
  show Wlk p.tables e below (T15.setTop (mkF m 169 #[rv fX, rv i64] [(.ref b3)])) K
  have f18 : Exa Z T15.heap b3 "com/example/gapweave/gapweave/AggregateFunction$Extreme" := (A3.keep K15q)
  refine hK (some (.ref b3)) X15 (fun q => by cases q) (fun fs hr => retOut X15 hx hret rfl (Or.inr (Or.inr (Or.inr (Or.inr ⟨rfl, rfl, rfl⟩)))) (hb hby d3_169) hr) ?_ (by decide) (by decide)
  skip
  exact ⟨b3, rfl, N16, K17, sz_b3, f18, p15_0, p15_1, p15_2, p15_3⟩
theorem d18_21 : decode prog_1_method_7_code 21 = .ok (.aload_n 0, 1) := by decide +kernel
theorem d18_22 : decode prog_1_method_7_code 22 = .ok (.getstatic 13, 3) := by decide +kernel
theorem d18_25 : decode prog_1_method_7_code 25 = .ok (.if_acmp .ne 7, 3) := by decide +kernel
theorem ef_c_rv3 (m : MethodId) (fX : Addr) : entryFrame m #[(.ref fX)] 1 = mkF m 0 #[rv fX] [] := by first | (simp [entryFrame, mkF, argsToLocals, Value.category]; done) | rfl
def Q_c_rv3 (Z : State) (fX : Addr) (fA : Addr) (fS : Addr) (fM : Addr) (h0 : Heap) (n0 : Nat) (v : Option Value) (h : Heap) (L : List Loc) : Prop := v = (some (.int (1 : Int32))) ∧ Fr n0 L ∧ h = h0
set_option maxRecDepth 65536 in
set_option maxHeartbeats 40000000 in
theorem c_rv3 (l : Launch) (Z : State) (a0 : Array Value) (hw : ∀ d ∈ tables_1, d.before a0 Z = true) (fX : Addr) (fA : Addr) (fS : Addr) (fM : Addr) (h0 : Heap) (n0 : Nat) (Z0 : n0 ≤ h0.size) (S_AVG : Sta Z h0 "com/example/gapweave/gapweave/AggregateFunction" "AVG" "Lcom/example/gapweave/gapweave/AggregateFunction;" (.ref fA)) (S_SUM : Sta Z h0 "com/example/gapweave/gapweave/AggregateFunction" "SUM" "Lcom/example/gapweave/gapweave/AggregateFunction;" (.ref fS)) (S_MIN : Sta Z h0 "com/example/gapweave/gapweave/AggregateFunction" "MIN" "Lcom/example/gapweave/gapweave/AggregateFunction;" (.ref fM)) (S_MAX : Sta Z h0 "com/example/gapweave/gapweave/AggregateFunction" "MAX" "Lcom/example/gapweave/gapweave/AggregateFunction;" (.ref fX)) (ne_fX_fA : fX ≠ fA) (ne_fX_fS : fX ≠ fS) (ne_fX_fM : fX ≠ fM) :
    Ctr l Z h0 (⟨"com/example/gapweave/gapweave/AggregateFunction", "readsValues", "()Z"⟩ : MethodName) prog_1_method_7_code 1 (some .boolean) [] ({ frames := 0, cells := 0, slots := 0, locals := 0 } : Room) #[(.ref fX)] (Q_c_rv3 Z fX fA fS fM h0 n0) := by
  refine Ctr.make (plainFor_of_name pn_90) fun p e s m below meth c s₁ K hret hml hx hby hown hnm hnamed hH hZ X0 e0 hK => ?_
  have hown : s.vm.findClass "com/example/gapweave/gapweave/AggregateFunction" = some m.cls := hown
  have N0 := Fr.nil n0
  have K0 : Keep h0 h0 [] := Keep.refl _ _
  refine Wlk.of (fun _ k => castTop (ef_c_rv3 m fX) k) ?_
  show Wlk p.tables e below (s₁.setTop (mkF m 0 #[rv fX] [])) K
  refine Wlk.of (fun _ k => XS.aloadN X0.here hx rfl (hb hby d18_0) rfl rfl k) ?_
  show Wlk p.tables e below (s₁.setTop (mkF m 1 #[rv fX] [(.ref fX)])) K
  obtain ⟨T1, X1, e1, st1⟩ := getS2 X0 hx hZ hown (host := "") (Or.inl (wd hw 126 rfl)) Via.refl e0 S_AVG (g := (mkF m 1 #[rv fX] [(.ref fX)])) rfl (hb hby d18_1)
  refine Wlk.of (fun _ k => st1 _ k) ?_
  show Wlk p.tables e below (T1.setTop (mkF m 4 #[rv fX] [(.ref fA), (.ref fX)])) K
  refine Wlk.of (fun _ k => acmp X1 hx rfl (cd := .eq) (x := (.ref fX)) (y := (.ref fA)) rfl rfl (pc0 := 4) (pc' := 7) (same := false) rfl (hb hby d18_4) rfl (decide_eq_false (fun q => ne_fX_fA (Value.ref.inj q))) (by decide) (by decide) k) ?_
  show Wlk p.tables e below (T1.setTop (mkF m 7 #[rv fX] [])) K
  refine Wlk.of (fun _ k => XS.aloadN X1.here hx rfl (hb hby d18_7) rfl rfl k) ?_
  show Wlk p.tables e below (T1.setTop (mkF m 8 #[rv fX] [(.ref fX)])) K
  obtain ⟨T2, X2, e2, st2⟩ := getS2 X1 hx hZ hown (host := "") (Or.inl (wd hw 182 rfl)) Via.refl e1 S_SUM (g := (mkF m 8 #[rv fX] [(.ref fX)])) rfl (hb hby d18_8)
  refine Wlk.of (fun _ k => st2 _ k) ?_
  show Wlk p.tables e below (T2.setTop (mkF m 11 #[rv fX] [(.ref fS), (.ref fX)])) K
  refine Wlk.of (fun _ k => acmp X2 hx rfl (cd := .eq) (x := (.ref fX)) (y := (.ref fS)) rfl rfl (pc0 := 11) (pc' := 14) (same := false) rfl (hb hby d18_11) rfl (decide_eq_false (fun q => ne_fX_fS (Value.ref.inj q))) (by decide) (by decide) k) ?_
  show Wlk p.tables e below (T2.setTop (mkF m 14 #[rv fX] [])) K
  refine Wlk.of (fun _ k => XS.aloadN X2.here hx rfl (hb hby d18_14) rfl rfl k) ?_
  show Wlk p.tables e below (T2.setTop (mkF m 15 #[rv fX] [(.ref fX)])) K
  obtain ⟨T3, X3, e3, st3⟩ := getS2 X2 hx hZ hown (host := "") (Or.inl (wd hw 184 rfl)) Via.refl e2 S_MIN (g := (mkF m 15 #[rv fX] [(.ref fX)])) rfl (hb hby d18_15)
  refine Wlk.of (fun _ k => st3 _ k) ?_
  show Wlk p.tables e below (T3.setTop (mkF m 18 #[rv fX] [(.ref fM), (.ref fX)])) K
  refine Wlk.of (fun _ k => acmp X3 hx rfl (cd := .eq) (x := (.ref fX)) (y := (.ref fM)) rfl rfl (pc0 := 18) (pc' := 21) (same := false) rfl (hb hby d18_18) rfl (decide_eq_false (fun q => ne_fX_fM (Value.ref.inj q))) (by decide) (by decide) k) ?_
  show Wlk p.tables e below (T3.setTop (mkF m 21 #[rv fX] [])) K
  refine Wlk.of (fun _ k => XS.aloadN X3.here hx rfl (hb hby d18_21) rfl rfl k) ?_
  show Wlk p.tables e below (T3.setTop (mkF m 22 #[rv fX] [(.ref fX)])) K
  obtain ⟨T4, X4, e4, st4⟩ := getS2 X3 hx hZ hown (host := "") (Or.inl (wd hw 186 rfl)) Via.refl e3 S_MAX (g := (mkF m 22 #[rv fX] [(.ref fX)])) rfl (hb hby d18_22)
  refine Wlk.of (fun _ k => st4 _ k) ?_
  show Wlk p.tables e below (T4.setTop (mkF m 25 #[rv fX] [(.ref fX), (.ref fX)])) K
  refine Wlk.of (fun _ k => acmp X4 hx rfl (cd := .ne) (x := (.ref fX)) (y := (.ref fX)) rfl rfl (pc0 := 25) (pc' := 28) (same := true) rfl (hb hby d18_25) rfl (decide_eq_true rfl) (by decide) (by decide) k) ?_
  show Wlk p.tables e below (T4.setTop (mkF m 28 #[rv fX] [])) K
  refine Wlk.of (fun _ k => XS.iconst X4.here hx rfl (hb hby d18_28) k) ?_
  show Wlk p.tables e below (T4.setTop (mkF m 29 #[rv fX] [(.int (1 : Int32))])) K
  refine Wlk.of (fun _ k => XS.goto X4.here hx rfl (pc0 := 29) (pc' := 33) rfl (hb hby d18_29) (by decide) (by decide) k) ?_
  show Wlk p.tables e below (T4.setTop (mkF m 33 #[rv fX] [(.int (1 : Int32))])) K
  refine hK (some (.int (1 : Int32))) X4 (fun q => by cases q) (fun fs hr => retN X4 hx (t := .boolean) hret (by simp) (hb hby d18_33) hr) ?_ (by decide) (by decide)
  rw [show T4.heap = h0 from e4]
  exact ⟨rfl, N0, rfl⟩
theorem d1_35 : decode method_3_code 35 = .ok (.iload_n 0, 1) := by decide +kernel
theorem d1_36 : decode method_3_code 36 = .ok (.iconst 4, 1) := by decide +kernel
theorem d1_37 : decode method_3_code 37 = .ok (.if_icmp .ne 7, 3) := by decide +kernel
theorem d1_40 : decode method_3_code 40 = .ok (.getstatic 65, 3) := by decide +kernel
theorem d1_43 : decode method_3_code 43 = .ok (.areturn, 1) := by decide +kernel
theorem ef_c_pick4 (m : MethodId)  : entryFrame m #[(.int (4 : Int32))] 1 = mkF m 0 #[iv (4 : Int32)] [] := by first | (simp [entryFrame, mkF, argsToLocals, Value.category]; done) | rfl
def Q_c_pick4 (Z : State) (fC : Addr) (h0 : Heap) (n0 : Nat) (v : Option Value) (h : Heap) (L : List Loc) : Prop := v = (some (.ref fC)) ∧ Fr n0 L ∧ h = h0
set_option maxRecDepth 65536 in
set_option maxHeartbeats 40000000 in
theorem c_pick4 (l : Launch) (Z : State) (a0 : Array Value) (hw : ∀ d ∈ tables_1, d.before a0 Z = true) (fC : Addr) (h0 : Heap) (n0 : Nat) (Z0 : n0 ≤ h0.size) (S_COUNT : Sta Z h0 "com/example/gapweave/gapweave/AggregateFunction" "COUNT" "Lcom/example/gapweave/gapweave/AggregateFunction;" (.ref fC)) :
    Ctr l Z h0 (⟨"com/example/gapweave/gapweave/AggregateFunctionReadsValuesPinLaw", "pick", "(I)Lcom/example/gapweave/gapweave/AggregateFunction;"⟩ : MethodName) method_3_code 1 (some (.object "com/example/gapweave/gapweave/AggregateFunction")) [] ({ frames := 0, cells := 0, slots := 0, locals := 0 } : Room) #[(.int (4 : Int32))] (Q_c_pick4 Z fC h0 n0) := by
  refine Ctr.make (plainFor_of_name pn_250) fun p e s m below meth c s₁ K hret hml hx hby hown hnm hnamed hH hZ X0 e0 hK => ?_
  have hown : s.vm.findClass "com/example/gapweave/gapweave/AggregateFunctionReadsValuesPinLaw" = some m.cls := hown
  have N0 := Fr.nil n0
  have K0 : Keep h0 h0 [] := Keep.refl _ _
  refine Wlk.of (fun _ k => castTop (ef_c_pick4 m ) k) ?_
  show Wlk p.tables e below (s₁.setTop (mkF m 0 #[iv (4 : Int32)] [])) K
  refine Wlk.of (fun _ k => XS.iloadN X0.here hx rfl (hb hby d1_0) rfl k) ?_
  show Wlk p.tables e below (s₁.setTop (mkF m 1 #[iv (4 : Int32)] [(.int (4 : Int32))])) K
  refine Wlk.of (fun _ k => XS.ifYes X0.here hx rfl (pc0 := 1) (pc' := 8) rfl (hb hby d1_1) rfl ((if0 _ _).trans (feq (by decide : ¬ ((4 : Int32) = (0 : Int32)))).2) (by decide) (by decide) k) ?_
  show Wlk p.tables e below (s₁.setTop (mkF m 8 #[iv (4 : Int32)] [])) K
  refine Wlk.of (fun _ k => XS.iloadN X0.here hx rfl (hb hby d1_8) rfl k) ?_
  show Wlk p.tables e below (s₁.setTop (mkF m 9 #[iv (4 : Int32)] [(.int (4 : Int32))])) K
  refine Wlk.of (fun _ k => XS.iconst X0.here hx rfl (hb hby d1_9) k) ?_
  show Wlk p.tables e below (s₁.setTop (mkF m 10 #[iv (4 : Int32)] [(.int (1 : Int32)), (.int (4 : Int32))])) K
  refine Wlk.of (fun _ k => XS.icmpYes X0.here hx rfl (pc0 := 10) (pc' := 17) rfl (hb hby d1_10) rfl (feq (by decide : ¬ ((4 : Int32) = (1 : Int32)))).2 (by decide) (by decide) k) ?_
  show Wlk p.tables e below (s₁.setTop (mkF m 17 #[iv (4 : Int32)] [])) K
  refine Wlk.of (fun _ k => XS.iloadN X0.here hx rfl (hb hby d1_17) rfl k) ?_
  show Wlk p.tables e below (s₁.setTop (mkF m 18 #[iv (4 : Int32)] [(.int (4 : Int32))])) K
  refine Wlk.of (fun _ k => XS.iconst X0.here hx rfl (hb hby d1_18) k) ?_
  show Wlk p.tables e below (s₁.setTop (mkF m 19 #[iv (4 : Int32)] [(.int (2 : Int32)), (.int (4 : Int32))])) K
  refine Wlk.of (fun _ k => XS.icmpYes X0.here hx rfl (pc0 := 19) (pc' := 26) rfl (hb hby d1_19) rfl (feq (by decide : ¬ ((4 : Int32) = (2 : Int32)))).2 (by decide) (by decide) k) ?_
  show Wlk p.tables e below (s₁.setTop (mkF m 26 #[iv (4 : Int32)] [])) K
  refine Wlk.of (fun _ k => XS.iloadN X0.here hx rfl (hb hby d1_26) rfl k) ?_
  show Wlk p.tables e below (s₁.setTop (mkF m 27 #[iv (4 : Int32)] [(.int (4 : Int32))])) K
  refine Wlk.of (fun _ k => XS.iconst X0.here hx rfl (hb hby d1_27) k) ?_
  show Wlk p.tables e below (s₁.setTop (mkF m 28 #[iv (4 : Int32)] [(.int (3 : Int32)), (.int (4 : Int32))])) K
  refine Wlk.of (fun _ k => XS.icmpYes X0.here hx rfl (pc0 := 28) (pc' := 35) rfl (hb hby d1_28) rfl (feq (by decide : ¬ ((4 : Int32) = (3 : Int32)))).2 (by decide) (by decide) k) ?_
  show Wlk p.tables e below (s₁.setTop (mkF m 35 #[iv (4 : Int32)] [])) K
  refine Wlk.of (fun _ k => XS.iloadN X0.here hx rfl (hb hby d1_35) rfl k) ?_
  show Wlk p.tables e below (s₁.setTop (mkF m 36 #[iv (4 : Int32)] [(.int (4 : Int32))])) K
  refine Wlk.of (fun _ k => XS.iconst X0.here hx rfl (hb hby d1_36) k) ?_
  show Wlk p.tables e below (s₁.setTop (mkF m 37 #[iv (4 : Int32)] [(.int (4 : Int32)), (.int (4 : Int32))])) K
  refine Wlk.of (fun _ k => XS.icmpNo X0.here hx rfl (hb hby d1_37) rfl (teq (by decide : (4 : Int32) = (4 : Int32))).2 k) ?_
  show Wlk p.tables e below (s₁.setTop (mkF m 40 #[iv (4 : Int32)] [])) K
  obtain ⟨T1, X1, e1, st1⟩ := getS2 X0 hx hZ hown (host := "") (Or.inl (wd hw 231 rfl)) Via.refl e0 S_COUNT (g := (mkF m 40 #[iv (4 : Int32)] [])) rfl (hb hby d1_40)
  refine Wlk.of (fun _ k => st1 _ k) ?_
  show Wlk p.tables e below (T1.setTop (mkF m 43 #[iv (4 : Int32)] [(.ref fC)])) K
  refine hK (some (.ref fC)) X1 (fun q => by cases q) (fun fs hr => retOut X1 hx hret rfl (Or.inr (Or.inr (Or.inr (Or.inr ⟨rfl, rfl, rfl⟩)))) (hb hby d1_43) hr) ?_ (by decide) (by decide)
  rw [show T1.heap = h0 from e1]
  exact ⟨rfl, N0, rfl⟩
theorem d3_142 : decode prog_1_method_8_code 142 = .ok (.new 165, 3) := by decide +kernel
theorem d3_145 : decode prog_1_method_8_code 145 = .ok (.dup, 1) := by decide +kernel
theorem d3_146 : decode prog_1_method_8_code 146 = .ok (.invokespecial 167, 3) := by decide +kernel
theorem d3_149 : decode prog_1_method_8_code 149 = .ok (.goto 20, 3) := by decide +kernel
theorem ef_c_start4 (m : MethodId) (fC : Addr) (i64 : Addr) : entryFrame m #[(.ref fC), (.ref i64)] 2 = mkF m 0 #[rv fC, rv i64] [] := by first | (simp [entryFrame, mkF, argsToLocals, Value.category]; done) | rfl
def Q_c_start4 (Z : State) (fC : Addr) (i64 : Addr) (h0 : Heap) (n0 : Nat) (v : Option Value) (h : Heap) (L : List Loc) : Prop := ∃ b : Addr, v = (some (.ref b)) ∧ Fr n0 L ∧ Keep h0 h [] ∧ h0.size ≤ b ∧ Exa Z h b "com/example/gapweave/gapweave/AggregateFunction$Count" ∧ Fld Z h b "com/example/gapweave/gapweave/AggregateFunction$Count" "count" "J" (.long (0 : Int64))
set_option maxRecDepth 65536 in
set_option maxHeartbeats 40000000 in
theorem c_start4 (l : Launch) (Z : State) (a0 : Array Value) (hw : ∀ d ∈ tables_1, d.before a0 Z = true) (fC : Addr) (i64 : Addr) (h0 : Heap) (n0 : Nat) (Z0 : n0 ≤ h0.size) (E_fC : Exa Z h0 fC "com/example/gapweave/gapweave/AggregateFunction") (F_fC_ordinal : Fld Z h0 fC "java/lang/Enum" "ordinal" "I" (.int (4 : Int32))) :
    Ctr l Z h0 (⟨"com/example/gapweave/gapweave/AggregateFunction", "start", "(Lcom/example/gapweave/gapweave/ColumnType;)Lcom/example/gapweave/gapweave/AggregateFunction$Accumulator;"⟩ : MethodName) prog_1_method_8_code 2 (some (.object "com/example/gapweave/gapweave/AggregateFunction$Accumulator")) [] ({ frames := 2, cells := 1, slots := 1, locals := 25 } : Room) #[(.ref fC), (.ref i64)] (Q_c_start4 Z fC i64 h0 n0) := by
  refine Ctr.make (plainFor_of_name pn_90) fun p e s m below meth c s₁ K hret hml hx hby hown hnm hnamed hH hZ X0 e0 hK => ?_
  have hown : s.vm.findClass "com/example/gapweave/gapweave/AggregateFunction" = some m.cls := hown
  have N0 := Fr.nil n0
  have K0 : Keep h0 h0 [] := Keep.refl _ _
  refine Wlk.of (fun _ k => castTop (ef_c_start4 m fC i64) k) ?_
  show Wlk p.tables e below (s₁.setTop (mkF m 0 #[rv fC, rv i64] [])) K
  refine Wlk.of (fun _ k => XS.aloadN X0.here hx rfl (hb hby d3_0) rfl rfl k) ?_
  show Wlk p.tables e below (s₁.setTop (mkF m 1 #[rv fC, rv i64] [(.ref fC)])) K
  obtain ⟨v1, T1, L1, X1, q1, st1⟩ := Ctr.virtualUp (y := (⟨"com/example/gapweave/gapweave/AggregateFunction", "ordinal", "()I"⟩ : MethodName)) (owner := "java/lang/Enum") (c_ord l Z a0 hw fC (4 : Int32) h0 n0 (Nat.le_trans Z0 K0.1) F_fC_ordinal) X0 hx hH e0 hown (wd hw 25 rfl) (wd hw 26 rfl) (wd hw 27 rfl) (by decide) (wd hw 29 rfl) (wd hw 28 rfl) (wd hw 30 rfl) (wd hw 31 rfl) E_fC pd_297 (g := (mkF m 1 #[rv fC, rv i64] [(.ref fC)])) rfl (by rw [hml]; rfl) (argsL := []) (rest := []) rfl rfl rfl (W := 0) (by show 2 * 0 + _ ≤ _; exact Nat.le_of_eq rfl) (by decide) (by decide) (hb hby d3_1) (by decide) (by decide)
  obtain ⟨rfl, N1q, hh1⟩ := q1
  have N2 := Fr.app N0 N1q
  refine Wlk.of (fun _ k => st1 _ k) ?_
  show Wlk p.tables e below (T1.setTop (mkF m 4 #[rv fC, rv i64] [(.int (4 : Int32))])) K
  refine Wlk.of (fun _ k => X1.tableswitchIn hx (g := (mkF m 4 #[rv fC, rv i64] [(.int (4 : Int32))])) rfl (k := (4 : Int32)) rfl (hb hby d3_4) (by decide) (off := 138) rfl (by show (0 : Int) ≤ ((4 : Nat) : Int) + (138); decide) _ k) ?_
  show Wlk p.tables e below (T1.setTop (mkF m 142 #[rv fC, rv i64] [])) K
  obtain ⟨T3, h3, X3, e3, E3, A3, D3, -, st3⟩ := newO X1 hx hZ hown (wd hw 233 rfl) (wd hw 234 rfl) (wd hw 235 rfl) hh1 (g := (mkF m 142 #[rv fC, rv i64] [])) rfl (hb hby d3_142) (by decide) (by decide)
  obtain ⟨b3, g3⟩ : ∃ z, z = h0.size := ⟨_, rfl⟩
  rw [← g3] at A3 D3 st3
  have ne4 : fC ≠ b3 := Nat.ne_of_lt (Nat.lt_of_lt_of_le E_fC.lt (Nat.le_of_eq g3.symm))
  have sz_b3 : h0.size ≤ b3 := Nat.le_trans K0.1 (Nat.le_of_eq g3.symm)
  have g_b3 : n0 ≤ b3 := Nat.le_trans Z0 sz_b3
  have K6 : Keep h0 h3 [] := K0.ext E3
  have F_b3_count : Fld Z h3 b3 "com/example/gapweave/gapweave/AggregateFunction$Count" "count" "J" (.long (0 : Int64)) := D3 (Or.inl (wd hw 247 rfl)) (ty := .long) (by decide)
  refine Wlk.of (fun _ k => st3 _ k) ?_
  show Wlk p.tables e below (T3.setTop (mkF m 145 #[rv fC, rv i64] [(.ref b3)])) K
  refine Wlk.of (fun _ k => XS.dup X3.here hx rfl (hb hby d3_145) rfl rfl k) ?_
  show Wlk p.tables e below (T3.setTop (mkF m 146 #[rv fC, rv i64] [(.ref b3), (.ref b3)])) K
  obtain ⟨v7, T7, L7, X7, q7, st7⟩ := Ctr.specialRef (c_iCount l Z a0 hw b3 h3 n0 (Nat.le_trans Z0 K6.1) ) X3 hx hH e3 hown rfl (wd hw 236 rfl) (wd hw 237 rfl) (wd hw 235 rfl) (wd hw 238 rfl) (by decide) pd_67 (g := (mkF m 146 #[rv fC, rv i64] [(.ref b3), (.ref b3)])) rfl (by rw [hml]; rfl) (a := b3) (argsL := []) (rest := [(.ref b3)]) rfl rfl rfl (W := 1) (by show 2 * 0 + _ ≤ _; exact Nat.le_of_eq rfl) (by decide) (by decide) (hb hby d3_146) (by decide) (by decide)
  obtain ⟨rfl, N7q, hh7⟩ := q7
  have N8 := Fr.app N2 N7q
  refine Wlk.of (fun _ k => st7 _ k) ?_
  show Wlk p.tables e below (T7.setTop (mkF m 149 #[rv fC, rv i64] [(.ref b3)])) K
  refine Wlk.of (fun _ k => XS.goto X7.here hx rfl (pc0 := 149) (pc' := 169) rfl (hb hby d3_149) (by decide) (by decide) k) ?_
  show Wlk p.tables e below (T7.setTop (mkF m 169 #[rv fC, rv i64] [(.ref b3)])) K
  refine hK (some (.ref b3)) X7 (fun q => by cases q) (fun fs hr => retOut X7 hx hret rfl (Or.inr (Or.inr (Or.inr (Or.inr ⟨rfl, rfl, rfl⟩)))) (hb hby d3_169) hr) ?_ (by decide) (by decide)
  rw [show T7.heap = h3 from hh7]
  exact ⟨b3, rfl, N8, K6, sz_b3, A3, F_b3_count⟩
theorem d18_32 : decode prog_1_method_7_code 32 = .ok (.iconst 0, 1) := by decide +kernel
theorem ef_c_rv4 (m : MethodId) (fC : Addr) : entryFrame m #[(.ref fC)] 1 = mkF m 0 #[rv fC] [] := by first | (simp [entryFrame, mkF, argsToLocals, Value.category]; done) | rfl
def Q_c_rv4 (Z : State) (fC : Addr) (fA : Addr) (fS : Addr) (fM : Addr) (fX : Addr) (h0 : Heap) (n0 : Nat) (v : Option Value) (h : Heap) (L : List Loc) : Prop := v = (some (.int (0 : Int32))) ∧ Fr n0 L ∧ h = h0
set_option maxRecDepth 65536 in
set_option maxHeartbeats 40000000 in
theorem c_rv4 (l : Launch) (Z : State) (a0 : Array Value) (hw : ∀ d ∈ tables_1, d.before a0 Z = true) (fC : Addr) (fA : Addr) (fS : Addr) (fM : Addr) (fX : Addr) (h0 : Heap) (n0 : Nat) (Z0 : n0 ≤ h0.size) (S_AVG : Sta Z h0 "com/example/gapweave/gapweave/AggregateFunction" "AVG" "Lcom/example/gapweave/gapweave/AggregateFunction;" (.ref fA)) (S_SUM : Sta Z h0 "com/example/gapweave/gapweave/AggregateFunction" "SUM" "Lcom/example/gapweave/gapweave/AggregateFunction;" (.ref fS)) (S_MIN : Sta Z h0 "com/example/gapweave/gapweave/AggregateFunction" "MIN" "Lcom/example/gapweave/gapweave/AggregateFunction;" (.ref fM)) (S_MAX : Sta Z h0 "com/example/gapweave/gapweave/AggregateFunction" "MAX" "Lcom/example/gapweave/gapweave/AggregateFunction;" (.ref fX)) (ne_fC_fA : fC ≠ fA) (ne_fC_fS : fC ≠ fS) (ne_fC_fM : fC ≠ fM) (ne_fC_fX : fC ≠ fX) :
    Ctr l Z h0 (⟨"com/example/gapweave/gapweave/AggregateFunction", "readsValues", "()Z"⟩ : MethodName) prog_1_method_7_code 1 (some .boolean) [] ({ frames := 0, cells := 0, slots := 0, locals := 0 } : Room) #[(.ref fC)] (Q_c_rv4 Z fC fA fS fM fX h0 n0) := by
  refine Ctr.make (plainFor_of_name pn_90) fun p e s m below meth c s₁ K hret hml hx hby hown hnm hnamed hH hZ X0 e0 hK => ?_
  have hown : s.vm.findClass "com/example/gapweave/gapweave/AggregateFunction" = some m.cls := hown
  have N0 := Fr.nil n0
  have K0 : Keep h0 h0 [] := Keep.refl _ _
  refine Wlk.of (fun _ k => castTop (ef_c_rv4 m fC) k) ?_
  show Wlk p.tables e below (s₁.setTop (mkF m 0 #[rv fC] [])) K
  refine Wlk.of (fun _ k => XS.aloadN X0.here hx rfl (hb hby d18_0) rfl rfl k) ?_
  show Wlk p.tables e below (s₁.setTop (mkF m 1 #[rv fC] [(.ref fC)])) K
  obtain ⟨T1, X1, e1, st1⟩ := getS2 X0 hx hZ hown (host := "") (Or.inl (wd hw 126 rfl)) Via.refl e0 S_AVG (g := (mkF m 1 #[rv fC] [(.ref fC)])) rfl (hb hby d18_1)
  refine Wlk.of (fun _ k => st1 _ k) ?_
  show Wlk p.tables e below (T1.setTop (mkF m 4 #[rv fC] [(.ref fA), (.ref fC)])) K
  refine Wlk.of (fun _ k => acmp X1 hx rfl (cd := .eq) (x := (.ref fC)) (y := (.ref fA)) rfl rfl (pc0 := 4) (pc' := 7) (same := false) rfl (hb hby d18_4) rfl (decide_eq_false (fun q => ne_fC_fA (Value.ref.inj q))) (by decide) (by decide) k) ?_
  show Wlk p.tables e below (T1.setTop (mkF m 7 #[rv fC] [])) K
  refine Wlk.of (fun _ k => XS.aloadN X1.here hx rfl (hb hby d18_7) rfl rfl k) ?_
  show Wlk p.tables e below (T1.setTop (mkF m 8 #[rv fC] [(.ref fC)])) K
  obtain ⟨T2, X2, e2, st2⟩ := getS2 X1 hx hZ hown (host := "") (Or.inl (wd hw 182 rfl)) Via.refl e1 S_SUM (g := (mkF m 8 #[rv fC] [(.ref fC)])) rfl (hb hby d18_8)
  refine Wlk.of (fun _ k => st2 _ k) ?_
  show Wlk p.tables e below (T2.setTop (mkF m 11 #[rv fC] [(.ref fS), (.ref fC)])) K
  refine Wlk.of (fun _ k => acmp X2 hx rfl (cd := .eq) (x := (.ref fC)) (y := (.ref fS)) rfl rfl (pc0 := 11) (pc' := 14) (same := false) rfl (hb hby d18_11) rfl (decide_eq_false (fun q => ne_fC_fS (Value.ref.inj q))) (by decide) (by decide) k) ?_
  show Wlk p.tables e below (T2.setTop (mkF m 14 #[rv fC] [])) K
  refine Wlk.of (fun _ k => XS.aloadN X2.here hx rfl (hb hby d18_14) rfl rfl k) ?_
  show Wlk p.tables e below (T2.setTop (mkF m 15 #[rv fC] [(.ref fC)])) K
  obtain ⟨T3, X3, e3, st3⟩ := getS2 X2 hx hZ hown (host := "") (Or.inl (wd hw 184 rfl)) Via.refl e2 S_MIN (g := (mkF m 15 #[rv fC] [(.ref fC)])) rfl (hb hby d18_15)
  refine Wlk.of (fun _ k => st3 _ k) ?_
  show Wlk p.tables e below (T3.setTop (mkF m 18 #[rv fC] [(.ref fM), (.ref fC)])) K
  refine Wlk.of (fun _ k => acmp X3 hx rfl (cd := .eq) (x := (.ref fC)) (y := (.ref fM)) rfl rfl (pc0 := 18) (pc' := 21) (same := false) rfl (hb hby d18_18) rfl (decide_eq_false (fun q => ne_fC_fM (Value.ref.inj q))) (by decide) (by decide) k) ?_
  show Wlk p.tables e below (T3.setTop (mkF m 21 #[rv fC] [])) K
  refine Wlk.of (fun _ k => XS.aloadN X3.here hx rfl (hb hby d18_21) rfl rfl k) ?_
  show Wlk p.tables e below (T3.setTop (mkF m 22 #[rv fC] [(.ref fC)])) K
  obtain ⟨T4, X4, e4, st4⟩ := getS2 X3 hx hZ hown (host := "") (Or.inl (wd hw 186 rfl)) Via.refl e3 S_MAX (g := (mkF m 22 #[rv fC] [(.ref fC)])) rfl (hb hby d18_22)
  refine Wlk.of (fun _ k => st4 _ k) ?_
  show Wlk p.tables e below (T4.setTop (mkF m 25 #[rv fC] [(.ref fX), (.ref fC)])) K
  refine Wlk.of (fun _ k => acmp X4 hx rfl (cd := .ne) (x := (.ref fC)) (y := (.ref fX)) rfl rfl (pc0 := 25) (pc' := 32) (same := false) rfl (hb hby d18_25) rfl (decide_eq_false (fun q => ne_fC_fX (Value.ref.inj q))) (by decide) (by decide) k) ?_
  show Wlk p.tables e below (T4.setTop (mkF m 32 #[rv fC] [])) K
  refine Wlk.of (fun _ k => XS.iconst X4.here hx rfl (hb hby d18_32) k) ?_
  show Wlk p.tables e below (T4.setTop (mkF m 33 #[rv fC] [(.int (0 : Int32))])) K
  refine hK (some (.int (0 : Int32))) X4 (fun q => by cases q) (fun fs hr => retN X4 hx (t := .boolean) hret (by simp) (hb hby d18_33) hr) ?_ (by decide) (by decide)
  rw [show T4.heap = h0 from e4]
  exact ⟨rfl, N0, rfl⟩
theorem d1_44 : decode method_3_code 44 = .ok (.iload_n 0, 1) := by decide +kernel
theorem d1_45 : decode method_3_code 45 = .ok (.iconst 5, 1) := by decide +kernel
theorem d1_46 : decode method_3_code 46 = .ok (.if_icmp .ne 7, 3) := by decide +kernel
theorem d1_49 : decode method_3_code 49 = .ok (.getstatic 68, 3) := by decide +kernel
theorem d1_52 : decode method_3_code 52 = .ok (.areturn, 1) := by decide +kernel
theorem ef_c_pick5 (m : MethodId)  : entryFrame m #[(.int (5 : Int32))] 1 = mkF m 0 #[iv (5 : Int32)] [] := by first | (simp [entryFrame, mkF, argsToLocals, Value.category]; done) | rfl
def Q_c_pick5 (Z : State) (fF : Addr) (h0 : Heap) (n0 : Nat) (v : Option Value) (h : Heap) (L : List Loc) : Prop := v = (some (.ref fF)) ∧ Fr n0 L ∧ h = h0
set_option maxRecDepth 65536 in
set_option maxHeartbeats 40000000 in
theorem c_pick5 (l : Launch) (Z : State) (a0 : Array Value) (hw : ∀ d ∈ tables_1, d.before a0 Z = true) (fF : Addr) (h0 : Heap) (n0 : Nat) (Z0 : n0 ≤ h0.size) (S_FIRST_VALUE : Sta Z h0 "com/example/gapweave/gapweave/AggregateFunction" "FIRST_VALUE" "Lcom/example/gapweave/gapweave/AggregateFunction;" (.ref fF)) :
    Ctr l Z h0 (⟨"com/example/gapweave/gapweave/AggregateFunctionReadsValuesPinLaw", "pick", "(I)Lcom/example/gapweave/gapweave/AggregateFunction;"⟩ : MethodName) method_3_code 1 (some (.object "com/example/gapweave/gapweave/AggregateFunction")) [] ({ frames := 0, cells := 0, slots := 0, locals := 0 } : Room) #[(.int (5 : Int32))] (Q_c_pick5 Z fF h0 n0) := by
  refine Ctr.make (plainFor_of_name pn_250) fun p e s m below meth c s₁ K hret hml hx hby hown hnm hnamed hH hZ X0 e0 hK => ?_
  have hown : s.vm.findClass "com/example/gapweave/gapweave/AggregateFunctionReadsValuesPinLaw" = some m.cls := hown
  have N0 := Fr.nil n0
  have K0 : Keep h0 h0 [] := Keep.refl _ _
  refine Wlk.of (fun _ k => castTop (ef_c_pick5 m ) k) ?_
  show Wlk p.tables e below (s₁.setTop (mkF m 0 #[iv (5 : Int32)] [])) K
  refine Wlk.of (fun _ k => XS.iloadN X0.here hx rfl (hb hby d1_0) rfl k) ?_
  show Wlk p.tables e below (s₁.setTop (mkF m 1 #[iv (5 : Int32)] [(.int (5 : Int32))])) K
  refine Wlk.of (fun _ k => XS.ifYes X0.here hx rfl (pc0 := 1) (pc' := 8) rfl (hb hby d1_1) rfl ((if0 _ _).trans (feq (by decide : ¬ ((5 : Int32) = (0 : Int32)))).2) (by decide) (by decide) k) ?_
  show Wlk p.tables e below (s₁.setTop (mkF m 8 #[iv (5 : Int32)] [])) K
  refine Wlk.of (fun _ k => XS.iloadN X0.here hx rfl (hb hby d1_8) rfl k) ?_
  show Wlk p.tables e below (s₁.setTop (mkF m 9 #[iv (5 : Int32)] [(.int (5 : Int32))])) K
  refine Wlk.of (fun _ k => XS.iconst X0.here hx rfl (hb hby d1_9) k) ?_
  show Wlk p.tables e below (s₁.setTop (mkF m 10 #[iv (5 : Int32)] [(.int (1 : Int32)), (.int (5 : Int32))])) K
  refine Wlk.of (fun _ k => XS.icmpYes X0.here hx rfl (pc0 := 10) (pc' := 17) rfl (hb hby d1_10) rfl (feq (by decide : ¬ ((5 : Int32) = (1 : Int32)))).2 (by decide) (by decide) k) ?_
  show Wlk p.tables e below (s₁.setTop (mkF m 17 #[iv (5 : Int32)] [])) K
  refine Wlk.of (fun _ k => XS.iloadN X0.here hx rfl (hb hby d1_17) rfl k) ?_
  show Wlk p.tables e below (s₁.setTop (mkF m 18 #[iv (5 : Int32)] [(.int (5 : Int32))])) K
  refine Wlk.of (fun _ k => XS.iconst X0.here hx rfl (hb hby d1_18) k) ?_
  show Wlk p.tables e below (s₁.setTop (mkF m 19 #[iv (5 : Int32)] [(.int (2 : Int32)), (.int (5 : Int32))])) K
  refine Wlk.of (fun _ k => XS.icmpYes X0.here hx rfl (pc0 := 19) (pc' := 26) rfl (hb hby d1_19) rfl (feq (by decide : ¬ ((5 : Int32) = (2 : Int32)))).2 (by decide) (by decide) k) ?_
  show Wlk p.tables e below (s₁.setTop (mkF m 26 #[iv (5 : Int32)] [])) K
  refine Wlk.of (fun _ k => XS.iloadN X0.here hx rfl (hb hby d1_26) rfl k) ?_
  show Wlk p.tables e below (s₁.setTop (mkF m 27 #[iv (5 : Int32)] [(.int (5 : Int32))])) K
  refine Wlk.of (fun _ k => XS.iconst X0.here hx rfl (hb hby d1_27) k) ?_
  show Wlk p.tables e below (s₁.setTop (mkF m 28 #[iv (5 : Int32)] [(.int (3 : Int32)), (.int (5 : Int32))])) K
  refine Wlk.of (fun _ k => XS.icmpYes X0.here hx rfl (pc0 := 28) (pc' := 35) rfl (hb hby d1_28) rfl (feq (by decide : ¬ ((5 : Int32) = (3 : Int32)))).2 (by decide) (by decide) k) ?_
  show Wlk p.tables e below (s₁.setTop (mkF m 35 #[iv (5 : Int32)] [])) K
  refine Wlk.of (fun _ k => XS.iloadN X0.here hx rfl (hb hby d1_35) rfl k) ?_
  show Wlk p.tables e below (s₁.setTop (mkF m 36 #[iv (5 : Int32)] [(.int (5 : Int32))])) K
  refine Wlk.of (fun _ k => XS.iconst X0.here hx rfl (hb hby d1_36) k) ?_
  show Wlk p.tables e below (s₁.setTop (mkF m 37 #[iv (5 : Int32)] [(.int (4 : Int32)), (.int (5 : Int32))])) K
  refine Wlk.of (fun _ k => XS.icmpYes X0.here hx rfl (pc0 := 37) (pc' := 44) rfl (hb hby d1_37) rfl (feq (by decide : ¬ ((5 : Int32) = (4 : Int32)))).2 (by decide) (by decide) k) ?_
  show Wlk p.tables e below (s₁.setTop (mkF m 44 #[iv (5 : Int32)] [])) K
  refine Wlk.of (fun _ k => XS.iloadN X0.here hx rfl (hb hby d1_44) rfl k) ?_
  show Wlk p.tables e below (s₁.setTop (mkF m 45 #[iv (5 : Int32)] [(.int (5 : Int32))])) K
  refine Wlk.of (fun _ k => XS.iconst X0.here hx rfl (hb hby d1_45) k) ?_
  show Wlk p.tables e below (s₁.setTop (mkF m 46 #[iv (5 : Int32)] [(.int (5 : Int32)), (.int (5 : Int32))])) K
  refine Wlk.of (fun _ k => XS.icmpNo X0.here hx rfl (hb hby d1_46) rfl (teq (by decide : (5 : Int32) = (5 : Int32))).2 k) ?_
  show Wlk p.tables e below (s₁.setTop (mkF m 49 #[iv (5 : Int32)] [])) K
  obtain ⟨T1, X1, e1, st1⟩ := getS2 X0 hx hZ hown (host := "") (Or.inl (wd hw 187 rfl)) Via.refl e0 S_FIRST_VALUE (g := (mkF m 49 #[iv (5 : Int32)] [])) rfl (hb hby d1_49)
  refine Wlk.of (fun _ k => st1 _ k) ?_
  show Wlk p.tables e below (T1.setTop (mkF m 52 #[iv (5 : Int32)] [(.ref fF)])) K
  refine hK (some (.ref fF)) X1 (fun q => by cases q) (fun fs hr => retOut X1 hx hret rfl (Or.inr (Or.inr (Or.inr (Or.inr ⟨rfl, rfl, rfl⟩)))) (hb hby d1_52) hr) ?_ (by decide) (by decide)
  rw [show T1.heap = h0 from e1]
  exact ⟨rfl, N0, rfl⟩
theorem d3_152 : decode prog_1_method_8_code 152 = .ok (.new 168, 3) := by decide +kernel
theorem d3_155 : decode prog_1_method_8_code 155 = .ok (.dup, 1) := by decide +kernel
theorem d3_156 : decode prog_1_method_8_code 156 = .ok (.invokespecial 170, 3) := by decide +kernel
theorem d3_159 : decode prog_1_method_8_code 159 = .ok (.goto 10, 3) := by decide +kernel
theorem ef_c_start5 (m : MethodId) (fF : Addr) (i64 : Addr) : entryFrame m #[(.ref fF), (.ref i64)] 2 = mkF m 0 #[rv fF, rv i64] [] := by first | (simp [entryFrame, mkF, argsToLocals, Value.category]; done) | rfl
def Q_c_start5 (Z : State) (fF : Addr) (i64 : Addr) (h0 : Heap) (n0 : Nat) (v : Option Value) (h : Heap) (L : List Loc) : Prop := ∃ b : Addr, v = (some (.ref b)) ∧ Fr n0 L ∧ Keep h0 h [] ∧ h0.size ≤ b ∧ Exa Z h b "com/example/gapweave/gapweave/AggregateFunction$First" ∧ Fld Z h b "com/example/gapweave/gapweave/AggregateFunction$First" "first" "Ljava/lang/Object;" .null
set_option maxRecDepth 65536 in
set_option maxHeartbeats 40000000 in
theorem c_start5 (l : Launch) (Z : State) (a0 : Array Value) (hw : ∀ d ∈ tables_1, d.before a0 Z = true) (fF : Addr) (i64 : Addr) (h0 : Heap) (n0 : Nat) (Z0 : n0 ≤ h0.size) (E_fF : Exa Z h0 fF "com/example/gapweave/gapweave/AggregateFunction") (F_fF_ordinal : Fld Z h0 fF "java/lang/Enum" "ordinal" "I" (.int (5 : Int32))) :
    Ctr l Z h0 (⟨"com/example/gapweave/gapweave/AggregateFunction", "start", "(Lcom/example/gapweave/gapweave/ColumnType;)Lcom/example/gapweave/gapweave/AggregateFunction$Accumulator;"⟩ : MethodName) prog_1_method_8_code 2 (some (.object "com/example/gapweave/gapweave/AggregateFunction$Accumulator")) [] ({ frames := 2, cells := 1, slots := 1, locals := 25 } : Room) #[(.ref fF), (.ref i64)] (Q_c_start5 Z fF i64 h0 n0) := by
  refine Ctr.make (plainFor_of_name pn_90) fun p e s m below meth c s₁ K hret hml hx hby hown hnm hnamed hH hZ X0 e0 hK => ?_
  have hown : s.vm.findClass "com/example/gapweave/gapweave/AggregateFunction" = some m.cls := hown
  have N0 := Fr.nil n0
  have K0 : Keep h0 h0 [] := Keep.refl _ _
  refine Wlk.of (fun _ k => castTop (ef_c_start5 m fF i64) k) ?_
  show Wlk p.tables e below (s₁.setTop (mkF m 0 #[rv fF, rv i64] [])) K
  refine Wlk.of (fun _ k => XS.aloadN X0.here hx rfl (hb hby d3_0) rfl rfl k) ?_
  show Wlk p.tables e below (s₁.setTop (mkF m 1 #[rv fF, rv i64] [(.ref fF)])) K
  obtain ⟨v1, T1, L1, X1, q1, st1⟩ := Ctr.virtualUp (y := (⟨"com/example/gapweave/gapweave/AggregateFunction", "ordinal", "()I"⟩ : MethodName)) (owner := "java/lang/Enum") (c_ord l Z a0 hw fF (5 : Int32) h0 n0 (Nat.le_trans Z0 K0.1) F_fF_ordinal) X0 hx hH e0 hown (wd hw 25 rfl) (wd hw 26 rfl) (wd hw 27 rfl) (by decide) (wd hw 29 rfl) (wd hw 28 rfl) (wd hw 30 rfl) (wd hw 31 rfl) E_fF pd_297 (g := (mkF m 1 #[rv fF, rv i64] [(.ref fF)])) rfl (by rw [hml]; rfl) (argsL := []) (rest := []) rfl rfl rfl (W := 0) (by show 2 * 0 + _ ≤ _; exact Nat.le_of_eq rfl) (by decide) (by decide) (hb hby d3_1) (by decide) (by decide)
  obtain ⟨rfl, N1q, hh1⟩ := q1
  have N2 := Fr.app N0 N1q
  refine Wlk.of (fun _ k => st1 _ k) ?_
  show Wlk p.tables e below (T1.setTop (mkF m 4 #[rv fF, rv i64] [(.int (5 : Int32))])) K
  refine Wlk.of (fun _ k => X1.tableswitchIn hx (g := (mkF m 4 #[rv fF, rv i64] [(.int (5 : Int32))])) rfl (k := (5 : Int32)) rfl (hb hby d3_4) (by decide) (off := 148) rfl (by show (0 : Int) ≤ ((4 : Nat) : Int) + (148); decide) _ k) ?_
  show Wlk p.tables e below (T1.setTop (mkF m 152 #[rv fF, rv i64] [])) K
  obtain ⟨T3, h3, X3, e3, E3, A3, D3, -, st3⟩ := newO X1 hx hZ hown (wd hw 189 rfl) (wd hw 190 rfl) (wd hw 191 rfl) hh1 (g := (mkF m 152 #[rv fF, rv i64] [])) rfl (hb hby d3_152) (by decide) (by decide)
  obtain ⟨b3, g3⟩ : ∃ z, z = h0.size := ⟨_, rfl⟩
  rw [← g3] at A3 D3 st3
  have ne4 : fF ≠ b3 := Nat.ne_of_lt (Nat.lt_of_lt_of_le E_fF.lt (Nat.le_of_eq g3.symm))
  have sz_b3 : h0.size ≤ b3 := Nat.le_trans K0.1 (Nat.le_of_eq g3.symm)
  have g_b3 : n0 ≤ b3 := Nat.le_trans Z0 sz_b3
  have K6 : Keep h0 h3 [] := K0.ext E3
  have F_b3_first : Fld Z h3 b3 "com/example/gapweave/gapweave/AggregateFunction$First" "first" "Ljava/lang/Object;" .null := D3 (Or.inl (wd hw 203 rfl)) (ty := (.object "java/lang/Object")) (by decide)
  refine Wlk.of (fun _ k => st3 _ k) ?_
  show Wlk p.tables e below (T3.setTop (mkF m 155 #[rv fF, rv i64] [(.ref b3)])) K
  refine Wlk.of (fun _ k => XS.dup X3.here hx rfl (hb hby d3_155) rfl rfl k) ?_
  show Wlk p.tables e below (T3.setTop (mkF m 156 #[rv fF, rv i64] [(.ref b3), (.ref b3)])) K
  obtain ⟨v7, T7, L7, X7, q7, st7⟩ := Ctr.specialRef (c_iFirst l Z a0 hw b3 h3 n0 (Nat.le_trans Z0 K6.1) ) X3 hx hH e3 hown rfl (wd hw 192 rfl) (wd hw 193 rfl) (wd hw 191 rfl) (wd hw 194 rfl) (by decide) pd_67 (g := (mkF m 156 #[rv fF, rv i64] [(.ref b3), (.ref b3)])) rfl (by rw [hml]; rfl) (a := b3) (argsL := []) (rest := [(.ref b3)]) rfl rfl rfl (W := 1) (by show 2 * 0 + _ ≤ _; exact Nat.le_of_eq rfl) (by decide) (by decide) (hb hby d3_156) (by decide) (by decide)
  obtain ⟨rfl, N7q, hh7⟩ := q7
  have N8 := Fr.app N2 N7q
  refine Wlk.of (fun _ k => st7 _ k) ?_
  show Wlk p.tables e below (T7.setTop (mkF m 159 #[rv fF, rv i64] [(.ref b3)])) K
  refine Wlk.of (fun _ k => XS.goto X7.here hx rfl (pc0 := 159) (pc' := 169) rfl (hb hby d3_159) (by decide) (by decide) k) ?_
  show Wlk p.tables e below (T7.setTop (mkF m 169 #[rv fF, rv i64] [(.ref b3)])) K
  refine hK (some (.ref b3)) X7 (fun q => by cases q) (fun fs hr => retOut X7 hx hret rfl (Or.inr (Or.inr (Or.inr (Or.inr ⟨rfl, rfl, rfl⟩)))) (hb hby d3_169) hr) ?_ (by decide) (by decide)
  rw [show T7.heap = h3 from hh7]
  exact ⟨b3, rfl, N8, K6, sz_b3, A3, F_b3_first⟩
theorem ef_c_rv5 (m : MethodId) (fF : Addr) : entryFrame m #[(.ref fF)] 1 = mkF m 0 #[rv fF] [] := by first | (simp [entryFrame, mkF, argsToLocals, Value.category]; done) | rfl
def Q_c_rv5 (Z : State) (fF : Addr) (fA : Addr) (fS : Addr) (fM : Addr) (fX : Addr) (h0 : Heap) (n0 : Nat) (v : Option Value) (h : Heap) (L : List Loc) : Prop := v = (some (.int (0 : Int32))) ∧ Fr n0 L ∧ h = h0
set_option maxRecDepth 65536 in
set_option maxHeartbeats 40000000 in
theorem c_rv5 (l : Launch) (Z : State) (a0 : Array Value) (hw : ∀ d ∈ tables_1, d.before a0 Z = true) (fF : Addr) (fA : Addr) (fS : Addr) (fM : Addr) (fX : Addr) (h0 : Heap) (n0 : Nat) (Z0 : n0 ≤ h0.size) (S_AVG : Sta Z h0 "com/example/gapweave/gapweave/AggregateFunction" "AVG" "Lcom/example/gapweave/gapweave/AggregateFunction;" (.ref fA)) (S_SUM : Sta Z h0 "com/example/gapweave/gapweave/AggregateFunction" "SUM" "Lcom/example/gapweave/gapweave/AggregateFunction;" (.ref fS)) (S_MIN : Sta Z h0 "com/example/gapweave/gapweave/AggregateFunction" "MIN" "Lcom/example/gapweave/gapweave/AggregateFunction;" (.ref fM)) (S_MAX : Sta Z h0 "com/example/gapweave/gapweave/AggregateFunction" "MAX" "Lcom/example/gapweave/gapweave/AggregateFunction;" (.ref fX)) (ne_fF_fA : fF ≠ fA) (ne_fF_fS : fF ≠ fS) (ne_fF_fM : fF ≠ fM) (ne_fF_fX : fF ≠ fX) :
    Ctr l Z h0 (⟨"com/example/gapweave/gapweave/AggregateFunction", "readsValues", "()Z"⟩ : MethodName) prog_1_method_7_code 1 (some .boolean) [] ({ frames := 0, cells := 0, slots := 0, locals := 0 } : Room) #[(.ref fF)] (Q_c_rv5 Z fF fA fS fM fX h0 n0) := by
  refine Ctr.make (plainFor_of_name pn_90) fun p e s m below meth c s₁ K hret hml hx hby hown hnm hnamed hH hZ X0 e0 hK => ?_
  have hown : s.vm.findClass "com/example/gapweave/gapweave/AggregateFunction" = some m.cls := hown
  have N0 := Fr.nil n0
  have K0 : Keep h0 h0 [] := Keep.refl _ _
  refine Wlk.of (fun _ k => castTop (ef_c_rv5 m fF) k) ?_
  show Wlk p.tables e below (s₁.setTop (mkF m 0 #[rv fF] [])) K
  refine Wlk.of (fun _ k => XS.aloadN X0.here hx rfl (hb hby d18_0) rfl rfl k) ?_
  show Wlk p.tables e below (s₁.setTop (mkF m 1 #[rv fF] [(.ref fF)])) K
  obtain ⟨T1, X1, e1, st1⟩ := getS2 X0 hx hZ hown (host := "") (Or.inl (wd hw 126 rfl)) Via.refl e0 S_AVG (g := (mkF m 1 #[rv fF] [(.ref fF)])) rfl (hb hby d18_1)
  refine Wlk.of (fun _ k => st1 _ k) ?_
  show Wlk p.tables e below (T1.setTop (mkF m 4 #[rv fF] [(.ref fA), (.ref fF)])) K
  refine Wlk.of (fun _ k => acmp X1 hx rfl (cd := .eq) (x := (.ref fF)) (y := (.ref fA)) rfl rfl (pc0 := 4) (pc' := 7) (same := false) rfl (hb hby d18_4) rfl (decide_eq_false (fun q => ne_fF_fA (Value.ref.inj q))) (by decide) (by decide) k) ?_
  show Wlk p.tables e below (T1.setTop (mkF m 7 #[rv fF] [])) K
  refine Wlk.of (fun _ k => XS.aloadN X1.here hx rfl (hb hby d18_7) rfl rfl k) ?_
  show Wlk p.tables e below (T1.setTop (mkF m 8 #[rv fF] [(.ref fF)])) K
  obtain ⟨T2, X2, e2, st2⟩ := getS2 X1 hx hZ hown (host := "") (Or.inl (wd hw 182 rfl)) Via.refl e1 S_SUM (g := (mkF m 8 #[rv fF] [(.ref fF)])) rfl (hb hby d18_8)
  refine Wlk.of (fun _ k => st2 _ k) ?_
  show Wlk p.tables e below (T2.setTop (mkF m 11 #[rv fF] [(.ref fS), (.ref fF)])) K
  refine Wlk.of (fun _ k => acmp X2 hx rfl (cd := .eq) (x := (.ref fF)) (y := (.ref fS)) rfl rfl (pc0 := 11) (pc' := 14) (same := false) rfl (hb hby d18_11) rfl (decide_eq_false (fun q => ne_fF_fS (Value.ref.inj q))) (by decide) (by decide) k) ?_
  show Wlk p.tables e below (T2.setTop (mkF m 14 #[rv fF] [])) K
  refine Wlk.of (fun _ k => XS.aloadN X2.here hx rfl (hb hby d18_14) rfl rfl k) ?_
  show Wlk p.tables e below (T2.setTop (mkF m 15 #[rv fF] [(.ref fF)])) K
  obtain ⟨T3, X3, e3, st3⟩ := getS2 X2 hx hZ hown (host := "") (Or.inl (wd hw 184 rfl)) Via.refl e2 S_MIN (g := (mkF m 15 #[rv fF] [(.ref fF)])) rfl (hb hby d18_15)
  refine Wlk.of (fun _ k => st3 _ k) ?_
  show Wlk p.tables e below (T3.setTop (mkF m 18 #[rv fF] [(.ref fM), (.ref fF)])) K
  refine Wlk.of (fun _ k => acmp X3 hx rfl (cd := .eq) (x := (.ref fF)) (y := (.ref fM)) rfl rfl (pc0 := 18) (pc' := 21) (same := false) rfl (hb hby d18_18) rfl (decide_eq_false (fun q => ne_fF_fM (Value.ref.inj q))) (by decide) (by decide) k) ?_
  show Wlk p.tables e below (T3.setTop (mkF m 21 #[rv fF] [])) K
  refine Wlk.of (fun _ k => XS.aloadN X3.here hx rfl (hb hby d18_21) rfl rfl k) ?_
  show Wlk p.tables e below (T3.setTop (mkF m 22 #[rv fF] [(.ref fF)])) K
  obtain ⟨T4, X4, e4, st4⟩ := getS2 X3 hx hZ hown (host := "") (Or.inl (wd hw 186 rfl)) Via.refl e3 S_MAX (g := (mkF m 22 #[rv fF] [(.ref fF)])) rfl (hb hby d18_22)
  refine Wlk.of (fun _ k => st4 _ k) ?_
  show Wlk p.tables e below (T4.setTop (mkF m 25 #[rv fF] [(.ref fX), (.ref fF)])) K
  refine Wlk.of (fun _ k => acmp X4 hx rfl (cd := .ne) (x := (.ref fF)) (y := (.ref fX)) rfl rfl (pc0 := 25) (pc' := 32) (same := false) rfl (hb hby d18_25) rfl (decide_eq_false (fun q => ne_fF_fX (Value.ref.inj q))) (by decide) (by decide) k) ?_
  show Wlk p.tables e below (T4.setTop (mkF m 32 #[rv fF] [])) K
  refine Wlk.of (fun _ k => XS.iconst X4.here hx rfl (hb hby d18_32) k) ?_
  show Wlk p.tables e below (T4.setTop (mkF m 33 #[rv fF] [(.int (0 : Int32))])) K
  refine hK (some (.int (0 : Int32))) X4 (fun q => by cases q) (fun fs hr => retN X4 hx (t := .boolean) hret (by simp) (hb hby d18_33) hr) ?_ (by decide) (by decide)
  rw [show T4.heap = h0 from e4]
  exact ⟨rfl, N0, rfl⟩
theorem d1_53 : decode method_3_code 53 = .ok (.getstatic 71, 3) := by decide +kernel
theorem d1_56 : decode method_3_code 56 = .ok (.areturn, 1) := by decide +kernel
theorem ef_c_pick6 (m : MethodId)  : entryFrame m #[(.int (6 : Int32))] 1 = mkF m 0 #[iv (6 : Int32)] [] := by first | (simp [entryFrame, mkF, argsToLocals, Value.category]; done) | rfl
def Q_c_pick6 (Z : State) (fL : Addr) (h0 : Heap) (n0 : Nat) (v : Option Value) (h : Heap) (L : List Loc) : Prop := v = (some (.ref fL)) ∧ Fr n0 L ∧ h = h0
set_option maxRecDepth 65536 in
set_option maxHeartbeats 40000000 in
theorem c_pick6 (l : Launch) (Z : State) (a0 : Array Value) (hw : ∀ d ∈ tables_1, d.before a0 Z = true) (fL : Addr) (h0 : Heap) (n0 : Nat) (Z0 : n0 ≤ h0.size) (S_LAST_VALUE : Sta Z h0 "com/example/gapweave/gapweave/AggregateFunction" "LAST_VALUE" "Lcom/example/gapweave/gapweave/AggregateFunction;" (.ref fL)) :
    Ctr l Z h0 (⟨"com/example/gapweave/gapweave/AggregateFunctionReadsValuesPinLaw", "pick", "(I)Lcom/example/gapweave/gapweave/AggregateFunction;"⟩ : MethodName) method_3_code 1 (some (.object "com/example/gapweave/gapweave/AggregateFunction")) [] ({ frames := 0, cells := 0, slots := 0, locals := 0 } : Room) #[(.int (6 : Int32))] (Q_c_pick6 Z fL h0 n0) := by
  refine Ctr.make (plainFor_of_name pn_250) fun p e s m below meth c s₁ K hret hml hx hby hown hnm hnamed hH hZ X0 e0 hK => ?_
  have hown : s.vm.findClass "com/example/gapweave/gapweave/AggregateFunctionReadsValuesPinLaw" = some m.cls := hown
  have N0 := Fr.nil n0
  have K0 : Keep h0 h0 [] := Keep.refl _ _
  refine Wlk.of (fun _ k => castTop (ef_c_pick6 m ) k) ?_
  show Wlk p.tables e below (s₁.setTop (mkF m 0 #[iv (6 : Int32)] [])) K
  refine Wlk.of (fun _ k => XS.iloadN X0.here hx rfl (hb hby d1_0) rfl k) ?_
  show Wlk p.tables e below (s₁.setTop (mkF m 1 #[iv (6 : Int32)] [(.int (6 : Int32))])) K
  refine Wlk.of (fun _ k => XS.ifYes X0.here hx rfl (pc0 := 1) (pc' := 8) rfl (hb hby d1_1) rfl ((if0 _ _).trans (feq (by decide : ¬ ((6 : Int32) = (0 : Int32)))).2) (by decide) (by decide) k) ?_
  show Wlk p.tables e below (s₁.setTop (mkF m 8 #[iv (6 : Int32)] [])) K
  refine Wlk.of (fun _ k => XS.iloadN X0.here hx rfl (hb hby d1_8) rfl k) ?_
  show Wlk p.tables e below (s₁.setTop (mkF m 9 #[iv (6 : Int32)] [(.int (6 : Int32))])) K
  refine Wlk.of (fun _ k => XS.iconst X0.here hx rfl (hb hby d1_9) k) ?_
  show Wlk p.tables e below (s₁.setTop (mkF m 10 #[iv (6 : Int32)] [(.int (1 : Int32)), (.int (6 : Int32))])) K
  refine Wlk.of (fun _ k => XS.icmpYes X0.here hx rfl (pc0 := 10) (pc' := 17) rfl (hb hby d1_10) rfl (feq (by decide : ¬ ((6 : Int32) = (1 : Int32)))).2 (by decide) (by decide) k) ?_
  show Wlk p.tables e below (s₁.setTop (mkF m 17 #[iv (6 : Int32)] [])) K
  refine Wlk.of (fun _ k => XS.iloadN X0.here hx rfl (hb hby d1_17) rfl k) ?_
  show Wlk p.tables e below (s₁.setTop (mkF m 18 #[iv (6 : Int32)] [(.int (6 : Int32))])) K
  refine Wlk.of (fun _ k => XS.iconst X0.here hx rfl (hb hby d1_18) k) ?_
  show Wlk p.tables e below (s₁.setTop (mkF m 19 #[iv (6 : Int32)] [(.int (2 : Int32)), (.int (6 : Int32))])) K
  refine Wlk.of (fun _ k => XS.icmpYes X0.here hx rfl (pc0 := 19) (pc' := 26) rfl (hb hby d1_19) rfl (feq (by decide : ¬ ((6 : Int32) = (2 : Int32)))).2 (by decide) (by decide) k) ?_
  show Wlk p.tables e below (s₁.setTop (mkF m 26 #[iv (6 : Int32)] [])) K
  refine Wlk.of (fun _ k => XS.iloadN X0.here hx rfl (hb hby d1_26) rfl k) ?_
  show Wlk p.tables e below (s₁.setTop (mkF m 27 #[iv (6 : Int32)] [(.int (6 : Int32))])) K
  refine Wlk.of (fun _ k => XS.iconst X0.here hx rfl (hb hby d1_27) k) ?_
  show Wlk p.tables e below (s₁.setTop (mkF m 28 #[iv (6 : Int32)] [(.int (3 : Int32)), (.int (6 : Int32))])) K
  refine Wlk.of (fun _ k => XS.icmpYes X0.here hx rfl (pc0 := 28) (pc' := 35) rfl (hb hby d1_28) rfl (feq (by decide : ¬ ((6 : Int32) = (3 : Int32)))).2 (by decide) (by decide) k) ?_
  show Wlk p.tables e below (s₁.setTop (mkF m 35 #[iv (6 : Int32)] [])) K
  refine Wlk.of (fun _ k => XS.iloadN X0.here hx rfl (hb hby d1_35) rfl k) ?_
  show Wlk p.tables e below (s₁.setTop (mkF m 36 #[iv (6 : Int32)] [(.int (6 : Int32))])) K
  refine Wlk.of (fun _ k => XS.iconst X0.here hx rfl (hb hby d1_36) k) ?_
  show Wlk p.tables e below (s₁.setTop (mkF m 37 #[iv (6 : Int32)] [(.int (4 : Int32)), (.int (6 : Int32))])) K
  refine Wlk.of (fun _ k => XS.icmpYes X0.here hx rfl (pc0 := 37) (pc' := 44) rfl (hb hby d1_37) rfl (feq (by decide : ¬ ((6 : Int32) = (4 : Int32)))).2 (by decide) (by decide) k) ?_
  show Wlk p.tables e below (s₁.setTop (mkF m 44 #[iv (6 : Int32)] [])) K
  refine Wlk.of (fun _ k => XS.iloadN X0.here hx rfl (hb hby d1_44) rfl k) ?_
  show Wlk p.tables e below (s₁.setTop (mkF m 45 #[iv (6 : Int32)] [(.int (6 : Int32))])) K
  refine Wlk.of (fun _ k => XS.iconst X0.here hx rfl (hb hby d1_45) k) ?_
  show Wlk p.tables e below (s₁.setTop (mkF m 46 #[iv (6 : Int32)] [(.int (5 : Int32)), (.int (6 : Int32))])) K
  refine Wlk.of (fun _ k => XS.icmpYes X0.here hx rfl (pc0 := 46) (pc' := 53) rfl (hb hby d1_46) rfl (feq (by decide : ¬ ((6 : Int32) = (5 : Int32)))).2 (by decide) (by decide) k) ?_
  show Wlk p.tables e below (s₁.setTop (mkF m 53 #[iv (6 : Int32)] [])) K
  obtain ⟨T1, X1, e1, st1⟩ := getS2 X0 hx hZ hown (host := "") (Or.inl (wd hw 209 rfl)) Via.refl e0 S_LAST_VALUE (g := (mkF m 53 #[iv (6 : Int32)] [])) rfl (hb hby d1_53)
  refine Wlk.of (fun _ k => st1 _ k) ?_
  show Wlk p.tables e below (T1.setTop (mkF m 56 #[iv (6 : Int32)] [(.ref fL)])) K
  refine hK (some (.ref fL)) X1 (fun q => by cases q) (fun fs hr => retOut X1 hx hret rfl (Or.inr (Or.inr (Or.inr (Or.inr ⟨rfl, rfl, rfl⟩)))) (hb hby d1_56) hr) ?_ (by decide) (by decide)
  rw [show T1.heap = h0 from e1]
  exact ⟨rfl, N0, rfl⟩
theorem d3_162 : decode prog_1_method_8_code 162 = .ok (.new 171, 3) := by decide +kernel
theorem d3_165 : decode prog_1_method_8_code 165 = .ok (.dup, 1) := by decide +kernel
theorem d3_166 : decode prog_1_method_8_code 166 = .ok (.invokespecial 173, 3) := by decide +kernel
theorem ef_c_start6 (m : MethodId) (fL : Addr) (i64 : Addr) : entryFrame m #[(.ref fL), (.ref i64)] 2 = mkF m 0 #[rv fL, rv i64] [] := by first | (simp [entryFrame, mkF, argsToLocals, Value.category]; done) | rfl
def Q_c_start6 (Z : State) (fL : Addr) (i64 : Addr) (h0 : Heap) (n0 : Nat) (v : Option Value) (h : Heap) (L : List Loc) : Prop := ∃ b : Addr, v = (some (.ref b)) ∧ Fr n0 L ∧ Keep h0 h [] ∧ h0.size ≤ b ∧ Exa Z h b "com/example/gapweave/gapweave/AggregateFunction$Last" ∧ Fld Z h b "com/example/gapweave/gapweave/AggregateFunction$Last" "last" "Ljava/lang/Object;" .null
set_option maxRecDepth 65536 in
set_option maxHeartbeats 40000000 in
theorem c_start6 (l : Launch) (Z : State) (a0 : Array Value) (hw : ∀ d ∈ tables_1, d.before a0 Z = true) (fL : Addr) (i64 : Addr) (h0 : Heap) (n0 : Nat) (Z0 : n0 ≤ h0.size) (E_fL : Exa Z h0 fL "com/example/gapweave/gapweave/AggregateFunction") (F_fL_ordinal : Fld Z h0 fL "java/lang/Enum" "ordinal" "I" (.int (6 : Int32))) :
    Ctr l Z h0 (⟨"com/example/gapweave/gapweave/AggregateFunction", "start", "(Lcom/example/gapweave/gapweave/ColumnType;)Lcom/example/gapweave/gapweave/AggregateFunction$Accumulator;"⟩ : MethodName) prog_1_method_8_code 2 (some (.object "com/example/gapweave/gapweave/AggregateFunction$Accumulator")) [] ({ frames := 2, cells := 1, slots := 1, locals := 25 } : Room) #[(.ref fL), (.ref i64)] (Q_c_start6 Z fL i64 h0 n0) := by
  refine Ctr.make (plainFor_of_name pn_90) fun p e s m below meth c s₁ K hret hml hx hby hown hnm hnamed hH hZ X0 e0 hK => ?_
  have hown : s.vm.findClass "com/example/gapweave/gapweave/AggregateFunction" = some m.cls := hown
  have N0 := Fr.nil n0
  have K0 : Keep h0 h0 [] := Keep.refl _ _
  refine Wlk.of (fun _ k => castTop (ef_c_start6 m fL i64) k) ?_
  show Wlk p.tables e below (s₁.setTop (mkF m 0 #[rv fL, rv i64] [])) K
  refine Wlk.of (fun _ k => XS.aloadN X0.here hx rfl (hb hby d3_0) rfl rfl k) ?_
  show Wlk p.tables e below (s₁.setTop (mkF m 1 #[rv fL, rv i64] [(.ref fL)])) K
  obtain ⟨v1, T1, L1, X1, q1, st1⟩ := Ctr.virtualUp (y := (⟨"com/example/gapweave/gapweave/AggregateFunction", "ordinal", "()I"⟩ : MethodName)) (owner := "java/lang/Enum") (c_ord l Z a0 hw fL (6 : Int32) h0 n0 (Nat.le_trans Z0 K0.1) F_fL_ordinal) X0 hx hH e0 hown (wd hw 25 rfl) (wd hw 26 rfl) (wd hw 27 rfl) (by decide) (wd hw 29 rfl) (wd hw 28 rfl) (wd hw 30 rfl) (wd hw 31 rfl) E_fL pd_297 (g := (mkF m 1 #[rv fL, rv i64] [(.ref fL)])) rfl (by rw [hml]; rfl) (argsL := []) (rest := []) rfl rfl rfl (W := 0) (by show 2 * 0 + _ ≤ _; exact Nat.le_of_eq rfl) (by decide) (by decide) (hb hby d3_1) (by decide) (by decide)
  obtain ⟨rfl, N1q, hh1⟩ := q1
  have N2 := Fr.app N0 N1q
  refine Wlk.of (fun _ k => st1 _ k) ?_
  show Wlk p.tables e below (T1.setTop (mkF m 4 #[rv fL, rv i64] [(.int (6 : Int32))])) K
  refine Wlk.of (fun _ k => X1.tableswitchIn hx (g := (mkF m 4 #[rv fL, rv i64] [(.int (6 : Int32))])) rfl (k := (6 : Int32)) rfl (hb hby d3_4) (by decide) (off := 158) rfl (by show (0 : Int) ≤ ((4 : Nat) : Int) + (158); decide) _ k) ?_
  show Wlk p.tables e below (T1.setTop (mkF m 162 #[rv fL, rv i64] [])) K
  obtain ⟨T3, h3, X3, e3, E3, A3, D3, -, st3⟩ := newO X1 hx hZ hown (wd hw 211 rfl) (wd hw 212 rfl) (wd hw 213 rfl) hh1 (g := (mkF m 162 #[rv fL, rv i64] [])) rfl (hb hby d3_162) (by decide) (by decide)
  obtain ⟨b3, g3⟩ : ∃ z, z = h0.size := ⟨_, rfl⟩
  rw [← g3] at A3 D3 st3
  have ne4 : fL ≠ b3 := Nat.ne_of_lt (Nat.lt_of_lt_of_le E_fL.lt (Nat.le_of_eq g3.symm))
  have sz_b3 : h0.size ≤ b3 := Nat.le_trans K0.1 (Nat.le_of_eq g3.symm)
  have g_b3 : n0 ≤ b3 := Nat.le_trans Z0 sz_b3
  have K6 : Keep h0 h3 [] := K0.ext E3
  have F_b3_last : Fld Z h3 b3 "com/example/gapweave/gapweave/AggregateFunction$Last" "last" "Ljava/lang/Object;" .null := D3 (Or.inl (wd hw 225 rfl)) (ty := (.object "java/lang/Object")) (by decide)
  refine Wlk.of (fun _ k => st3 _ k) ?_
  show Wlk p.tables e below (T3.setTop (mkF m 165 #[rv fL, rv i64] [(.ref b3)])) K
  refine Wlk.of (fun _ k => XS.dup X3.here hx rfl (hb hby d3_165) rfl rfl k) ?_
  show Wlk p.tables e below (T3.setTop (mkF m 166 #[rv fL, rv i64] [(.ref b3), (.ref b3)])) K
  obtain ⟨v7, T7, L7, X7, q7, st7⟩ := Ctr.specialRef (c_iLast l Z a0 hw b3 h3 n0 (Nat.le_trans Z0 K6.1) ) X3 hx hH e3 hown rfl (wd hw 214 rfl) (wd hw 215 rfl) (wd hw 213 rfl) (wd hw 216 rfl) (by decide) pd_67 (g := (mkF m 166 #[rv fL, rv i64] [(.ref b3), (.ref b3)])) rfl (by rw [hml]; rfl) (a := b3) (argsL := []) (rest := [(.ref b3)]) rfl rfl rfl (W := 1) (by show 2 * 0 + _ ≤ _; exact Nat.le_of_eq rfl) (by decide) (by decide) (hb hby d3_166) (by decide) (by decide)
  obtain ⟨rfl, N7q, hh7⟩ := q7
  have N8 := Fr.app N2 N7q
  refine Wlk.of (fun _ k => st7 _ k) ?_
  show Wlk p.tables e below (T7.setTop (mkF m 169 #[rv fL, rv i64] [(.ref b3)])) K
  refine hK (some (.ref b3)) X7 (fun q => by cases q) (fun fs hr => retOut X7 hx hret rfl (Or.inr (Or.inr (Or.inr (Or.inr ⟨rfl, rfl, rfl⟩)))) (hb hby d3_169) hr) ?_ (by decide) (by decide)
  rw [show T7.heap = h3 from hh7]
  exact ⟨b3, rfl, N8, K6, sz_b3, A3, F_b3_last⟩
theorem ef_c_rv6 (m : MethodId) (fL : Addr) : entryFrame m #[(.ref fL)] 1 = mkF m 0 #[rv fL] [] := by first | (simp [entryFrame, mkF, argsToLocals, Value.category]; done) | rfl
def Q_c_rv6 (Z : State) (fL : Addr) (fA : Addr) (fS : Addr) (fM : Addr) (fX : Addr) (h0 : Heap) (n0 : Nat) (v : Option Value) (h : Heap) (L : List Loc) : Prop := v = (some (.int (0 : Int32))) ∧ Fr n0 L ∧ h = h0
set_option maxRecDepth 65536 in
set_option maxHeartbeats 40000000 in
theorem c_rv6 (l : Launch) (Z : State) (a0 : Array Value) (hw : ∀ d ∈ tables_1, d.before a0 Z = true) (fL : Addr) (fA : Addr) (fS : Addr) (fM : Addr) (fX : Addr) (h0 : Heap) (n0 : Nat) (Z0 : n0 ≤ h0.size) (S_AVG : Sta Z h0 "com/example/gapweave/gapweave/AggregateFunction" "AVG" "Lcom/example/gapweave/gapweave/AggregateFunction;" (.ref fA)) (S_SUM : Sta Z h0 "com/example/gapweave/gapweave/AggregateFunction" "SUM" "Lcom/example/gapweave/gapweave/AggregateFunction;" (.ref fS)) (S_MIN : Sta Z h0 "com/example/gapweave/gapweave/AggregateFunction" "MIN" "Lcom/example/gapweave/gapweave/AggregateFunction;" (.ref fM)) (S_MAX : Sta Z h0 "com/example/gapweave/gapweave/AggregateFunction" "MAX" "Lcom/example/gapweave/gapweave/AggregateFunction;" (.ref fX)) (ne_fL_fA : fL ≠ fA) (ne_fL_fS : fL ≠ fS) (ne_fL_fM : fL ≠ fM) (ne_fL_fX : fL ≠ fX) :
    Ctr l Z h0 (⟨"com/example/gapweave/gapweave/AggregateFunction", "readsValues", "()Z"⟩ : MethodName) prog_1_method_7_code 1 (some .boolean) [] ({ frames := 0, cells := 0, slots := 0, locals := 0 } : Room) #[(.ref fL)] (Q_c_rv6 Z fL fA fS fM fX h0 n0) := by
  refine Ctr.make (plainFor_of_name pn_90) fun p e s m below meth c s₁ K hret hml hx hby hown hnm hnamed hH hZ X0 e0 hK => ?_
  have hown : s.vm.findClass "com/example/gapweave/gapweave/AggregateFunction" = some m.cls := hown
  have N0 := Fr.nil n0
  have K0 : Keep h0 h0 [] := Keep.refl _ _
  refine Wlk.of (fun _ k => castTop (ef_c_rv6 m fL) k) ?_
  show Wlk p.tables e below (s₁.setTop (mkF m 0 #[rv fL] [])) K
  refine Wlk.of (fun _ k => XS.aloadN X0.here hx rfl (hb hby d18_0) rfl rfl k) ?_
  show Wlk p.tables e below (s₁.setTop (mkF m 1 #[rv fL] [(.ref fL)])) K
  obtain ⟨T1, X1, e1, st1⟩ := getS2 X0 hx hZ hown (host := "") (Or.inl (wd hw 126 rfl)) Via.refl e0 S_AVG (g := (mkF m 1 #[rv fL] [(.ref fL)])) rfl (hb hby d18_1)
  refine Wlk.of (fun _ k => st1 _ k) ?_
  show Wlk p.tables e below (T1.setTop (mkF m 4 #[rv fL] [(.ref fA), (.ref fL)])) K
  refine Wlk.of (fun _ k => acmp X1 hx rfl (cd := .eq) (x := (.ref fL)) (y := (.ref fA)) rfl rfl (pc0 := 4) (pc' := 7) (same := false) rfl (hb hby d18_4) rfl (decide_eq_false (fun q => ne_fL_fA (Value.ref.inj q))) (by decide) (by decide) k) ?_
  show Wlk p.tables e below (T1.setTop (mkF m 7 #[rv fL] [])) K
  refine Wlk.of (fun _ k => XS.aloadN X1.here hx rfl (hb hby d18_7) rfl rfl k) ?_
  show Wlk p.tables e below (T1.setTop (mkF m 8 #[rv fL] [(.ref fL)])) K
  obtain ⟨T2, X2, e2, st2⟩ := getS2 X1 hx hZ hown (host := "") (Or.inl (wd hw 182 rfl)) Via.refl e1 S_SUM (g := (mkF m 8 #[rv fL] [(.ref fL)])) rfl (hb hby d18_8)
  refine Wlk.of (fun _ k => st2 _ k) ?_
  show Wlk p.tables e below (T2.setTop (mkF m 11 #[rv fL] [(.ref fS), (.ref fL)])) K
  refine Wlk.of (fun _ k => acmp X2 hx rfl (cd := .eq) (x := (.ref fL)) (y := (.ref fS)) rfl rfl (pc0 := 11) (pc' := 14) (same := false) rfl (hb hby d18_11) rfl (decide_eq_false (fun q => ne_fL_fS (Value.ref.inj q))) (by decide) (by decide) k) ?_
  show Wlk p.tables e below (T2.setTop (mkF m 14 #[rv fL] [])) K
  refine Wlk.of (fun _ k => XS.aloadN X2.here hx rfl (hb hby d18_14) rfl rfl k) ?_
  show Wlk p.tables e below (T2.setTop (mkF m 15 #[rv fL] [(.ref fL)])) K
  obtain ⟨T3, X3, e3, st3⟩ := getS2 X2 hx hZ hown (host := "") (Or.inl (wd hw 184 rfl)) Via.refl e2 S_MIN (g := (mkF m 15 #[rv fL] [(.ref fL)])) rfl (hb hby d18_15)
  refine Wlk.of (fun _ k => st3 _ k) ?_
  show Wlk p.tables e below (T3.setTop (mkF m 18 #[rv fL] [(.ref fM), (.ref fL)])) K
  refine Wlk.of (fun _ k => acmp X3 hx rfl (cd := .eq) (x := (.ref fL)) (y := (.ref fM)) rfl rfl (pc0 := 18) (pc' := 21) (same := false) rfl (hb hby d18_18) rfl (decide_eq_false (fun q => ne_fL_fM (Value.ref.inj q))) (by decide) (by decide) k) ?_
  show Wlk p.tables e below (T3.setTop (mkF m 21 #[rv fL] [])) K
  refine Wlk.of (fun _ k => XS.aloadN X3.here hx rfl (hb hby d18_21) rfl rfl k) ?_
  show Wlk p.tables e below (T3.setTop (mkF m 22 #[rv fL] [(.ref fL)])) K
  obtain ⟨T4, X4, e4, st4⟩ := getS2 X3 hx hZ hown (host := "") (Or.inl (wd hw 186 rfl)) Via.refl e3 S_MAX (g := (mkF m 22 #[rv fL] [(.ref fL)])) rfl (hb hby d18_22)
  refine Wlk.of (fun _ k => st4 _ k) ?_
  show Wlk p.tables e below (T4.setTop (mkF m 25 #[rv fL] [(.ref fX), (.ref fL)])) K
  refine Wlk.of (fun _ k => acmp X4 hx rfl (cd := .ne) (x := (.ref fL)) (y := (.ref fX)) rfl rfl (pc0 := 25) (pc' := 32) (same := false) rfl (hb hby d18_25) rfl (decide_eq_false (fun q => ne_fL_fX (Value.ref.inj q))) (by decide) (by decide) k) ?_
  show Wlk p.tables e below (T4.setTop (mkF m 32 #[rv fL] [])) K
  refine Wlk.of (fun _ k => XS.iconst X4.here hx rfl (hb hby d18_32) k) ?_
  show Wlk p.tables e below (T4.setTop (mkF m 33 #[rv fL] [(.int (0 : Int32))])) K
  refine hK (some (.int (0 : Int32))) X4 (fun q => by cases q) (fun fs hr => retN X4 hx (t := .boolean) hret (by simp) (hb hby d18_33) hr) ?_ (by decide) (by decide)
  rw [show T4.heap = h0 from e4]
  exact ⟨rfl, N0, rfl⟩
theorem pd_399 : parseMethodDescriptor "(I)Lcom/example/gapweave/gapweave/AggregateFunction;" = some ⟨[.int], some (.object "com/example/gapweave/gapweave/AggregateFunction")⟩ := by decide +kernel
theorem pd_400 : parseMethodDescriptor "(Lcom/example/gapweave/gapweave/ColumnType;)Lcom/example/gapweave/gapweave/AggregateFunction$Accumulator;" = some ⟨[(.object "com/example/gapweave/gapweave/ColumnType")], some (.object "com/example/gapweave/gapweave/AggregateFunction$Accumulator")⟩ := by decide +kernel
theorem pd_401 : parseMethodDescriptor "(Ljava/lang/Object;Ljava/lang/Object;)V" = some ⟨[(.object "java/lang/Object"), (.object "java/lang/Object")], none⟩ := by decide +kernel
theorem pd_402 : parseMethodDescriptor "()Ljava/lang/Object;" = some ⟨[], some (.object "java/lang/Object")⟩ := by decide +kernel
theorem pd_403 : parseMethodDescriptor "(Ljava/lang/Object;Ljava/lang/Object;)Z" = some ⟨[(.object "java/lang/Object"), (.object "java/lang/Object")], some .boolean⟩ := by decide +kernel
theorem pd_404 : parseMethodDescriptor "()Z" = some ⟨[], some .boolean⟩ := by decide +kernel
theorem ef_c_law0 (m : MethodId) (kx : Int32) : entryFrame m #[(.int kx)] maxLocals = mkF m 0 #[iv kx, un, un, un, un, un, un, un, un, un, un] [] := by first | (simp [entryFrame, mkF, argsToLocals, Value.category, maxLocals]; done) | rfl
def Q_c_law0 (Z : State) (kx : Int32) (fA : Addr) (i64 : Addr) (ca : Addr) (vsC : (List Value)) (lg0 : Addr) (lg1 : Addr) (lg2 : Addr) (i32 : Addr) (h0 : Heap) (n0 : Nat) (v : Option Value) (h : Heap) (L : List Loc) : Prop := v = (some (.int (1 : Int32))) ∧ Fr n0 L ∧ Keep h0 h []
set_option maxRecDepth 65536 in
set_option maxHeartbeats 40000000 in
theorem c_law0 (l : Launch) (Z : State) (a0 : Array Value) (hw : ∀ d ∈ tables_1, d.before a0 Z = true) (ws : List Jvm.Cond) (kx : Int32) (fA : Addr) (i64 : Addr) (ca : Addr) (vsC : (List Value)) (lg0 : Addr) (lg1 : Addr) (lg2 : Addr) (i32 : Addr) (h0 : Heap) (n0 : Nat) (Z0 : n0 ≤ h0.size) (hi : (kx &&& (2147483647 : Int32)) % (7 : Int32) = (0 : Int32)) (S_AVG : Sta Z h0 "com/example/gapweave/gapweave/AggregateFunction" "AVG" "Lcom/example/gapweave/gapweave/AggregateFunction;" (.ref fA)) (E_fA : Exa Z h0 fA "com/example/gapweave/gapweave/AggregateFunction") (F_fA_ordinal : Fld Z h0 fA "java/lang/Enum" "ordinal" "I" (.int (0 : Int32))) (S_INT64 : Sta Z h0 "com/example/gapweave/gapweave/ColumnType" "INT64" "Lcom/example/gapweave/gapweave/ColumnType;" (.ref i64)) (S_cache : Sta Z h0 "java/lang/Long$LongCache" "cache" "[Ljava/lang/Long;" (.ref ca)) (A_ca : Arl Z h0 ca (.object "java/lang/Long") vsC) (hC0 : vsC[128]? = some (.ref lg0)) (hC1 : vsC[129]? = some (.ref lg1)) (hC2 : vsC[130]? = some (.ref lg2)) (E_lg0 : Exa Z h0 lg0 "java/lang/Long") (F_lg0_value : Fld Z h0 lg0 "java/lang/Long" "value" "J" (.long (0 : Int64))) (E_lg1 : Exa Z h0 lg1 "java/lang/Long") (F_lg1_value : Fld Z h0 lg1 "java/lang/Long" "value" "J" (.long (1 : Int64))) (E_lg2 : Exa Z h0 lg2 "java/lang/Long") (F_lg2_value : Fld Z h0 lg2 "java/lang/Long" "value" "J" (.long (2 : Int64))) (S_INT32 : Sta Z h0 "com/example/gapweave/gapweave/ColumnType" "INT32" "Lcom/example/gapweave/gapweave/ColumnType;" (.ref i32)) (ne_i64_i32 : i64 ≠ i32) :
    Ctr l Z h0 x code maxLocals ret ws room_1 #[(.int kx)] (Q_c_law0 Z kx fA i64 ca vsC lg0 lg1 lg2 i32 h0 n0) := by
  refine Ctr.make (plainFor_of_name pn_250) fun p e s m below meth c s₁ K hret hml hx hby hown hnm hnamed hH hZ X0 e0 hK => ?_
  have hown : s.vm.findClass "com/example/gapweave/gapweave/AggregateFunctionReadsValuesPinLaw" = some m.cls := hown
  have hml : c.maxLocals = 11 := hml
  have N0 := Fr.nil n0
  have K0 : Keep h0 h0 [] := Keep.refl _ _
  refine Wlk.of (fun _ k => castTop (ef_c_law0 m kx) k) ?_
  show Wlk p.tables e below (s₁.setTop (mkF m 0 #[iv kx, un, un, un, un, un, un, un, un, un, un] [])) K
  refine Wlk.of (fun _ k => XS.iloadN X0.here hx rfl (hb hby at_0) rfl k) ?_
  show Wlk p.tables e below (s₁.setTop (mkF m 1 #[iv kx, un, un, un, un, un, un, un, un, un, un] [(.int kx)])) K
  refine Wlk.of (fun _ k => X0.ldcInt hx hown (mvT hZ (wd hw 0 rfl)) (g := (mkF m 1 #[iv kx, un, un, un, un, un, un, un, un, un, un] [(.int kx)])) rfl (hb hby at_1) _ k) ?_
  show Wlk p.tables e below (s₁.setTop (mkF m 3 #[iv kx, un, un, un, un, un, un, un, un, un, un] [(.int (2147483647 : Int32)), (.int kx)])) K
  refine Wlk.of (fun _ k => XS.iand X0.here hx rfl (hb hby at_3) rfl k) ?_
  show Wlk p.tables e below (s₁.setTop (mkF m 4 #[iv kx, un, un, un, un, un, un, un, un, un, un] [(.int (kx &&& (2147483647 : Int32)))])) K
  refine Wlk.of (fun _ k => XS.bipush X0.here hx rfl (hb hby at_4) k) ?_
  show Wlk p.tables e below (s₁.setTop (mkF m 6 #[iv kx, un, un, un, un, un, un, un, un, un, un] [(.int (7 : Int32)), (.int (kx &&& (2147483647 : Int32)))])) K
  refine Wlk.of (fun _ k => iremM X0 hx rfl (hb hby at_6) rfl (by decide) k) ?_
  show Wlk p.tables e below (s₁.setTop (mkF m 7 #[iv kx, un, un, un, un, un, un, un, un, un, un] [(.int ((kx &&& (2147483647 : Int32)) % (7 : Int32)))])) K
  rw [hi]
  refine Wlk.of (fun _ k => XS.istoreN X0.here hx rfl (hb hby at_7) rfl (l' := #[iv kx, iv (0 : Int32), un, un, un, un, un, un, un, un, un]) rfl k) ?_
  show Wlk p.tables e below (s₁.setTop (mkF m 8 #[iv kx, iv (0 : Int32), un, un, un, un, un, un, un, un, un] [])) K
  refine Wlk.of (fun _ k => XS.iloadN X0.here hx rfl (hb hby at_8) rfl k) ?_
  show Wlk p.tables e below (s₁.setTop (mkF m 9 #[iv kx, iv (0 : Int32), un, un, un, un, un, un, un, un, un] [(.int (0 : Int32))])) K
  obtain ⟨v1, T1, L1, X1, q1, st1⟩ := Ctr.static (c_pick0 l Z a0 hw fA h0 n0 (Nat.le_trans Z0 K0.1) S_AVG) X0 hx hH e0 hown (wd hw 1 rfl) (wd hw 2 rfl) (wd hw 3 rfl) (wd hw 4 rfl) (by decide) pd_399 (g := (mkF m 9 #[iv kx, iv (0 : Int32), un, un, un, un, un, un, un, un, un] [(.int (0 : Int32))])) rfl (by rw [hml]; rfl) (argsL := [(.int (0 : Int32))]) (rest := []) rfl rfl rfl (W := 0) (by show 2 * 0 + _ ≤ _; exact Nat.le_of_eq rfl) (by decide) (by decide) (hb hby at_9) (by decide) (by decide)
  obtain ⟨rfl, N1q, hh1⟩ := q1
  have N2 := Fr.app N0 N1q
  refine Wlk.of (fun _ k => st1 _ k) ?_
  show Wlk p.tables e below (T1.setTop (mkF m 12 #[iv kx, iv (0 : Int32), un, un, un, un, un, un, un, un, un] [(.ref fA)])) K
  refine Wlk.of (fun _ k => XS.astoreN X1.here hx rfl (hb hby at_12) rfl rfl (l' := #[iv kx, iv (0 : Int32), rv fA, un, un, un, un, un, un, un, un]) rfl k) ?_
  show Wlk p.tables e below (T1.setTop (mkF m 13 #[iv kx, iv (0 : Int32), rv fA, un, un, un, un, un, un, un, un] [])) K
  refine Wlk.of (fun _ k => XS.lconst X1.here hx rfl (hb hby at_13) k) ?_
  show Wlk p.tables e below (T1.setTop (mkF m 14 #[iv kx, iv (0 : Int32), rv fA, un, un, un, un, un, un, un, un] [(.long (1 : Int64))])) K
  obtain ⟨v3, T3, L3, X3, q3, st3⟩ := Ctr.static (c_vo1 l Z a0 hw ca vsC lg1 h0 n0 (Nat.le_trans Z0 K0.1) S_cache A_ca hC1) X1 hx hH hh1 hown (wd hw 8 rfl) (wd hw 9 rfl) (wd hw 10 rfl) (wd hw 11 rfl) (by decide) pd_174 (g := (mkF m 14 #[iv kx, iv (0 : Int32), rv fA, un, un, un, un, un, un, un, un] [(.long (1 : Int64))])) rfl (by rw [hml]; rfl) (argsL := [(.long (1 : Int64))]) (rest := []) rfl rfl rfl (W := 0) (by show 2 * 0 + _ ≤ _; exact Nat.le_of_eq rfl) (by decide) (by decide) (hb hby at_14) (by decide) (by decide)
  obtain ⟨rfl, N3q, hh3⟩ := q3
  have N4 := Fr.app N2 N3q
  refine Wlk.of (fun _ k => st3 _ k) ?_
  show Wlk p.tables e below (T3.setTop (mkF m 17 #[iv kx, iv (0 : Int32), rv fA, un, un, un, un, un, un, un, un] [(.ref lg1)])) K
  refine Wlk.of (fun _ k => XS.astoreN X3.here hx rfl (hb hby at_17) rfl rfl (l' := #[iv kx, iv (0 : Int32), rv fA, rv lg1, un, un, un, un, un, un, un]) rfl k) ?_
  show Wlk p.tables e below (T3.setTop (mkF m 18 #[iv kx, iv (0 : Int32), rv fA, rv lg1, un, un, un, un, un, un, un] [])) K
  refine Wlk.of (fun _ k => X3.ldc2Long hx hown (mvT hZ (wd hw 16 rfl)) (g := (mkF m 18 #[iv kx, iv (0 : Int32), rv fA, rv lg1, un, un, un, un, un, un, un] [])) rfl (hb hby at_18) _ k) ?_
  show Wlk p.tables e below (T3.setTop (mkF m 21 #[iv kx, iv (0 : Int32), rv fA, rv lg1, un, un, un, un, un, un, un] [(.long (2 : Int64))])) K
  obtain ⟨v5, T5, L5, X5, q5, st5⟩ := Ctr.static (c_vo2 l Z a0 hw ca vsC lg2 h0 n0 (Nat.le_trans Z0 K0.1) S_cache A_ca hC2) X3 hx hH hh3 hown (wd hw 8 rfl) (wd hw 9 rfl) (wd hw 10 rfl) (wd hw 11 rfl) (by decide) pd_174 (g := (mkF m 21 #[iv kx, iv (0 : Int32), rv fA, rv lg1, un, un, un, un, un, un, un] [(.long (2 : Int64))])) rfl (by rw [hml]; rfl) (argsL := [(.long (2 : Int64))]) (rest := []) rfl rfl rfl (W := 0) (by show 2 * 0 + _ ≤ _; exact Nat.le_of_eq rfl) (by decide) (by decide) (hb hby at_21) (by decide) (by decide)
  obtain ⟨rfl, N5q, hh5⟩ := q5
  have N6 := Fr.app N4 N5q
  refine Wlk.of (fun _ k => st5 _ k) ?_
  show Wlk p.tables e below (T5.setTop (mkF m 24 #[iv kx, iv (0 : Int32), rv fA, rv lg1, un, un, un, un, un, un, un] [(.ref lg2)])) K
  refine Wlk.of (fun _ k => XS.astore X5.here hx rfl (hb hby at_24) rfl rfl (l' := #[iv kx, iv (0 : Int32), rv fA, rv lg1, rv lg2, un, un, un, un, un, un]) rfl k) ?_
  show Wlk p.tables e below (T5.setTop (mkF m 26 #[iv kx, iv (0 : Int32), rv fA, rv lg1, rv lg2, un, un, un, un, un, un] [])) K
  refine Wlk.of (fun _ k => XS.lconst X5.here hx rfl (hb hby at_26) k) ?_
  show Wlk p.tables e below (T5.setTop (mkF m 27 #[iv kx, iv (0 : Int32), rv fA, rv lg1, rv lg2, un, un, un, un, un, un] [(.long (0 : Int64))])) K
  obtain ⟨v7, T7, L7, X7, q7, st7⟩ := Ctr.static (c_vo0 l Z a0 hw ca vsC lg0 h0 n0 (Nat.le_trans Z0 K0.1) S_cache A_ca hC0) X5 hx hH hh5 hown (wd hw 8 rfl) (wd hw 9 rfl) (wd hw 10 rfl) (wd hw 11 rfl) (by decide) pd_174 (g := (mkF m 27 #[iv kx, iv (0 : Int32), rv fA, rv lg1, rv lg2, un, un, un, un, un, un] [(.long (0 : Int64))])) rfl (by rw [hml]; rfl) (argsL := [(.long (0 : Int64))]) (rest := []) rfl rfl rfl (W := 0) (by show 2 * 0 + _ ≤ _; exact Nat.le_of_eq rfl) (by decide) (by decide) (hb hby at_27) (by decide) (by decide)
  obtain ⟨rfl, N7q, hh7⟩ := q7
  have N8 := Fr.app N6 N7q
  refine Wlk.of (fun _ k => st7 _ k) ?_
  show Wlk p.tables e below (T7.setTop (mkF m 30 #[iv kx, iv (0 : Int32), rv fA, rv lg1, rv lg2, un, un, un, un, un, un] [(.ref lg0)])) K
  refine Wlk.of (fun _ k => XS.astore X7.here hx rfl (hb hby at_30) rfl rfl (l' := #[iv kx, iv (0 : Int32), rv fA, rv lg1, rv lg2, rv lg0, un, un, un, un, un]) rfl k) ?_
  show Wlk p.tables e below (T7.setTop (mkF m 32 #[iv kx, iv (0 : Int32), rv fA, rv lg1, rv lg2, rv lg0, un, un, un, un, un] [])) K
  refine Wlk.of (fun _ k => XS.lconst X7.here hx rfl (hb hby at_32) k) ?_
  show Wlk p.tables e below (T7.setTop (mkF m 33 #[iv kx, iv (0 : Int32), rv fA, rv lg1, rv lg2, rv lg0, un, un, un, un, un] [(.long (1 : Int64))])) K
  obtain ⟨v9, T9, L9, X9, q9, st9⟩ := Ctr.static (c_vo1 l Z a0 hw ca vsC lg1 h0 n0 (Nat.le_trans Z0 K0.1) S_cache A_ca hC1) X7 hx hH hh7 hown (wd hw 8 rfl) (wd hw 9 rfl) (wd hw 10 rfl) (wd hw 11 rfl) (by decide) pd_174 (g := (mkF m 33 #[iv kx, iv (0 : Int32), rv fA, rv lg1, rv lg2, rv lg0, un, un, un, un, un] [(.long (1 : Int64))])) rfl (by rw [hml]; rfl) (argsL := [(.long (1 : Int64))]) (rest := []) rfl rfl rfl (W := 0) (by show 2 * 0 + _ ≤ _; exact Nat.le_of_eq rfl) (by decide) (by decide) (hb hby at_33) (by decide) (by decide)
  obtain ⟨rfl, N9q, hh9⟩ := q9
  have N10 := Fr.app N8 N9q
  refine Wlk.of (fun _ k => st9 _ k) ?_
  show Wlk p.tables e below (T9.setTop (mkF m 36 #[iv kx, iv (0 : Int32), rv fA, rv lg1, rv lg2, rv lg0, un, un, un, un, un] [(.ref lg1)])) K
  refine Wlk.of (fun _ k => XS.astore X9.here hx rfl (hb hby at_36) rfl rfl (l' := #[iv kx, iv (0 : Int32), rv fA, rv lg1, rv lg2, rv lg0, rv lg1, un, un, un, un]) rfl k) ?_
  show Wlk p.tables e below (T9.setTop (mkF m 38 #[iv kx, iv (0 : Int32), rv fA, rv lg1, rv lg2, rv lg0, rv lg1, un, un, un, un] [])) K
  refine Wlk.of (fun _ k => X9.ldc2Long hx hown (mvT hZ (wd hw 16 rfl)) (g := (mkF m 38 #[iv kx, iv (0 : Int32), rv fA, rv lg1, rv lg2, rv lg0, rv lg1, un, un, un, un] [])) rfl (hb hby at_38) _ k) ?_
  show Wlk p.tables e below (T9.setTop (mkF m 41 #[iv kx, iv (0 : Int32), rv fA, rv lg1, rv lg2, rv lg0, rv lg1, un, un, un, un] [(.long (2 : Int64))])) K
  obtain ⟨v11, T11, L11, X11, q11, st11⟩ := Ctr.static (c_vo2 l Z a0 hw ca vsC lg2 h0 n0 (Nat.le_trans Z0 K0.1) S_cache A_ca hC2) X9 hx hH hh9 hown (wd hw 8 rfl) (wd hw 9 rfl) (wd hw 10 rfl) (wd hw 11 rfl) (by decide) pd_174 (g := (mkF m 41 #[iv kx, iv (0 : Int32), rv fA, rv lg1, rv lg2, rv lg0, rv lg1, un, un, un, un] [(.long (2 : Int64))])) rfl (by rw [hml]; rfl) (argsL := [(.long (2 : Int64))]) (rest := []) rfl rfl rfl (W := 0) (by show 2 * 0 + _ ≤ _; exact Nat.le_of_eq rfl) (by decide) (by decide) (hb hby at_41) (by decide) (by decide)
  obtain ⟨rfl, N11q, hh11⟩ := q11
  have N12 := Fr.app N10 N11q
  refine Wlk.of (fun _ k => st11 _ k) ?_
  show Wlk p.tables e below (T11.setTop (mkF m 44 #[iv kx, iv (0 : Int32), rv fA, rv lg1, rv lg2, rv lg0, rv lg1, un, un, un, un] [(.ref lg2)])) K
  refine Wlk.of (fun _ k => XS.astore X11.here hx rfl (hb hby at_44) rfl rfl (l' := #[iv kx, iv (0 : Int32), rv fA, rv lg1, rv lg2, rv lg0, rv lg1, rv lg2, un, un, un]) rfl k) ?_
  show Wlk p.tables e below (T11.setTop (mkF m 46 #[iv kx, iv (0 : Int32), rv fA, rv lg1, rv lg2, rv lg0, rv lg1, rv lg2, un, un, un] [])) K
  refine Wlk.of (fun _ k => XS.aloadN X11.here hx rfl (hb hby at_46) rfl rfl k) ?_
  show Wlk p.tables e below (T11.setTop (mkF m 47 #[iv kx, iv (0 : Int32), rv fA, rv lg1, rv lg2, rv lg0, rv lg1, rv lg2, un, un, un] [(.ref fA)])) K
  obtain ⟨T13, X13, e13, st13⟩ := getS2 X11 hx hZ hown (host := "") (Or.inl (wd hw 17 rfl)) Via.refl hh11 S_INT64 (g := (mkF m 47 #[iv kx, iv (0 : Int32), rv fA, rv lg1, rv lg2, rv lg0, rv lg1, rv lg2, un, un, un] [(.ref fA)])) rfl (hb hby at_47)
  refine Wlk.of (fun _ k => st13 _ k) ?_
  show Wlk p.tables e below (T13.setTop (mkF m 50 #[iv kx, iv (0 : Int32), rv fA, rv lg1, rv lg2, rv lg0, rv lg1, rv lg2, un, un, un] [(.ref i64), (.ref fA)])) K
  obtain ⟨v14, T14, L14, X14, q14, st14⟩ := Ctr.virtual (y := (⟨"com/example/gapweave/gapweave/AggregateFunction", "start", "(Lcom/example/gapweave/gapweave/ColumnType;)Lcom/example/gapweave/gapweave/AggregateFunction$Accumulator;"⟩ : MethodName)) (c_start0 l Z a0 hw fA i64 i32 h0 n0 (Nat.le_trans Z0 K0.1) E_fA F_fA_ordinal S_INT32 S_INT64 ne_i64_i32) X13 hx hH e13 hown (wd hw 20 rfl) (wd hw 21 rfl) (notFace_of_selects (args := #[]) (mvT hZ (wd hw 23 rfl))) (wd hw 23 rfl) (wd hw 22 rfl) (wd hw 6 rfl) (wd hw 24 rfl) (by decide) E_fA pd_400 (g := (mkF m 50 #[iv kx, iv (0 : Int32), rv fA, rv lg1, rv lg2, rv lg0, rv lg1, rv lg2, un, un, un] [(.ref i64), (.ref fA)])) rfl (by rw [hml]; rfl) (argsL := [(.ref i64)]) (rest := []) rfl rfl rfl (W := 0) (by show 2 * 0 + _ ≤ _; exact Nat.le_of_eq rfl) (by decide) (by decide) (hb hby at_50) (by decide) (by decide)
  obtain ⟨b_14, rfl, N14q, K14q, p14_0, p14_1, p14_2, p14_3, p14_4⟩ := q14
  have N15 := Fr.app N12 N14q
  refine Wlk.of (fun _ k => st14 _ k) ?_
  have ne16 : ca ≠ b_14 := Nat.ne_of_lt (Nat.lt_of_lt_of_le A_ca.lt p14_0)
  have ne17 : fA ≠ b_14 := Nat.ne_of_lt (Nat.lt_of_lt_of_le E_fA.lt p14_0)
  have ne18 : lg0 ≠ b_14 := Nat.ne_of_lt (Nat.lt_of_lt_of_le E_lg0.lt p14_0)
  have ne19 : lg1 ≠ b_14 := Nat.ne_of_lt (Nat.lt_of_lt_of_le E_lg1.lt p14_0)
  have ne20 : lg2 ≠ b_14 := Nat.ne_of_lt (Nat.lt_of_lt_of_le E_lg2.lt p14_0)
  have sz_b_14 : h0.size ≤ b_14 := Nat.le_trans K0.1 p14_0
  have g_b_14 : n0 ≤ b_14 := Nat.le_trans Z0 sz_b_14
  have K21 : Keep h0 T14.heap [] := K0.trans K14q all0
  show Wlk p.tables e below (T14.setTop (mkF m 53 #[iv kx, iv (0 : Int32), rv fA, rv lg1, rv lg2, rv lg0, rv lg1, rv lg2, un, un, un] [(.ref b_14)])) K
  refine Wlk.of (fun _ k => XS.astore X14.here hx rfl (hb hby at_53) rfl rfl (l' := #[iv kx, iv (0 : Int32), rv fA, rv lg1, rv lg2, rv lg0, rv lg1, rv lg2, rv b_14, un, un]) rfl k) ?_
  show Wlk p.tables e below (T14.setTop (mkF m 55 #[iv kx, iv (0 : Int32), rv fA, rv lg1, rv lg2, rv lg0, rv lg1, rv lg2, rv b_14, un, un] [])) K
  refine Wlk.of (fun _ k => XS.aload X14.here hx rfl (hb hby at_55) rfl rfl k) ?_
  show Wlk p.tables e below (T14.setTop (mkF m 57 #[iv kx, iv (0 : Int32), rv fA, rv lg1, rv lg2, rv lg0, rv lg1, rv lg2, rv b_14, un, un] [(.ref b_14)])) K
  refine Wlk.of (fun _ k => XS.aloadN X14.here hx rfl (hb hby at_57) rfl rfl k) ?_
  show Wlk p.tables e below (T14.setTop (mkF m 58 #[iv kx, iv (0 : Int32), rv fA, rv lg1, rv lg2, rv lg0, rv lg1, rv lg2, rv b_14, un, un] [(.ref lg1), (.ref b_14)])) K
  refine Wlk.of (fun _ k => XS.aload X14.here hx rfl (hb hby at_58) rfl rfl k) ?_
  show Wlk p.tables e below (T14.setTop (mkF m 60 #[iv kx, iv (0 : Int32), rv fA, rv lg1, rv lg2, rv lg0, rv lg1, rv lg2, rv b_14, un, un] [(.ref lg0), (.ref lg1), (.ref b_14)])) K
  have f22 : Exa Z T14.heap lg0 "java/lang/Long" := (E_lg0.keep K14q)
  have f23 : Fld Z T14.heap lg0 "java/lang/Long" "value" "J" (.long (0 : Int64)) := (F_lg0_value.keep K14q nin0)
  obtain ⟨v24, T24, L24, X24, q24, st24⟩ := CtrW.iface (xi := (⟨"com/example/gapweave/gapweave/AggregateFunction$Accumulator", "add", "(Ljava/lang/Object;Ljava/lang/Object;)V"⟩ : MethodName)) (c_ma00 l Z a0 hw b_14 lg1 lg0 T14.heap n0 (Nat.le_trans Z0 K21.1) p14_1 p14_2 p14_3 p14_4 f22 f23 g_b_14) X14 hx hH rfl hown (wd hw 49 rfl) (wd hw 50 rfl) (wd hw 51 rfl) (wd hw 52 rfl) (wd hw 53 rfl) (wd hw 54 rfl) (wd hw 55 rfl) (wd hw 56 rfl) (wd hw 42 rfl) (wd hw 57 rfl) (by decide) p14_1 pd_401 (g := (mkF m 60 #[iv kx, iv (0 : Int32), rv fA, rv lg1, rv lg2, rv lg0, rv lg1, rv lg2, rv b_14, un, un] [(.ref lg0), (.ref lg1), (.ref b_14)])) rfl (by rw [hml]; rfl) (argsL := [(.ref lg1), (.ref lg0)]) (rest := []) rfl rfl rfl (W := 0) (by show 2 * 0 + _ ≤ _; exact Nat.le_of_eq rfl) (by decide) (by decide) (hb hby at_60) (by decide) (by decide)
  obtain ⟨rfl, N24q, K24q, p24_0, p24_1, p24_2⟩ := q24
  have N25 := Fr.app N15 N24q
  refine Wlk.of (fun _ k => st24 _ k) ?_
  have K26 : Keep h0 T24.heap [] := K21.trans K24q (allS (Or.inr sz_b_14) all0)
  show Wlk p.tables e below (T24.setTop (mkF m 65 #[iv kx, iv (0 : Int32), rv fA, rv lg1, rv lg2, rv lg0, rv lg1, rv lg2, rv b_14, un, un] [])) K
  refine Wlk.of (fun _ k => XS.aload X24.here hx rfl (hb hby at_65) rfl rfl k) ?_
  show Wlk p.tables e below (T24.setTop (mkF m 67 #[iv kx, iv (0 : Int32), rv fA, rv lg1, rv lg2, rv lg0, rv lg1, rv lg2, rv b_14, un, un] [(.ref b_14)])) K
  refine Wlk.of (fun _ k => XS.aload X24.here hx rfl (hb hby at_67) rfl rfl k) ?_
  show Wlk p.tables e below (T24.setTop (mkF m 69 #[iv kx, iv (0 : Int32), rv fA, rv lg1, rv lg2, rv lg0, rv lg1, rv lg2, rv b_14, un, un] [(.ref lg2), (.ref b_14)])) K
  refine Wlk.of (fun _ k => XS.aload X24.here hx rfl (hb hby at_69) rfl rfl k) ?_
  show Wlk p.tables e below (T24.setTop (mkF m 71 #[iv kx, iv (0 : Int32), rv fA, rv lg1, rv lg2, rv lg0, rv lg1, rv lg2, rv b_14, un, un] [(.ref lg1), (.ref lg2), (.ref b_14)])) K
  have f27 : Exa Z T24.heap b_14 "com/example/gapweave/gapweave/AggregateFunction$IntegerMean" := (p14_1.keep K24q)
  have f28 : Exa Z T24.heap lg1 "java/lang/Long" := ((E_lg1.keep K14q).keep K24q)
  have f29 : Fld Z T24.heap lg1 "java/lang/Long" "value" "J" (.long (1 : Int64)) := ((F_lg1_value.keep K14q nin0).keep K24q (ninS ne19 nin0))
  obtain ⟨v30, T30, L30, X30, q30, st30⟩ := CtrW.iface (xi := (⟨"com/example/gapweave/gapweave/AggregateFunction$Accumulator", "add", "(Ljava/lang/Object;Ljava/lang/Object;)V"⟩ : MethodName)) (c_ma01 l Z a0 hw b_14 lg2 lg1 T24.heap n0 (Nat.le_trans Z0 K26.1) f27 p24_0 p24_1 p24_2 f28 f29 g_b_14) X24 hx hH rfl hown (wd hw 49 rfl) (wd hw 50 rfl) (wd hw 51 rfl) (wd hw 52 rfl) (wd hw 53 rfl) (wd hw 54 rfl) (wd hw 55 rfl) (wd hw 56 rfl) (wd hw 42 rfl) (wd hw 57 rfl) (by decide) f27 pd_401 (g := (mkF m 71 #[iv kx, iv (0 : Int32), rv fA, rv lg1, rv lg2, rv lg0, rv lg1, rv lg2, rv b_14, un, un] [(.ref lg1), (.ref lg2), (.ref b_14)])) rfl (by rw [hml]; rfl) (argsL := [(.ref lg2), (.ref lg1)]) (rest := []) rfl rfl rfl (W := 0) (by show 2 * 0 + _ ≤ _; exact Nat.le_of_eq rfl) (by decide) (by decide) (hb hby at_71) (by decide) (by decide)
  obtain ⟨rfl, N30q, K30q, p30_0, p30_1, p30_2⟩ := q30
  have N31 := Fr.app N25 N30q
  refine Wlk.of (fun _ k => st30 _ k) ?_
  have K32 : Keep h0 T30.heap [] := K26.trans K30q (allS (Or.inr sz_b_14) all0)
  show Wlk p.tables e below (T30.setTop (mkF m 76 #[iv kx, iv (0 : Int32), rv fA, rv lg1, rv lg2, rv lg0, rv lg1, rv lg2, rv b_14, un, un] [])) K
  refine Wlk.of (fun _ k => XS.aloadN X30.here hx rfl (hb hby at_76) rfl rfl k) ?_
  show Wlk p.tables e below (T30.setTop (mkF m 77 #[iv kx, iv (0 : Int32), rv fA, rv lg1, rv lg2, rv lg0, rv lg1, rv lg2, rv b_14, un, un] [(.ref fA)])) K
  have f33 : Sta Z T30.heap "com/example/gapweave/gapweave/ColumnType" "INT64" "Lcom/example/gapweave/gapweave/ColumnType;" (.ref i64) := (own_staKeep (own_staKeep (own_staKeep S_INT64 K14q own_all0) K24q (own_allS (NSt.of p14_1) own_all0)) K30q (own_allS (NSt.of f27) own_all0))
  obtain ⟨T34, X34, e34, st34⟩ := getS2 X30 hx hZ hown (host := "") (Or.inl (wd hw 17 rfl)) Via.refl rfl f33 (g := (mkF m 77 #[iv kx, iv (0 : Int32), rv fA, rv lg1, rv lg2, rv lg0, rv lg1, rv lg2, rv b_14, un, un] [(.ref fA)])) rfl (hb hby at_77)
  refine Wlk.of (fun _ k => st34 _ k) ?_
  show Wlk p.tables e below (T34.setTop (mkF m 80 #[iv kx, iv (0 : Int32), rv fA, rv lg1, rv lg2, rv lg0, rv lg1, rv lg2, rv b_14, un, un] [(.ref i64), (.ref fA)])) K
  have f35 : Exa Z T30.heap fA "com/example/gapweave/gapweave/AggregateFunction" := (((E_fA.keep K14q).keep K24q).keep K30q)
  have f36 : Fld Z T30.heap fA "java/lang/Enum" "ordinal" "I" (.int (0 : Int32)) := (((F_fA_ordinal.keep K14q nin0).keep K24q (ninS ne17 nin0)).keep K30q (ninS ne17 nin0))
  have f37 : Sta Z T30.heap "com/example/gapweave/gapweave/ColumnType" "INT32" "Lcom/example/gapweave/gapweave/ColumnType;" (.ref i32) := (own_staKeep (own_staKeep (own_staKeep S_INT32 K14q own_all0) K24q (own_allS (NSt.of p14_1) own_all0)) K30q (own_allS (NSt.of f27) own_all0))
  obtain ⟨v38, T38, L38, X38, q38, st38⟩ := Ctr.virtual (y := (⟨"com/example/gapweave/gapweave/AggregateFunction", "start", "(Lcom/example/gapweave/gapweave/ColumnType;)Lcom/example/gapweave/gapweave/AggregateFunction$Accumulator;"⟩ : MethodName)) (c_start0 l Z a0 hw fA i64 i32 T30.heap n0 (Nat.le_trans Z0 K32.1) f35 f36 f37 f33 ne_i64_i32) X34 hx hH e34 hown (wd hw 20 rfl) (wd hw 21 rfl) (notFace_of_selects (args := #[]) (mvT hZ (wd hw 23 rfl))) (wd hw 23 rfl) (wd hw 22 rfl) (wd hw 6 rfl) (wd hw 24 rfl) (by decide) f35 pd_400 (g := (mkF m 80 #[iv kx, iv (0 : Int32), rv fA, rv lg1, rv lg2, rv lg0, rv lg1, rv lg2, rv b_14, un, un] [(.ref i64), (.ref fA)])) rfl (by rw [hml]; rfl) (argsL := [(.ref i64)]) (rest := []) rfl rfl rfl (W := 0) (by show 2 * 0 + _ ≤ _; exact Nat.le_of_eq rfl) (by decide) (by decide) (hb hby at_80) (by decide) (by decide)
  obtain ⟨b_38, rfl, N38q, K38q, p38_0, p38_1, p38_2, p38_3, p38_4⟩ := q38
  have N39 := Fr.app N31 N38q
  refine Wlk.of (fun _ k => st38 _ k) ?_
  have f41 : Exa Z T30.heap b_14 "com/example/gapweave/gapweave/AggregateFunction$IntegerMean" := (f27.keep K30q)
  have ne40 : b_14 ≠ b_38 := Nat.ne_of_lt (Nat.lt_of_lt_of_le f41.lt p38_0)
  have f43 : Arl Z T30.heap ca (.object "java/lang/Long") vsC := (((A_ca.keep K14q nin0).keep K24q (ninS ne16 nin0)).keep K30q (ninS ne16 nin0))
  have ne42 : ca ≠ b_38 := Nat.ne_of_lt (Nat.lt_of_lt_of_le f43.lt p38_0)
  have ne44 : fA ≠ b_38 := Nat.ne_of_lt (Nat.lt_of_lt_of_le f35.lt p38_0)
  have f46 : Exa Z T30.heap lg0 "java/lang/Long" := ((f22.keep K24q).keep K30q)
  have ne45 : lg0 ≠ b_38 := Nat.ne_of_lt (Nat.lt_of_lt_of_le f46.lt p38_0)
  have f48 : Exa Z T30.heap lg1 "java/lang/Long" := (f28.keep K30q)
  have ne47 : lg1 ≠ b_38 := Nat.ne_of_lt (Nat.lt_of_lt_of_le f48.lt p38_0)
  have f50 : Exa Z T30.heap lg2 "java/lang/Long" := (((E_lg2.keep K14q).keep K24q).keep K30q)
  have ne49 : lg2 ≠ b_38 := Nat.ne_of_lt (Nat.lt_of_lt_of_le f50.lt p38_0)
  have sz_b_38 : h0.size ≤ b_38 := Nat.le_trans K32.1 p38_0
  have g_b_38 : n0 ≤ b_38 := Nat.le_trans Z0 sz_b_38
  have K51 : Keep h0 T38.heap [] := K32.trans K38q all0
  show Wlk p.tables e below (T38.setTop (mkF m 83 #[iv kx, iv (0 : Int32), rv fA, rv lg1, rv lg2, rv lg0, rv lg1, rv lg2, rv b_14, un, un] [(.ref b_38)])) K
  refine Wlk.of (fun _ k => XS.astore X38.here hx rfl (hb hby at_83) rfl rfl (l' := #[iv kx, iv (0 : Int32), rv fA, rv lg1, rv lg2, rv lg0, rv lg1, rv lg2, rv b_14, rv b_38, un]) rfl k) ?_
  show Wlk p.tables e below (T38.setTop (mkF m 85 #[iv kx, iv (0 : Int32), rv fA, rv lg1, rv lg2, rv lg0, rv lg1, rv lg2, rv b_14, rv b_38, un] [])) K
  refine Wlk.of (fun _ k => XS.aload X38.here hx rfl (hb hby at_85) rfl rfl k) ?_
  show Wlk p.tables e below (T38.setTop (mkF m 87 #[iv kx, iv (0 : Int32), rv fA, rv lg1, rv lg2, rv lg0, rv lg1, rv lg2, rv b_14, rv b_38, un] [(.ref b_38)])) K
  refine Wlk.of (fun _ k => XS.aloadN X38.here hx rfl (hb hby at_87) rfl rfl k) ?_
  show Wlk p.tables e below (T38.setTop (mkF m 88 #[iv kx, iv (0 : Int32), rv fA, rv lg1, rv lg2, rv lg0, rv lg1, rv lg2, rv b_14, rv b_38, un] [(.ref lg1), (.ref b_38)])) K
  refine Wlk.of (fun _ k => XS.aload X38.here hx rfl (hb hby at_88) rfl rfl k) ?_
  show Wlk p.tables e below (T38.setTop (mkF m 90 #[iv kx, iv (0 : Int32), rv fA, rv lg1, rv lg2, rv lg0, rv lg1, rv lg2, rv b_14, rv b_38, un] [(.ref lg2), (.ref lg1), (.ref b_38)])) K
  have f52 : Exa Z T38.heap lg2 "java/lang/Long" := (f50.keep K38q)
  have f53 : Fld Z T38.heap lg2 "java/lang/Long" "value" "J" (.long (2 : Int64)) := ((((F_lg2_value.keep K14q nin0).keep K24q (ninS ne20 nin0)).keep K30q (ninS ne20 nin0)).keep K38q nin0)
  obtain ⟨v54, T54, L54, X54, q54, st54⟩ := CtrW.iface (xi := (⟨"com/example/gapweave/gapweave/AggregateFunction$Accumulator", "add", "(Ljava/lang/Object;Ljava/lang/Object;)V"⟩ : MethodName)) (c_ma02 l Z a0 hw b_38 lg1 lg2 T38.heap n0 (Nat.le_trans Z0 K51.1) p38_1 p38_2 p38_3 p38_4 f52 f53 g_b_38) X38 hx hH rfl hown (wd hw 49 rfl) (wd hw 50 rfl) (wd hw 51 rfl) (wd hw 52 rfl) (wd hw 53 rfl) (wd hw 54 rfl) (wd hw 55 rfl) (wd hw 56 rfl) (wd hw 42 rfl) (wd hw 57 rfl) (by decide) p38_1 pd_401 (g := (mkF m 90 #[iv kx, iv (0 : Int32), rv fA, rv lg1, rv lg2, rv lg0, rv lg1, rv lg2, rv b_14, rv b_38, un] [(.ref lg2), (.ref lg1), (.ref b_38)])) rfl (by rw [hml]; rfl) (argsL := [(.ref lg1), (.ref lg2)]) (rest := []) rfl rfl rfl (W := 0) (by show 2 * 0 + _ ≤ _; exact Nat.le_of_eq rfl) (by decide) (by decide) (hb hby at_90) (by decide) (by decide)
  obtain ⟨rfl, N54q, K54q, p54_0, p54_1, p54_2⟩ := q54
  have N55 := Fr.app N39 N54q
  refine Wlk.of (fun _ k => st54 _ k) ?_
  have K56 : Keep h0 T54.heap [] := K51.trans K54q (allS (Or.inr sz_b_38) all0)
  show Wlk p.tables e below (T54.setTop (mkF m 95 #[iv kx, iv (0 : Int32), rv fA, rv lg1, rv lg2, rv lg0, rv lg1, rv lg2, rv b_14, rv b_38, un] [])) K
  refine Wlk.of (fun _ k => XS.aload X54.here hx rfl (hb hby at_95) rfl rfl k) ?_
  show Wlk p.tables e below (T54.setTop (mkF m 97 #[iv kx, iv (0 : Int32), rv fA, rv lg1, rv lg2, rv lg0, rv lg1, rv lg2, rv b_14, rv b_38, un] [(.ref b_38)])) K
  refine Wlk.of (fun _ k => XS.aload X54.here hx rfl (hb hby at_97) rfl rfl k) ?_
  show Wlk p.tables e below (T54.setTop (mkF m 99 #[iv kx, iv (0 : Int32), rv fA, rv lg1, rv lg2, rv lg0, rv lg1, rv lg2, rv b_14, rv b_38, un] [(.ref lg2), (.ref b_38)])) K
  refine Wlk.of (fun _ k => XS.aload X54.here hx rfl (hb hby at_99) rfl rfl k) ?_
  show Wlk p.tables e below (T54.setTop (mkF m 101 #[iv kx, iv (0 : Int32), rv fA, rv lg1, rv lg2, rv lg0, rv lg1, rv lg2, rv b_14, rv b_38, un] [(.ref lg1), (.ref lg2), (.ref b_38)])) K
  have f57 : Exa Z T54.heap b_38 "com/example/gapweave/gapweave/AggregateFunction$IntegerMean" := (p38_1.keep K54q)
  have f58 : Exa Z T54.heap lg1 "java/lang/Long" := ((f48.keep K38q).keep K54q)
  have f59 : Fld Z T54.heap lg1 "java/lang/Long" "value" "J" (.long (1 : Int64)) := (((f29.keep K30q (ninS ne19 nin0)).keep K38q nin0).keep K54q (ninS ne47 nin0))
  obtain ⟨v60, T60, L60, X60, q60, st60⟩ := CtrW.iface (xi := (⟨"com/example/gapweave/gapweave/AggregateFunction$Accumulator", "add", "(Ljava/lang/Object;Ljava/lang/Object;)V"⟩ : MethodName)) (c_ma21 l Z a0 hw b_38 lg2 lg1 T54.heap n0 (Nat.le_trans Z0 K56.1) f57 p54_0 p54_1 p54_2 f58 f59 g_b_38) X54 hx hH rfl hown (wd hw 49 rfl) (wd hw 50 rfl) (wd hw 51 rfl) (wd hw 52 rfl) (wd hw 53 rfl) (wd hw 54 rfl) (wd hw 55 rfl) (wd hw 56 rfl) (wd hw 42 rfl) (wd hw 57 rfl) (by decide) f57 pd_401 (g := (mkF m 101 #[iv kx, iv (0 : Int32), rv fA, rv lg1, rv lg2, rv lg0, rv lg1, rv lg2, rv b_14, rv b_38, un] [(.ref lg1), (.ref lg2), (.ref b_38)])) rfl (by rw [hml]; rfl) (argsL := [(.ref lg2), (.ref lg1)]) (rest := []) rfl rfl rfl (W := 0) (by show 2 * 0 + _ ≤ _; exact Nat.le_of_eq rfl) (by decide) (by decide) (hb hby at_101) (by decide) (by decide)
  obtain ⟨rfl, N60q, K60q, p60_0, p60_1, p60_2⟩ := q60
  have N61 := Fr.app N55 N60q
  refine Wlk.of (fun _ k => st60 _ k) ?_
  have K62 : Keep h0 T60.heap [] := K56.trans K60q (allS (Or.inr sz_b_38) all0)
  show Wlk p.tables e below (T60.setTop (mkF m 106 #[iv kx, iv (0 : Int32), rv fA, rv lg1, rv lg2, rv lg0, rv lg1, rv lg2, rv b_14, rv b_38, un] [])) K
  refine Wlk.of (fun _ k => XS.aload X60.here hx rfl (hb hby at_106) rfl rfl k) ?_
  show Wlk p.tables e below (T60.setTop (mkF m 108 #[iv kx, iv (0 : Int32), rv fA, rv lg1, rv lg2, rv lg0, rv lg1, rv lg2, rv b_14, rv b_38, un] [(.ref b_14)])) K
  have f63 : Exa Z T60.heap b_14 "com/example/gapweave/gapweave/AggregateFunction$IntegerMean" := (((f41.keep K38q).keep K54q).keep K60q)
  have f64 : Fld Z T60.heap b_14 "com/example/gapweave/gapweave/AggregateFunction$IntegerMean" "count" "J" (.long (2 : Int64)) := (((p30_0.keep K38q nin0).keep K54q (ninS ne40 nin0)).keep K60q (ninS ne40 nin0))
  have f65 : Fld Z T60.heap b_14 "com/example/gapweave/gapweave/AggregateFunction$IntegerMean" "bigSum" "Ljava/math/BigInteger;" .null := (((p30_1.keep K38q nin0).keep K54q (ninS ne40 nin0)).keep K60q (ninS ne40 nin0))
  have f66 : Fld Z T60.heap b_14 "com/example/gapweave/gapweave/AggregateFunction$IntegerMean" "sum" "J" (.long (1 : Int64)) := (((p30_2.keep K38q nin0).keep K54q (ninS ne40 nin0)).keep K60q (ninS ne40 nin0))
  obtain ⟨v67, T67, L67, X67, q67, st67⟩ := Ctr.iface (xi := (⟨"com/example/gapweave/gapweave/AggregateFunction$Accumulator", "result", "()Ljava/lang/Object;"⟩ : MethodName)) (c_mr1 l Z a0 hw b_14 T60.heap n0 (Nat.le_trans Z0 K62.1) f63 f64 f65 f66) X60 hx hH rfl hown (wd hw 77 rfl) (wd hw 78 rfl) (wd hw 79 rfl) (wd hw 80 rfl) (wd hw 81 rfl) (wd hw 82 rfl) (wd hw 83 rfl) (wd hw 56 rfl) (wd hw 42 rfl) (wd hw 84 rfl) (by decide) f63 pd_402 (g := (mkF m 108 #[iv kx, iv (0 : Int32), rv fA, rv lg1, rv lg2, rv lg0, rv lg1, rv lg2, rv b_14, rv b_38, un] [(.ref b_14)])) rfl (by rw [hml]; rfl) (argsL := []) (rest := []) rfl rfl rfl (W := 0) (by show 2 * 0 + _ ≤ _; exact Nat.le_of_eq rfl) (by decide) (by decide) (hb hby at_108) (by decide) (by decide)
  obtain ⟨r_67, rfl, N67q, K67q, p67_0, p67_1, p67_2⟩ := q67
  have N68 := Fr.app N61 N67q
  refine Wlk.of (fun _ k => st67 _ k) ?_
  have ne69 : b_14 ≠ r_67 := Nat.ne_of_lt (Nat.lt_of_lt_of_le f63.lt p67_0)
  have f71 : Exa Z T60.heap b_38 "com/example/gapweave/gapweave/AggregateFunction$IntegerMean" := (f57.keep K60q)
  have ne70 : b_38 ≠ r_67 := Nat.ne_of_lt (Nat.lt_of_lt_of_le f71.lt p67_0)
  have f73 : Arl Z T60.heap ca (.object "java/lang/Long") vsC := (((f43.keep K38q nin0).keep K54q (ninS ne42 nin0)).keep K60q (ninS ne42 nin0))
  have ne72 : ca ≠ r_67 := Nat.ne_of_lt (Nat.lt_of_lt_of_le f73.lt p67_0)
  have f75 : Exa Z T60.heap fA "com/example/gapweave/gapweave/AggregateFunction" := (((f35.keep K38q).keep K54q).keep K60q)
  have ne74 : fA ≠ r_67 := Nat.ne_of_lt (Nat.lt_of_lt_of_le f75.lt p67_0)
  have f77 : Exa Z T60.heap lg0 "java/lang/Long" := (((f46.keep K38q).keep K54q).keep K60q)
  have ne76 : lg0 ≠ r_67 := Nat.ne_of_lt (Nat.lt_of_lt_of_le f77.lt p67_0)
  have f79 : Exa Z T60.heap lg1 "java/lang/Long" := (f58.keep K60q)
  have ne78 : lg1 ≠ r_67 := Nat.ne_of_lt (Nat.lt_of_lt_of_le f79.lt p67_0)
  have f81 : Exa Z T60.heap lg2 "java/lang/Long" := ((f52.keep K54q).keep K60q)
  have ne80 : lg2 ≠ r_67 := Nat.ne_of_lt (Nat.lt_of_lt_of_le f81.lt p67_0)
  have sz_r_67 : h0.size ≤ r_67 := Nat.le_trans K62.1 p67_0
  have g_r_67 : n0 ≤ r_67 := Nat.le_trans Z0 sz_r_67
  have K82 : Keep h0 T67.heap [] := K62.trans K67q all0
  show Wlk p.tables e below (T67.setTop (mkF m 113 #[iv kx, iv (0 : Int32), rv fA, rv lg1, rv lg2, rv lg0, rv lg1, rv lg2, rv b_14, rv b_38, un] [(.ref r_67)])) K
  refine Wlk.of (fun _ k => XS.aload X67.here hx rfl (hb hby at_113) rfl rfl k) ?_
  show Wlk p.tables e below (T67.setTop (mkF m 115 #[iv kx, iv (0 : Int32), rv fA, rv lg1, rv lg2, rv lg0, rv lg1, rv lg2, rv b_14, rv b_38, un] [(.ref b_38), (.ref r_67)])) K
  have f83 : Exa Z T67.heap b_38 "com/example/gapweave/gapweave/AggregateFunction$IntegerMean" := (f71.keep K67q)
  have f84 : Fld Z T67.heap b_38 "com/example/gapweave/gapweave/AggregateFunction$IntegerMean" "count" "J" (.long (2 : Int64)) := (p60_0.keep K67q nin0)
  have f85 : Fld Z T67.heap b_38 "com/example/gapweave/gapweave/AggregateFunction$IntegerMean" "bigSum" "Ljava/math/BigInteger;" .null := (p60_1.keep K67q nin0)
  have f86 : Fld Z T67.heap b_38 "com/example/gapweave/gapweave/AggregateFunction$IntegerMean" "sum" "J" (.long (3 : Int64)) := (p60_2.keep K67q nin0)
  obtain ⟨v87, T87, L87, X87, q87, st87⟩ := Ctr.iface (xi := (⟨"com/example/gapweave/gapweave/AggregateFunction$Accumulator", "result", "()Ljava/lang/Object;"⟩ : MethodName)) (c_mr3 l Z a0 hw b_38 T67.heap n0 (Nat.le_trans Z0 K82.1) f83 f84 f85 f86) X67 hx hH rfl hown (wd hw 77 rfl) (wd hw 78 rfl) (wd hw 79 rfl) (wd hw 80 rfl) (wd hw 81 rfl) (wd hw 82 rfl) (wd hw 83 rfl) (wd hw 56 rfl) (wd hw 42 rfl) (wd hw 84 rfl) (by decide) f83 pd_402 (g := (mkF m 115 #[iv kx, iv (0 : Int32), rv fA, rv lg1, rv lg2, rv lg0, rv lg1, rv lg2, rv b_14, rv b_38, un] [(.ref b_38), (.ref r_67)])) rfl (by rw [hml]; rfl) (argsL := []) (rest := [(.ref r_67)]) rfl rfl rfl (W := 1) (by show 2 * 0 + _ ≤ _; exact Nat.le_of_eq rfl) (by decide) (by decide) (hb hby at_115) (by decide) (by decide)
  obtain ⟨r_87, rfl, N87q, K87q, p87_0, p87_1, p87_2⟩ := q87
  have N88 := Fr.app N68 N87q
  refine Wlk.of (fun _ k => st87 _ k) ?_
  have f90 : Exa Z T67.heap b_14 "com/example/gapweave/gapweave/AggregateFunction$IntegerMean" := (f63.keep K67q)
  have ne89 : b_14 ≠ r_87 := Nat.ne_of_lt (Nat.lt_of_lt_of_le f90.lt p87_0)
  have ne91 : b_38 ≠ r_87 := Nat.ne_of_lt (Nat.lt_of_lt_of_le f83.lt p87_0)
  have f93 : Arl Z T67.heap ca (.object "java/lang/Long") vsC := (f73.keep K67q nin0)
  have ne92 : ca ≠ r_87 := Nat.ne_of_lt (Nat.lt_of_lt_of_le f93.lt p87_0)
  have f95 : Exa Z T67.heap fA "com/example/gapweave/gapweave/AggregateFunction" := (f75.keep K67q)
  have ne94 : fA ≠ r_87 := Nat.ne_of_lt (Nat.lt_of_lt_of_le f95.lt p87_0)
  have f97 : Exa Z T67.heap lg0 "java/lang/Long" := (f77.keep K67q)
  have ne96 : lg0 ≠ r_87 := Nat.ne_of_lt (Nat.lt_of_lt_of_le f97.lt p87_0)
  have f99 : Exa Z T67.heap lg1 "java/lang/Long" := (f79.keep K67q)
  have ne98 : lg1 ≠ r_87 := Nat.ne_of_lt (Nat.lt_of_lt_of_le f99.lt p87_0)
  have f101 : Exa Z T67.heap lg2 "java/lang/Long" := (f81.keep K67q)
  have ne100 : lg2 ≠ r_87 := Nat.ne_of_lt (Nat.lt_of_lt_of_le f101.lt p87_0)
  have ne102 : r_67 ≠ r_87 := Nat.ne_of_lt (Nat.lt_of_lt_of_le p67_1.lt p87_0)
  have sz_r_87 : h0.size ≤ r_87 := Nat.le_trans K82.1 p87_0
  have g_r_87 : n0 ≤ r_87 := Nat.le_trans Z0 sz_r_87
  have K103 : Keep h0 T87.heap [] := K82.trans K87q all0
  show Wlk p.tables e below (T87.setTop (mkF m 120 #[iv kx, iv (0 : Int32), rv fA, rv lg1, rv lg2, rv lg0, rv lg1, rv lg2, rv b_14, rv b_38, un] [(.ref r_87), (.ref r_67)])) K
  have f104 : Exa Z T87.heap r_67 "java/lang/Double" := (p67_1.keep K87q)
  have f105 : Fld Z T87.heap r_67 "java/lang/Double" "value" "D" (.double (FP.ddiv (FP.l2d (1 : Int64)) (FP.l2d (2 : Int64)))) := (p67_2.keep K87q nin0)
  obtain ⟨v106, T106, L106, X106, q106, st106⟩ := Ctr.static (c_sD l Z a0 hw r_67 r_87 T87.heap n0 (Nat.le_trans Z0 K103.1) f104 f105 p87_1 p87_2 ne102) X87 hx hH rfl hown (wd hw 108 rfl) (wd hw 109 rfl) (wd hw 3 rfl) (wd hw 110 rfl) (by decide) pd_403 (g := (mkF m 120 #[iv kx, iv (0 : Int32), rv fA, rv lg1, rv lg2, rv lg0, rv lg1, rv lg2, rv b_14, rv b_38, un] [(.ref r_87), (.ref r_67)])) rfl (by rw [hml]; rfl) (argsL := [(.ref r_67), (.ref r_87)]) (rest := []) rfl rfl rfl (W := 0) (by show 2 * 0 + _ ≤ _; exact Nat.le_of_eq rfl) (by decide) (by decide) (hb hby at_120) (by decide) (by decide)
  obtain ⟨rfl, N106q, hh106⟩ := q106
  have N107 := Fr.app N88 N106q
  refine Wlk.of (fun _ k => st106 _ k) ?_
  show Wlk p.tables e below (T106.setTop (mkF m 123 #[iv kx, iv (0 : Int32), rv fA, rv lg1, rv lg2, rv lg0, rv lg1, rv lg2, rv b_14, rv b_38, un] [(.int (0 : Int32))])) K
  refine Wlk.of (fun _ k => XS.ifNo X106.here hx rfl (hb hby at_123) rfl ((if0 _ _).trans (teq (by decide : (0 : Int32) = (0 : Int32))).2) k) ?_
  show Wlk p.tables e below (T106.setTop (mkF m 126 #[iv kx, iv (0 : Int32), rv fA, rv lg1, rv lg2, rv lg0, rv lg1, rv lg2, rv b_14, rv b_38, un] [])) K
  refine Wlk.of (fun _ k => XS.iconst X106.here hx rfl (hb hby at_126) k) ?_
  show Wlk p.tables e below (T106.setTop (mkF m 127 #[iv kx, iv (0 : Int32), rv fA, rv lg1, rv lg2, rv lg0, rv lg1, rv lg2, rv b_14, rv b_38, un] [(.int (1 : Int32))])) K
  refine Wlk.of (fun _ k => XS.goto X106.here hx rfl (pc0 := 127) (pc' := 131) rfl (hb hby at_127) (by decide) (by decide) k) ?_
  show Wlk p.tables e below (T106.setTop (mkF m 131 #[iv kx, iv (0 : Int32), rv fA, rv lg1, rv lg2, rv lg0, rv lg1, rv lg2, rv b_14, rv b_38, un] [(.int (1 : Int32))])) K
  refine Wlk.of (fun _ k => XS.istore X106.here hx rfl (hb hby at_131) rfl (l' := #[iv kx, iv (0 : Int32), rv fA, rv lg1, rv lg2, rv lg0, rv lg1, rv lg2, rv b_14, rv b_38, iv (1 : Int32)]) rfl k) ?_
  show Wlk p.tables e below (T106.setTop (mkF m 133 #[iv kx, iv (0 : Int32), rv fA, rv lg1, rv lg2, rv lg0, rv lg1, rv lg2, rv b_14, rv b_38, iv (1 : Int32)] [])) K
  refine Wlk.of (fun _ k => XS.aloadN X106.here hx rfl (hb hby at_133) rfl rfl k) ?_
  show Wlk p.tables e below (T106.setTop (mkF m 134 #[iv kx, iv (0 : Int32), rv fA, rv lg1, rv lg2, rv lg0, rv lg1, rv lg2, rv b_14, rv b_38, iv (1 : Int32)] [(.ref fA)])) K
  have f108 : Sta Z T87.heap "com/example/gapweave/gapweave/AggregateFunction" "AVG" "Lcom/example/gapweave/gapweave/AggregateFunction;" (.ref fA) := (own_staKeep (own_staKeep (own_staKeep (own_staKeep (own_staKeep (own_staKeep (own_staKeep (own_staKeep S_AVG K14q own_all0) K24q (own_allS (NSt.of p14_1) own_all0)) K30q (own_allS (NSt.of f27) own_all0)) K38q own_all0) K54q (own_allS (NSt.of p38_1) own_all0)) K60q (own_allS (NSt.of f57) own_all0)) K67q own_all0) K87q own_all0)
  have f109 : Exa Z T87.heap fA "com/example/gapweave/gapweave/AggregateFunction" := (f95.keep K87q)
  obtain ⟨v110, T110, L110, X110, q110, st110⟩ := Ctr.virtual (y := (⟨"com/example/gapweave/gapweave/AggregateFunction", "readsValues", "()Z"⟩ : MethodName)) (c_rv0 l Z a0 hw fA T87.heap n0 (Nat.le_trans Z0 K103.1) f108) X106 hx hH hh106 hown (wd hw 121 rfl) (wd hw 122 rfl) (notFace_of_selects (args := #[]) (mvT hZ (wd hw 124 rfl))) (wd hw 124 rfl) (wd hw 123 rfl) (wd hw 6 rfl) (wd hw 125 rfl) (by decide) f109 pd_404 (g := (mkF m 134 #[iv kx, iv (0 : Int32), rv fA, rv lg1, rv lg2, rv lg0, rv lg1, rv lg2, rv b_14, rv b_38, iv (1 : Int32)] [(.ref fA)])) rfl (by rw [hml]; rfl) (argsL := []) (rest := []) rfl rfl rfl (W := 0) (by show 2 * 0 + _ ≤ _; exact Nat.le_of_eq rfl) (by decide) (by decide) (hb hby at_134) (by decide) (by decide)
  obtain ⟨rfl, N110q, hh110⟩ := q110
  have N111 := Fr.app N107 N110q
  refine Wlk.of (fun _ k => st110 _ k) ?_
  show Wlk p.tables e below (T110.setTop (mkF m 137 #[iv kx, iv (0 : Int32), rv fA, rv lg1, rv lg2, rv lg0, rv lg1, rv lg2, rv b_14, rv b_38, iv (1 : Int32)] [(.int (1 : Int32))])) K
  refine Wlk.of (fun _ k => XS.iload X110.here hx rfl (hb hby at_137) rfl k) ?_
  show Wlk p.tables e below (T110.setTop (mkF m 139 #[iv kx, iv (0 : Int32), rv fA, rv lg1, rv lg2, rv lg0, rv lg1, rv lg2, rv b_14, rv b_38, iv (1 : Int32)] [(.int (1 : Int32)), (.int (1 : Int32))])) K
  refine Wlk.of (fun _ k => XS.icmpNo X110.here hx rfl (hb hby at_139) rfl (teq (by decide : (1 : Int32) = (1 : Int32))).2 k) ?_
  show Wlk p.tables e below (T110.setTop (mkF m 142 #[iv kx, iv (0 : Int32), rv fA, rv lg1, rv lg2, rv lg0, rv lg1, rv lg2, rv b_14, rv b_38, iv (1 : Int32)] [])) K
  refine Wlk.of (fun _ k => XS.iconst X110.here hx rfl (hb hby at_142) k) ?_
  show Wlk p.tables e below (T110.setTop (mkF m 143 #[iv kx, iv (0 : Int32), rv fA, rv lg1, rv lg2, rv lg0, rv lg1, rv lg2, rv b_14, rv b_38, iv (1 : Int32)] [(.int (1 : Int32))])) K
  refine Wlk.of (fun _ k => XS.goto X110.here hx rfl (pc0 := 143) (pc' := 147) rfl (hb hby at_143) (by decide) (by decide) k) ?_
  show Wlk p.tables e below (T110.setTop (mkF m 147 #[iv kx, iv (0 : Int32), rv fA, rv lg1, rv lg2, rv lg0, rv lg1, rv lg2, rv b_14, rv b_38, iv (1 : Int32)] [(.int (1 : Int32))])) K
  refine hK (some (.int (1 : Int32))) X110 (fun q => by cases q) (fun fs hr => retN X110 hx (t := .boolean) hret (by simp) (hb hby at_147) hr) ?_ (by decide) (by decide)
  rw [show T110.heap = T87.heap from hh110]
  exact ⟨rfl, N111, K103⟩
theorem ef_c_law1 (m : MethodId) (kx : Int32) : entryFrame m #[(.int kx)] maxLocals = mkF m 0 #[iv kx, un, un, un, un, un, un, un, un, un, un] [] := by first | (simp [entryFrame, mkF, argsToLocals, Value.category, maxLocals]; done) | rfl
def Q_c_law1 (Z : State) (kx : Int32) (fS : Addr) (fA : Addr) (i64 : Addr) (ca : Addr) (vsC : (List Value)) (lg0 : Addr) (lg1 : Addr) (lg2 : Addr) (lg3 : Addr) (i32 : Addr) (h0 : Heap) (n0 : Nat) (v : Option Value) (h : Heap) (L : List Loc) : Prop := v = (some (.int (1 : Int32))) ∧ Fr n0 L ∧ Keep h0 h []
set_option maxRecDepth 65536 in
set_option maxHeartbeats 40000000 in
theorem c_law1 (l : Launch) (Z : State) (a0 : Array Value) (hw : ∀ d ∈ tables_1, d.before a0 Z = true) (ws : List Jvm.Cond) (kx : Int32) (fS : Addr) (fA : Addr) (i64 : Addr) (ca : Addr) (vsC : (List Value)) (lg0 : Addr) (lg1 : Addr) (lg2 : Addr) (lg3 : Addr) (i32 : Addr) (h0 : Heap) (n0 : Nat) (Z0 : n0 ≤ h0.size) (hi : (kx &&& (2147483647 : Int32)) % (7 : Int32) = (1 : Int32)) (S_AVG : Sta Z h0 "com/example/gapweave/gapweave/AggregateFunction" "AVG" "Lcom/example/gapweave/gapweave/AggregateFunction;" (.ref fA)) (S_SUM : Sta Z h0 "com/example/gapweave/gapweave/AggregateFunction" "SUM" "Lcom/example/gapweave/gapweave/AggregateFunction;" (.ref fS)) (E_fS : Exa Z h0 fS "com/example/gapweave/gapweave/AggregateFunction") (F_fS_ordinal : Fld Z h0 fS "java/lang/Enum" "ordinal" "I" (.int (1 : Int32))) (ne_fS_fA : fS ≠ fA) (S_INT64 : Sta Z h0 "com/example/gapweave/gapweave/ColumnType" "INT64" "Lcom/example/gapweave/gapweave/ColumnType;" (.ref i64)) (S_cache : Sta Z h0 "java/lang/Long$LongCache" "cache" "[Ljava/lang/Long;" (.ref ca)) (A_ca : Arl Z h0 ca (.object "java/lang/Long") vsC) (hC0 : vsC[128]? = some (.ref lg0)) (hC1 : vsC[129]? = some (.ref lg1)) (hC2 : vsC[130]? = some (.ref lg2)) (hC3 : vsC[131]? = some (.ref lg3)) (E_lg0 : Exa Z h0 lg0 "java/lang/Long") (F_lg0_value : Fld Z h0 lg0 "java/lang/Long" "value" "J" (.long (0 : Int64))) (E_lg1 : Exa Z h0 lg1 "java/lang/Long") (F_lg1_value : Fld Z h0 lg1 "java/lang/Long" "value" "J" (.long (1 : Int64))) (E_lg2 : Exa Z h0 lg2 "java/lang/Long") (F_lg2_value : Fld Z h0 lg2 "java/lang/Long" "value" "J" (.long (2 : Int64))) (E_lg3 : Exa Z h0 lg3 "java/lang/Long") (F_lg3_value : Fld Z h0 lg3 "java/lang/Long" "value" "J" (.long (3 : Int64))) (S_INT32 : Sta Z h0 "com/example/gapweave/gapweave/ColumnType" "INT32" "Lcom/example/gapweave/gapweave/ColumnType;" (.ref i32)) (ne_i64_i32 : i64 ≠ i32) (ne_lg1_lg3 : lg1 ≠ lg3) :
    Ctr l Z h0 x code maxLocals ret ws room_1 #[(.int kx)] (Q_c_law1 Z kx fS fA i64 ca vsC lg0 lg1 lg2 lg3 i32 h0 n0) := by
  refine Ctr.make (plainFor_of_name pn_250) fun p e s m below meth c s₁ K hret hml hx hby hown hnm hnamed hH hZ X0 e0 hK => ?_
  have hown : s.vm.findClass "com/example/gapweave/gapweave/AggregateFunctionReadsValuesPinLaw" = some m.cls := hown
  have hml : c.maxLocals = 11 := hml
  have N0 := Fr.nil n0
  have K0 : Keep h0 h0 [] := Keep.refl _ _
  refine Wlk.of (fun _ k => castTop (ef_c_law1 m kx) k) ?_
  show Wlk p.tables e below (s₁.setTop (mkF m 0 #[iv kx, un, un, un, un, un, un, un, un, un, un] [])) K
  refine Wlk.of (fun _ k => XS.iloadN X0.here hx rfl (hb hby at_0) rfl k) ?_
  show Wlk p.tables e below (s₁.setTop (mkF m 1 #[iv kx, un, un, un, un, un, un, un, un, un, un] [(.int kx)])) K
  refine Wlk.of (fun _ k => X0.ldcInt hx hown (mvT hZ (wd hw 0 rfl)) (g := (mkF m 1 #[iv kx, un, un, un, un, un, un, un, un, un, un] [(.int kx)])) rfl (hb hby at_1) _ k) ?_
  show Wlk p.tables e below (s₁.setTop (mkF m 3 #[iv kx, un, un, un, un, un, un, un, un, un, un] [(.int (2147483647 : Int32)), (.int kx)])) K
  refine Wlk.of (fun _ k => XS.iand X0.here hx rfl (hb hby at_3) rfl k) ?_
  show Wlk p.tables e below (s₁.setTop (mkF m 4 #[iv kx, un, un, un, un, un, un, un, un, un, un] [(.int (kx &&& (2147483647 : Int32)))])) K
  refine Wlk.of (fun _ k => XS.bipush X0.here hx rfl (hb hby at_4) k) ?_
  show Wlk p.tables e below (s₁.setTop (mkF m 6 #[iv kx, un, un, un, un, un, un, un, un, un, un] [(.int (7 : Int32)), (.int (kx &&& (2147483647 : Int32)))])) K
  refine Wlk.of (fun _ k => iremM X0 hx rfl (hb hby at_6) rfl (by decide) k) ?_
  show Wlk p.tables e below (s₁.setTop (mkF m 7 #[iv kx, un, un, un, un, un, un, un, un, un, un] [(.int ((kx &&& (2147483647 : Int32)) % (7 : Int32)))])) K
  rw [hi]
  refine Wlk.of (fun _ k => XS.istoreN X0.here hx rfl (hb hby at_7) rfl (l' := #[iv kx, iv (1 : Int32), un, un, un, un, un, un, un, un, un]) rfl k) ?_
  show Wlk p.tables e below (s₁.setTop (mkF m 8 #[iv kx, iv (1 : Int32), un, un, un, un, un, un, un, un, un] [])) K
  refine Wlk.of (fun _ k => XS.iloadN X0.here hx rfl (hb hby at_8) rfl k) ?_
  show Wlk p.tables e below (s₁.setTop (mkF m 9 #[iv kx, iv (1 : Int32), un, un, un, un, un, un, un, un, un] [(.int (1 : Int32))])) K
  obtain ⟨v1, T1, L1, X1, q1, st1⟩ := Ctr.static (c_pick1 l Z a0 hw fS h0 n0 (Nat.le_trans Z0 K0.1) S_SUM) X0 hx hH e0 hown (wd hw 1 rfl) (wd hw 2 rfl) (wd hw 3 rfl) (wd hw 4 rfl) (by decide) pd_399 (g := (mkF m 9 #[iv kx, iv (1 : Int32), un, un, un, un, un, un, un, un, un] [(.int (1 : Int32))])) rfl (by rw [hml]; rfl) (argsL := [(.int (1 : Int32))]) (rest := []) rfl rfl rfl (W := 0) (by show 2 * 0 + _ ≤ _; exact Nat.le_of_eq rfl) (by decide) (by decide) (hb hby at_9) (by decide) (by decide)
  obtain ⟨rfl, N1q, hh1⟩ := q1
  have N2 := Fr.app N0 N1q
  refine Wlk.of (fun _ k => st1 _ k) ?_
  show Wlk p.tables e below (T1.setTop (mkF m 12 #[iv kx, iv (1 : Int32), un, un, un, un, un, un, un, un, un] [(.ref fS)])) K
  refine Wlk.of (fun _ k => XS.astoreN X1.here hx rfl (hb hby at_12) rfl rfl (l' := #[iv kx, iv (1 : Int32), rv fS, un, un, un, un, un, un, un, un]) rfl k) ?_
  show Wlk p.tables e below (T1.setTop (mkF m 13 #[iv kx, iv (1 : Int32), rv fS, un, un, un, un, un, un, un, un] [])) K
  refine Wlk.of (fun _ k => XS.lconst X1.here hx rfl (hb hby at_13) k) ?_
  show Wlk p.tables e below (T1.setTop (mkF m 14 #[iv kx, iv (1 : Int32), rv fS, un, un, un, un, un, un, un, un] [(.long (1 : Int64))])) K
  obtain ⟨v3, T3, L3, X3, q3, st3⟩ := Ctr.static (c_vo1 l Z a0 hw ca vsC lg1 h0 n0 (Nat.le_trans Z0 K0.1) S_cache A_ca hC1) X1 hx hH hh1 hown (wd hw 8 rfl) (wd hw 9 rfl) (wd hw 10 rfl) (wd hw 11 rfl) (by decide) pd_174 (g := (mkF m 14 #[iv kx, iv (1 : Int32), rv fS, un, un, un, un, un, un, un, un] [(.long (1 : Int64))])) rfl (by rw [hml]; rfl) (argsL := [(.long (1 : Int64))]) (rest := []) rfl rfl rfl (W := 0) (by show 2 * 0 + _ ≤ _; exact Nat.le_of_eq rfl) (by decide) (by decide) (hb hby at_14) (by decide) (by decide)
  obtain ⟨rfl, N3q, hh3⟩ := q3
  have N4 := Fr.app N2 N3q
  refine Wlk.of (fun _ k => st3 _ k) ?_
  show Wlk p.tables e below (T3.setTop (mkF m 17 #[iv kx, iv (1 : Int32), rv fS, un, un, un, un, un, un, un, un] [(.ref lg1)])) K
  refine Wlk.of (fun _ k => XS.astoreN X3.here hx rfl (hb hby at_17) rfl rfl (l' := #[iv kx, iv (1 : Int32), rv fS, rv lg1, un, un, un, un, un, un, un]) rfl k) ?_
  show Wlk p.tables e below (T3.setTop (mkF m 18 #[iv kx, iv (1 : Int32), rv fS, rv lg1, un, un, un, un, un, un, un] [])) K
  refine Wlk.of (fun _ k => X3.ldc2Long hx hown (mvT hZ (wd hw 16 rfl)) (g := (mkF m 18 #[iv kx, iv (1 : Int32), rv fS, rv lg1, un, un, un, un, un, un, un] [])) rfl (hb hby at_18) _ k) ?_
  show Wlk p.tables e below (T3.setTop (mkF m 21 #[iv kx, iv (1 : Int32), rv fS, rv lg1, un, un, un, un, un, un, un] [(.long (2 : Int64))])) K
  obtain ⟨v5, T5, L5, X5, q5, st5⟩ := Ctr.static (c_vo2 l Z a0 hw ca vsC lg2 h0 n0 (Nat.le_trans Z0 K0.1) S_cache A_ca hC2) X3 hx hH hh3 hown (wd hw 8 rfl) (wd hw 9 rfl) (wd hw 10 rfl) (wd hw 11 rfl) (by decide) pd_174 (g := (mkF m 21 #[iv kx, iv (1 : Int32), rv fS, rv lg1, un, un, un, un, un, un, un] [(.long (2 : Int64))])) rfl (by rw [hml]; rfl) (argsL := [(.long (2 : Int64))]) (rest := []) rfl rfl rfl (W := 0) (by show 2 * 0 + _ ≤ _; exact Nat.le_of_eq rfl) (by decide) (by decide) (hb hby at_21) (by decide) (by decide)
  obtain ⟨rfl, N5q, hh5⟩ := q5
  have N6 := Fr.app N4 N5q
  refine Wlk.of (fun _ k => st5 _ k) ?_
  show Wlk p.tables e below (T5.setTop (mkF m 24 #[iv kx, iv (1 : Int32), rv fS, rv lg1, un, un, un, un, un, un, un] [(.ref lg2)])) K
  refine Wlk.of (fun _ k => XS.astore X5.here hx rfl (hb hby at_24) rfl rfl (l' := #[iv kx, iv (1 : Int32), rv fS, rv lg1, rv lg2, un, un, un, un, un, un]) rfl k) ?_
  show Wlk p.tables e below (T5.setTop (mkF m 26 #[iv kx, iv (1 : Int32), rv fS, rv lg1, rv lg2, un, un, un, un, un, un] [])) K
  refine Wlk.of (fun _ k => XS.lconst X5.here hx rfl (hb hby at_26) k) ?_
  show Wlk p.tables e below (T5.setTop (mkF m 27 #[iv kx, iv (1 : Int32), rv fS, rv lg1, rv lg2, un, un, un, un, un, un] [(.long (0 : Int64))])) K
  obtain ⟨v7, T7, L7, X7, q7, st7⟩ := Ctr.static (c_vo0 l Z a0 hw ca vsC lg0 h0 n0 (Nat.le_trans Z0 K0.1) S_cache A_ca hC0) X5 hx hH hh5 hown (wd hw 8 rfl) (wd hw 9 rfl) (wd hw 10 rfl) (wd hw 11 rfl) (by decide) pd_174 (g := (mkF m 27 #[iv kx, iv (1 : Int32), rv fS, rv lg1, rv lg2, un, un, un, un, un, un] [(.long (0 : Int64))])) rfl (by rw [hml]; rfl) (argsL := [(.long (0 : Int64))]) (rest := []) rfl rfl rfl (W := 0) (by show 2 * 0 + _ ≤ _; exact Nat.le_of_eq rfl) (by decide) (by decide) (hb hby at_27) (by decide) (by decide)
  obtain ⟨rfl, N7q, hh7⟩ := q7
  have N8 := Fr.app N6 N7q
  refine Wlk.of (fun _ k => st7 _ k) ?_
  show Wlk p.tables e below (T7.setTop (mkF m 30 #[iv kx, iv (1 : Int32), rv fS, rv lg1, rv lg2, un, un, un, un, un, un] [(.ref lg0)])) K
  refine Wlk.of (fun _ k => XS.astore X7.here hx rfl (hb hby at_30) rfl rfl (l' := #[iv kx, iv (1 : Int32), rv fS, rv lg1, rv lg2, rv lg0, un, un, un, un, un]) rfl k) ?_
  show Wlk p.tables e below (T7.setTop (mkF m 32 #[iv kx, iv (1 : Int32), rv fS, rv lg1, rv lg2, rv lg0, un, un, un, un, un] [])) K
  refine Wlk.of (fun _ k => XS.lconst X7.here hx rfl (hb hby at_32) k) ?_
  show Wlk p.tables e below (T7.setTop (mkF m 33 #[iv kx, iv (1 : Int32), rv fS, rv lg1, rv lg2, rv lg0, un, un, un, un, un] [(.long (1 : Int64))])) K
  obtain ⟨v9, T9, L9, X9, q9, st9⟩ := Ctr.static (c_vo1 l Z a0 hw ca vsC lg1 h0 n0 (Nat.le_trans Z0 K0.1) S_cache A_ca hC1) X7 hx hH hh7 hown (wd hw 8 rfl) (wd hw 9 rfl) (wd hw 10 rfl) (wd hw 11 rfl) (by decide) pd_174 (g := (mkF m 33 #[iv kx, iv (1 : Int32), rv fS, rv lg1, rv lg2, rv lg0, un, un, un, un, un] [(.long (1 : Int64))])) rfl (by rw [hml]; rfl) (argsL := [(.long (1 : Int64))]) (rest := []) rfl rfl rfl (W := 0) (by show 2 * 0 + _ ≤ _; exact Nat.le_of_eq rfl) (by decide) (by decide) (hb hby at_33) (by decide) (by decide)
  obtain ⟨rfl, N9q, hh9⟩ := q9
  have N10 := Fr.app N8 N9q
  refine Wlk.of (fun _ k => st9 _ k) ?_
  show Wlk p.tables e below (T9.setTop (mkF m 36 #[iv kx, iv (1 : Int32), rv fS, rv lg1, rv lg2, rv lg0, un, un, un, un, un] [(.ref lg1)])) K
  refine Wlk.of (fun _ k => XS.astore X9.here hx rfl (hb hby at_36) rfl rfl (l' := #[iv kx, iv (1 : Int32), rv fS, rv lg1, rv lg2, rv lg0, rv lg1, un, un, un, un]) rfl k) ?_
  show Wlk p.tables e below (T9.setTop (mkF m 38 #[iv kx, iv (1 : Int32), rv fS, rv lg1, rv lg2, rv lg0, rv lg1, un, un, un, un] [])) K
  refine Wlk.of (fun _ k => X9.ldc2Long hx hown (mvT hZ (wd hw 16 rfl)) (g := (mkF m 38 #[iv kx, iv (1 : Int32), rv fS, rv lg1, rv lg2, rv lg0, rv lg1, un, un, un, un] [])) rfl (hb hby at_38) _ k) ?_
  show Wlk p.tables e below (T9.setTop (mkF m 41 #[iv kx, iv (1 : Int32), rv fS, rv lg1, rv lg2, rv lg0, rv lg1, un, un, un, un] [(.long (2 : Int64))])) K
  obtain ⟨v11, T11, L11, X11, q11, st11⟩ := Ctr.static (c_vo2 l Z a0 hw ca vsC lg2 h0 n0 (Nat.le_trans Z0 K0.1) S_cache A_ca hC2) X9 hx hH hh9 hown (wd hw 8 rfl) (wd hw 9 rfl) (wd hw 10 rfl) (wd hw 11 rfl) (by decide) pd_174 (g := (mkF m 41 #[iv kx, iv (1 : Int32), rv fS, rv lg1, rv lg2, rv lg0, rv lg1, un, un, un, un] [(.long (2 : Int64))])) rfl (by rw [hml]; rfl) (argsL := [(.long (2 : Int64))]) (rest := []) rfl rfl rfl (W := 0) (by show 2 * 0 + _ ≤ _; exact Nat.le_of_eq rfl) (by decide) (by decide) (hb hby at_41) (by decide) (by decide)
  obtain ⟨rfl, N11q, hh11⟩ := q11
  have N12 := Fr.app N10 N11q
  refine Wlk.of (fun _ k => st11 _ k) ?_
  show Wlk p.tables e below (T11.setTop (mkF m 44 #[iv kx, iv (1 : Int32), rv fS, rv lg1, rv lg2, rv lg0, rv lg1, un, un, un, un] [(.ref lg2)])) K
  refine Wlk.of (fun _ k => XS.astore X11.here hx rfl (hb hby at_44) rfl rfl (l' := #[iv kx, iv (1 : Int32), rv fS, rv lg1, rv lg2, rv lg0, rv lg1, rv lg2, un, un, un]) rfl k) ?_
  show Wlk p.tables e below (T11.setTop (mkF m 46 #[iv kx, iv (1 : Int32), rv fS, rv lg1, rv lg2, rv lg0, rv lg1, rv lg2, un, un, un] [])) K
  refine Wlk.of (fun _ k => XS.aloadN X11.here hx rfl (hb hby at_46) rfl rfl k) ?_
  show Wlk p.tables e below (T11.setTop (mkF m 47 #[iv kx, iv (1 : Int32), rv fS, rv lg1, rv lg2, rv lg0, rv lg1, rv lg2, un, un, un] [(.ref fS)])) K
  obtain ⟨T13, X13, e13, st13⟩ := getS2 X11 hx hZ hown (host := "") (Or.inl (wd hw 17 rfl)) Via.refl hh11 S_INT64 (g := (mkF m 47 #[iv kx, iv (1 : Int32), rv fS, rv lg1, rv lg2, rv lg0, rv lg1, rv lg2, un, un, un] [(.ref fS)])) rfl (hb hby at_47)
  refine Wlk.of (fun _ k => st13 _ k) ?_
  show Wlk p.tables e below (T13.setTop (mkF m 50 #[iv kx, iv (1 : Int32), rv fS, rv lg1, rv lg2, rv lg0, rv lg1, rv lg2, un, un, un] [(.ref i64), (.ref fS)])) K
  obtain ⟨v14, T14, L14, X14, q14, st14⟩ := Ctr.virtual (y := (⟨"com/example/gapweave/gapweave/AggregateFunction", "start", "(Lcom/example/gapweave/gapweave/ColumnType;)Lcom/example/gapweave/gapweave/AggregateFunction$Accumulator;"⟩ : MethodName)) (c_start1 l Z a0 hw fS i64 i32 h0 n0 (Nat.le_trans Z0 K0.1) E_fS F_fS_ordinal S_INT32 S_INT64 ne_i64_i32) X13 hx hH e13 hown (wd hw 20 rfl) (wd hw 21 rfl) (notFace_of_selects (args := #[]) (mvT hZ (wd hw 23 rfl))) (wd hw 23 rfl) (wd hw 22 rfl) (wd hw 6 rfl) (wd hw 24 rfl) (by decide) E_fS pd_400 (g := (mkF m 50 #[iv kx, iv (1 : Int32), rv fS, rv lg1, rv lg2, rv lg0, rv lg1, rv lg2, un, un, un] [(.ref i64), (.ref fS)])) rfl (by rw [hml]; rfl) (argsL := [(.ref i64)]) (rest := []) rfl rfl rfl (W := 0) (by show 2 * 0 + _ ≤ _; exact Nat.le_of_eq rfl) (by decide) (by decide) (hb hby at_50) (by decide) (by decide)
  obtain ⟨b_14, rfl, N14q, K14q, p14_0, p14_1, p14_2, p14_3⟩ := q14
  have N15 := Fr.app N12 N14q
  refine Wlk.of (fun _ k => st14 _ k) ?_
  have ne16 : ca ≠ b_14 := Nat.ne_of_lt (Nat.lt_of_lt_of_le A_ca.lt p14_0)
  have ne17 : fS ≠ b_14 := Nat.ne_of_lt (Nat.lt_of_lt_of_le E_fS.lt p14_0)
  have ne18 : lg0 ≠ b_14 := Nat.ne_of_lt (Nat.lt_of_lt_of_le E_lg0.lt p14_0)
  have ne19 : lg1 ≠ b_14 := Nat.ne_of_lt (Nat.lt_of_lt_of_le E_lg1.lt p14_0)
  have ne20 : lg2 ≠ b_14 := Nat.ne_of_lt (Nat.lt_of_lt_of_le E_lg2.lt p14_0)
  have ne21 : lg3 ≠ b_14 := Nat.ne_of_lt (Nat.lt_of_lt_of_le E_lg3.lt p14_0)
  have sz_b_14 : h0.size ≤ b_14 := Nat.le_trans K0.1 p14_0
  have g_b_14 : n0 ≤ b_14 := Nat.le_trans Z0 sz_b_14
  have K22 : Keep h0 T14.heap [] := K0.trans K14q all0
  show Wlk p.tables e below (T14.setTop (mkF m 53 #[iv kx, iv (1 : Int32), rv fS, rv lg1, rv lg2, rv lg0, rv lg1, rv lg2, un, un, un] [(.ref b_14)])) K
  refine Wlk.of (fun _ k => XS.astore X14.here hx rfl (hb hby at_53) rfl rfl (l' := #[iv kx, iv (1 : Int32), rv fS, rv lg1, rv lg2, rv lg0, rv lg1, rv lg2, rv b_14, un, un]) rfl k) ?_
  show Wlk p.tables e below (T14.setTop (mkF m 55 #[iv kx, iv (1 : Int32), rv fS, rv lg1, rv lg2, rv lg0, rv lg1, rv lg2, rv b_14, un, un] [])) K
  refine Wlk.of (fun _ k => XS.aload X14.here hx rfl (hb hby at_55) rfl rfl k) ?_
  show Wlk p.tables e below (T14.setTop (mkF m 57 #[iv kx, iv (1 : Int32), rv fS, rv lg1, rv lg2, rv lg0, rv lg1, rv lg2, rv b_14, un, un] [(.ref b_14)])) K
  refine Wlk.of (fun _ k => XS.aloadN X14.here hx rfl (hb hby at_57) rfl rfl k) ?_
  show Wlk p.tables e below (T14.setTop (mkF m 58 #[iv kx, iv (1 : Int32), rv fS, rv lg1, rv lg2, rv lg0, rv lg1, rv lg2, rv b_14, un, un] [(.ref lg1), (.ref b_14)])) K
  refine Wlk.of (fun _ k => XS.aload X14.here hx rfl (hb hby at_58) rfl rfl k) ?_
  show Wlk p.tables e below (T14.setTop (mkF m 60 #[iv kx, iv (1 : Int32), rv fS, rv lg1, rv lg2, rv lg0, rv lg1, rv lg2, rv b_14, un, un] [(.ref lg0), (.ref lg1), (.ref b_14)])) K
  have f23 : Exa Z T14.heap lg0 "java/lang/Long" := (E_lg0.keep K14q)
  have f24 : Fld Z T14.heap lg0 "java/lang/Long" "value" "J" (.long (0 : Int64)) := (F_lg0_value.keep K14q nin0)
  obtain ⟨v25, T25, L25, X25, q25, st25⟩ := Ctr.iface (xi := (⟨"com/example/gapweave/gapweave/AggregateFunction$Accumulator", "add", "(Ljava/lang/Object;Ljava/lang/Object;)V"⟩ : MethodName)) (c_sa000 l Z a0 hw b_14 lg1 lg0 T14.heap n0 (Nat.le_trans Z0 K22.1) p14_1 p14_2 p14_3 f23 f24 g_b_14) X14 hx hH rfl hown (wd hw 49 rfl) (wd hw 50 rfl) (wd hw 51 rfl) (wd hw 263 rfl) (wd hw 264 rfl) (wd hw 265 rfl) (wd hw 266 rfl) (wd hw 267 rfl) (wd hw 258 rfl) (wd hw 268 rfl) (by decide) p14_1 pd_401 (g := (mkF m 60 #[iv kx, iv (1 : Int32), rv fS, rv lg1, rv lg2, rv lg0, rv lg1, rv lg2, rv b_14, un, un] [(.ref lg0), (.ref lg1), (.ref b_14)])) rfl (by rw [hml]; rfl) (argsL := [(.ref lg1), (.ref lg0)]) (rest := []) rfl rfl rfl (W := 0) (by show 2 * 0 + _ ≤ _; exact Nat.le_of_eq rfl) (by decide) (by decide) (hb hby at_60) (by decide) (by decide)
  obtain ⟨rfl, N25q, K25q, p25_0, p25_1⟩ := q25
  have N26 := Fr.app N15 N25q
  refine Wlk.of (fun _ k => st25 _ k) ?_
  have K27 : Keep h0 T25.heap [] := K22.trans K25q (allS (Or.inr sz_b_14) all0)
  show Wlk p.tables e below (T25.setTop (mkF m 65 #[iv kx, iv (1 : Int32), rv fS, rv lg1, rv lg2, rv lg0, rv lg1, rv lg2, rv b_14, un, un] [])) K
  refine Wlk.of (fun _ k => XS.aload X25.here hx rfl (hb hby at_65) rfl rfl k) ?_
  show Wlk p.tables e below (T25.setTop (mkF m 67 #[iv kx, iv (1 : Int32), rv fS, rv lg1, rv lg2, rv lg0, rv lg1, rv lg2, rv b_14, un, un] [(.ref b_14)])) K
  refine Wlk.of (fun _ k => XS.aload X25.here hx rfl (hb hby at_67) rfl rfl k) ?_
  show Wlk p.tables e below (T25.setTop (mkF m 69 #[iv kx, iv (1 : Int32), rv fS, rv lg1, rv lg2, rv lg0, rv lg1, rv lg2, rv b_14, un, un] [(.ref lg2), (.ref b_14)])) K
  refine Wlk.of (fun _ k => XS.aload X25.here hx rfl (hb hby at_69) rfl rfl k) ?_
  show Wlk p.tables e below (T25.setTop (mkF m 71 #[iv kx, iv (1 : Int32), rv fS, rv lg1, rv lg2, rv lg0, rv lg1, rv lg2, rv b_14, un, un] [(.ref lg1), (.ref lg2), (.ref b_14)])) K
  have f28 : Exa Z T25.heap b_14 "com/example/gapweave/gapweave/AggregateFunction$IntegerSum" := (p14_1.keep K25q)
  have f29 : Exa Z T25.heap lg1 "java/lang/Long" := ((E_lg1.keep K14q).keep K25q)
  have f30 : Fld Z T25.heap lg1 "java/lang/Long" "value" "J" (.long (1 : Int64)) := ((F_lg1_value.keep K14q nin0).keep K25q (ninS ne19 nin0))
  obtain ⟨v31, T31, L31, X31, q31, st31⟩ := Ctr.iface (xi := (⟨"com/example/gapweave/gapweave/AggregateFunction$Accumulator", "add", "(Ljava/lang/Object;Ljava/lang/Object;)V"⟩ : MethodName)) (c_sa101 l Z a0 hw b_14 lg2 lg1 T25.heap n0 (Nat.le_trans Z0 K27.1) f28 p25_0 p25_1 f29 f30 g_b_14) X25 hx hH rfl hown (wd hw 49 rfl) (wd hw 50 rfl) (wd hw 51 rfl) (wd hw 263 rfl) (wd hw 264 rfl) (wd hw 265 rfl) (wd hw 266 rfl) (wd hw 267 rfl) (wd hw 258 rfl) (wd hw 268 rfl) (by decide) f28 pd_401 (g := (mkF m 71 #[iv kx, iv (1 : Int32), rv fS, rv lg1, rv lg2, rv lg0, rv lg1, rv lg2, rv b_14, un, un] [(.ref lg1), (.ref lg2), (.ref b_14)])) rfl (by rw [hml]; rfl) (argsL := [(.ref lg2), (.ref lg1)]) (rest := []) rfl rfl rfl (W := 0) (by show 2 * 0 + _ ≤ _; exact Nat.le_of_eq rfl) (by decide) (by decide) (hb hby at_71) (by decide) (by decide)
  obtain ⟨rfl, N31q, K31q, p31_0, p31_1⟩ := q31
  have N32 := Fr.app N26 N31q
  refine Wlk.of (fun _ k => st31 _ k) ?_
  have K33 : Keep h0 T31.heap [] := K27.trans K31q (allS (Or.inr sz_b_14) all0)
  show Wlk p.tables e below (T31.setTop (mkF m 76 #[iv kx, iv (1 : Int32), rv fS, rv lg1, rv lg2, rv lg0, rv lg1, rv lg2, rv b_14, un, un] [])) K
  refine Wlk.of (fun _ k => XS.aloadN X31.here hx rfl (hb hby at_76) rfl rfl k) ?_
  show Wlk p.tables e below (T31.setTop (mkF m 77 #[iv kx, iv (1 : Int32), rv fS, rv lg1, rv lg2, rv lg0, rv lg1, rv lg2, rv b_14, un, un] [(.ref fS)])) K
  have f34 : Sta Z T31.heap "com/example/gapweave/gapweave/ColumnType" "INT64" "Lcom/example/gapweave/gapweave/ColumnType;" (.ref i64) := (own_staKeep (own_staKeep (own_staKeep S_INT64 K14q own_all0) K25q (own_allS (NSt.of p14_1) own_all0)) K31q (own_allS (NSt.of f28) own_all0))
  obtain ⟨T35, X35, e35, st35⟩ := getS2 X31 hx hZ hown (host := "") (Or.inl (wd hw 17 rfl)) Via.refl rfl f34 (g := (mkF m 77 #[iv kx, iv (1 : Int32), rv fS, rv lg1, rv lg2, rv lg0, rv lg1, rv lg2, rv b_14, un, un] [(.ref fS)])) rfl (hb hby at_77)
  refine Wlk.of (fun _ k => st35 _ k) ?_
  show Wlk p.tables e below (T35.setTop (mkF m 80 #[iv kx, iv (1 : Int32), rv fS, rv lg1, rv lg2, rv lg0, rv lg1, rv lg2, rv b_14, un, un] [(.ref i64), (.ref fS)])) K
  have f36 : Exa Z T31.heap fS "com/example/gapweave/gapweave/AggregateFunction" := (((E_fS.keep K14q).keep K25q).keep K31q)
  have f37 : Fld Z T31.heap fS "java/lang/Enum" "ordinal" "I" (.int (1 : Int32)) := (((F_fS_ordinal.keep K14q nin0).keep K25q (ninS ne17 nin0)).keep K31q (ninS ne17 nin0))
  have f38 : Sta Z T31.heap "com/example/gapweave/gapweave/ColumnType" "INT32" "Lcom/example/gapweave/gapweave/ColumnType;" (.ref i32) := (own_staKeep (own_staKeep (own_staKeep S_INT32 K14q own_all0) K25q (own_allS (NSt.of p14_1) own_all0)) K31q (own_allS (NSt.of f28) own_all0))
  obtain ⟨v39, T39, L39, X39, q39, st39⟩ := Ctr.virtual (y := (⟨"com/example/gapweave/gapweave/AggregateFunction", "start", "(Lcom/example/gapweave/gapweave/ColumnType;)Lcom/example/gapweave/gapweave/AggregateFunction$Accumulator;"⟩ : MethodName)) (c_start1 l Z a0 hw fS i64 i32 T31.heap n0 (Nat.le_trans Z0 K33.1) f36 f37 f38 f34 ne_i64_i32) X35 hx hH e35 hown (wd hw 20 rfl) (wd hw 21 rfl) (notFace_of_selects (args := #[]) (mvT hZ (wd hw 23 rfl))) (wd hw 23 rfl) (wd hw 22 rfl) (wd hw 6 rfl) (wd hw 24 rfl) (by decide) f36 pd_400 (g := (mkF m 80 #[iv kx, iv (1 : Int32), rv fS, rv lg1, rv lg2, rv lg0, rv lg1, rv lg2, rv b_14, un, un] [(.ref i64), (.ref fS)])) rfl (by rw [hml]; rfl) (argsL := [(.ref i64)]) (rest := []) rfl rfl rfl (W := 0) (by show 2 * 0 + _ ≤ _; exact Nat.le_of_eq rfl) (by decide) (by decide) (hb hby at_80) (by decide) (by decide)
  obtain ⟨b_39, rfl, N39q, K39q, p39_0, p39_1, p39_2, p39_3⟩ := q39
  have N40 := Fr.app N32 N39q
  refine Wlk.of (fun _ k => st39 _ k) ?_
  have f42 : Exa Z T31.heap b_14 "com/example/gapweave/gapweave/AggregateFunction$IntegerSum" := (f28.keep K31q)
  have ne41 : b_14 ≠ b_39 := Nat.ne_of_lt (Nat.lt_of_lt_of_le f42.lt p39_0)
  have f44 : Arl Z T31.heap ca (.object "java/lang/Long") vsC := (((A_ca.keep K14q nin0).keep K25q (ninS ne16 nin0)).keep K31q (ninS ne16 nin0))
  have ne43 : ca ≠ b_39 := Nat.ne_of_lt (Nat.lt_of_lt_of_le f44.lt p39_0)
  have ne45 : fS ≠ b_39 := Nat.ne_of_lt (Nat.lt_of_lt_of_le f36.lt p39_0)
  have f47 : Exa Z T31.heap lg0 "java/lang/Long" := ((f23.keep K25q).keep K31q)
  have ne46 : lg0 ≠ b_39 := Nat.ne_of_lt (Nat.lt_of_lt_of_le f47.lt p39_0)
  have f49 : Exa Z T31.heap lg1 "java/lang/Long" := (f29.keep K31q)
  have ne48 : lg1 ≠ b_39 := Nat.ne_of_lt (Nat.lt_of_lt_of_le f49.lt p39_0)
  have f51 : Exa Z T31.heap lg2 "java/lang/Long" := (((E_lg2.keep K14q).keep K25q).keep K31q)
  have ne50 : lg2 ≠ b_39 := Nat.ne_of_lt (Nat.lt_of_lt_of_le f51.lt p39_0)
  have f53 : Exa Z T31.heap lg3 "java/lang/Long" := (((E_lg3.keep K14q).keep K25q).keep K31q)
  have ne52 : lg3 ≠ b_39 := Nat.ne_of_lt (Nat.lt_of_lt_of_le f53.lt p39_0)
  have sz_b_39 : h0.size ≤ b_39 := Nat.le_trans K33.1 p39_0
  have g_b_39 : n0 ≤ b_39 := Nat.le_trans Z0 sz_b_39
  have K54 : Keep h0 T39.heap [] := K33.trans K39q all0
  show Wlk p.tables e below (T39.setTop (mkF m 83 #[iv kx, iv (1 : Int32), rv fS, rv lg1, rv lg2, rv lg0, rv lg1, rv lg2, rv b_14, un, un] [(.ref b_39)])) K
  refine Wlk.of (fun _ k => XS.astore X39.here hx rfl (hb hby at_83) rfl rfl (l' := #[iv kx, iv (1 : Int32), rv fS, rv lg1, rv lg2, rv lg0, rv lg1, rv lg2, rv b_14, rv b_39, un]) rfl k) ?_
  show Wlk p.tables e below (T39.setTop (mkF m 85 #[iv kx, iv (1 : Int32), rv fS, rv lg1, rv lg2, rv lg0, rv lg1, rv lg2, rv b_14, rv b_39, un] [])) K
  refine Wlk.of (fun _ k => XS.aload X39.here hx rfl (hb hby at_85) rfl rfl k) ?_
  show Wlk p.tables e below (T39.setTop (mkF m 87 #[iv kx, iv (1 : Int32), rv fS, rv lg1, rv lg2, rv lg0, rv lg1, rv lg2, rv b_14, rv b_39, un] [(.ref b_39)])) K
  refine Wlk.of (fun _ k => XS.aloadN X39.here hx rfl (hb hby at_87) rfl rfl k) ?_
  show Wlk p.tables e below (T39.setTop (mkF m 88 #[iv kx, iv (1 : Int32), rv fS, rv lg1, rv lg2, rv lg0, rv lg1, rv lg2, rv b_14, rv b_39, un] [(.ref lg1), (.ref b_39)])) K
  refine Wlk.of (fun _ k => XS.aload X39.here hx rfl (hb hby at_88) rfl rfl k) ?_
  show Wlk p.tables e below (T39.setTop (mkF m 90 #[iv kx, iv (1 : Int32), rv fS, rv lg1, rv lg2, rv lg0, rv lg1, rv lg2, rv b_14, rv b_39, un] [(.ref lg2), (.ref lg1), (.ref b_39)])) K
  have f55 : Exa Z T39.heap lg2 "java/lang/Long" := (f51.keep K39q)
  have f56 : Fld Z T39.heap lg2 "java/lang/Long" "value" "J" (.long (2 : Int64)) := ((((F_lg2_value.keep K14q nin0).keep K25q (ninS ne20 nin0)).keep K31q (ninS ne20 nin0)).keep K39q nin0)
  obtain ⟨v57, T57, L57, X57, q57, st57⟩ := Ctr.iface (xi := (⟨"com/example/gapweave/gapweave/AggregateFunction$Accumulator", "add", "(Ljava/lang/Object;Ljava/lang/Object;)V"⟩ : MethodName)) (c_sa002 l Z a0 hw b_39 lg1 lg2 T39.heap n0 (Nat.le_trans Z0 K54.1) p39_1 p39_2 p39_3 f55 f56 g_b_39) X39 hx hH rfl hown (wd hw 49 rfl) (wd hw 50 rfl) (wd hw 51 rfl) (wd hw 263 rfl) (wd hw 264 rfl) (wd hw 265 rfl) (wd hw 266 rfl) (wd hw 267 rfl) (wd hw 258 rfl) (wd hw 268 rfl) (by decide) p39_1 pd_401 (g := (mkF m 90 #[iv kx, iv (1 : Int32), rv fS, rv lg1, rv lg2, rv lg0, rv lg1, rv lg2, rv b_14, rv b_39, un] [(.ref lg2), (.ref lg1), (.ref b_39)])) rfl (by rw [hml]; rfl) (argsL := [(.ref lg1), (.ref lg2)]) (rest := []) rfl rfl rfl (W := 0) (by show 2 * 0 + _ ≤ _; exact Nat.le_of_eq rfl) (by decide) (by decide) (hb hby at_90) (by decide) (by decide)
  obtain ⟨rfl, N57q, K57q, p57_0, p57_1⟩ := q57
  have N58 := Fr.app N40 N57q
  refine Wlk.of (fun _ k => st57 _ k) ?_
  have K59 : Keep h0 T57.heap [] := K54.trans K57q (allS (Or.inr sz_b_39) all0)
  show Wlk p.tables e below (T57.setTop (mkF m 95 #[iv kx, iv (1 : Int32), rv fS, rv lg1, rv lg2, rv lg0, rv lg1, rv lg2, rv b_14, rv b_39, un] [])) K
  refine Wlk.of (fun _ k => XS.aload X57.here hx rfl (hb hby at_95) rfl rfl k) ?_
  show Wlk p.tables e below (T57.setTop (mkF m 97 #[iv kx, iv (1 : Int32), rv fS, rv lg1, rv lg2, rv lg0, rv lg1, rv lg2, rv b_14, rv b_39, un] [(.ref b_39)])) K
  refine Wlk.of (fun _ k => XS.aload X57.here hx rfl (hb hby at_97) rfl rfl k) ?_
  show Wlk p.tables e below (T57.setTop (mkF m 99 #[iv kx, iv (1 : Int32), rv fS, rv lg1, rv lg2, rv lg0, rv lg1, rv lg2, rv b_14, rv b_39, un] [(.ref lg2), (.ref b_39)])) K
  refine Wlk.of (fun _ k => XS.aload X57.here hx rfl (hb hby at_99) rfl rfl k) ?_
  show Wlk p.tables e below (T57.setTop (mkF m 101 #[iv kx, iv (1 : Int32), rv fS, rv lg1, rv lg2, rv lg0, rv lg1, rv lg2, rv b_14, rv b_39, un] [(.ref lg1), (.ref lg2), (.ref b_39)])) K
  have f60 : Exa Z T57.heap b_39 "com/example/gapweave/gapweave/AggregateFunction$IntegerSum" := (p39_1.keep K57q)
  have f61 : Exa Z T57.heap lg1 "java/lang/Long" := ((f49.keep K39q).keep K57q)
  have f62 : Fld Z T57.heap lg1 "java/lang/Long" "value" "J" (.long (1 : Int64)) := (((f30.keep K31q (ninS ne19 nin0)).keep K39q nin0).keep K57q (ninS ne48 nin0))
  obtain ⟨v63, T63, L63, X63, q63, st63⟩ := Ctr.iface (xi := (⟨"com/example/gapweave/gapweave/AggregateFunction$Accumulator", "add", "(Ljava/lang/Object;Ljava/lang/Object;)V"⟩ : MethodName)) (c_sa121 l Z a0 hw b_39 lg2 lg1 T57.heap n0 (Nat.le_trans Z0 K59.1) f60 p57_0 p57_1 f61 f62 g_b_39) X57 hx hH rfl hown (wd hw 49 rfl) (wd hw 50 rfl) (wd hw 51 rfl) (wd hw 263 rfl) (wd hw 264 rfl) (wd hw 265 rfl) (wd hw 266 rfl) (wd hw 267 rfl) (wd hw 258 rfl) (wd hw 268 rfl) (by decide) f60 pd_401 (g := (mkF m 101 #[iv kx, iv (1 : Int32), rv fS, rv lg1, rv lg2, rv lg0, rv lg1, rv lg2, rv b_14, rv b_39, un] [(.ref lg1), (.ref lg2), (.ref b_39)])) rfl (by rw [hml]; rfl) (argsL := [(.ref lg2), (.ref lg1)]) (rest := []) rfl rfl rfl (W := 0) (by show 2 * 0 + _ ≤ _; exact Nat.le_of_eq rfl) (by decide) (by decide) (hb hby at_101) (by decide) (by decide)
  obtain ⟨rfl, N63q, K63q, p63_0, p63_1⟩ := q63
  have N64 := Fr.app N58 N63q
  refine Wlk.of (fun _ k => st63 _ k) ?_
  have K65 : Keep h0 T63.heap [] := K59.trans K63q (allS (Or.inr sz_b_39) all0)
  show Wlk p.tables e below (T63.setTop (mkF m 106 #[iv kx, iv (1 : Int32), rv fS, rv lg1, rv lg2, rv lg0, rv lg1, rv lg2, rv b_14, rv b_39, un] [])) K
  refine Wlk.of (fun _ k => XS.aload X63.here hx rfl (hb hby at_106) rfl rfl k) ?_
  show Wlk p.tables e below (T63.setTop (mkF m 108 #[iv kx, iv (1 : Int32), rv fS, rv lg1, rv lg2, rv lg0, rv lg1, rv lg2, rv b_14, rv b_39, un] [(.ref b_14)])) K
  have f66 : Fld Z T63.heap b_14 "com/example/gapweave/gapweave/AggregateFunction$IntegerSum" "sum" "J" (.long (1 : Int64)) := (((p31_0.keep K39q nin0).keep K57q (ninS ne41 nin0)).keep K63q (ninS ne41 nin0))
  have f67 : Fld Z T63.heap b_14 "com/example/gapweave/gapweave/AggregateFunction$IntegerSum" "any" "Z" (.int (1 : Int32)) := (((p31_1.keep K39q nin0).keep K57q (ninS ne41 nin0)).keep K63q (ninS ne41 nin0))
  have f68 : Sta Z T63.heap "java/lang/Long$LongCache" "cache" "[Ljava/lang/Long;" (.ref ca) := (own_staKeep (own_staKeep (own_staKeep (own_staKeep (own_staKeep (own_staKeep S_cache K14q own_all0) K25q (own_allS (NSt.of p14_1) own_all0)) K31q (own_allS (NSt.of f28) own_all0)) K39q own_all0) K57q (own_allS (NSt.of p39_1) own_all0)) K63q (own_allS (NSt.of f60) own_all0))
  have f69 : Arl Z T63.heap ca (.object "java/lang/Long") vsC := (((f44.keep K39q nin0).keep K57q (ninS ne43 nin0)).keep K63q (ninS ne43 nin0))
  have f70 : Exa Z T63.heap b_14 "com/example/gapweave/gapweave/AggregateFunction$IntegerSum" := (((f42.keep K39q).keep K57q).keep K63q)
  obtain ⟨v71, T71, L71, X71, q71, st71⟩ := Ctr.iface (xi := (⟨"com/example/gapweave/gapweave/AggregateFunction$Accumulator", "result", "()Ljava/lang/Object;"⟩ : MethodName)) (c_sr1 l Z a0 hw b_14 ca vsC lg1 T63.heap n0 (Nat.le_trans Z0 K65.1) f66 f67 f68 f69 hC1) X63 hx hH rfl hown (wd hw 77 rfl) (wd hw 78 rfl) (wd hw 79 rfl) (wd hw 276 rfl) (wd hw 277 rfl) (wd hw 278 rfl) (wd hw 279 rfl) (wd hw 267 rfl) (wd hw 258 rfl) (wd hw 280 rfl) (by decide) f70 pd_402 (g := (mkF m 108 #[iv kx, iv (1 : Int32), rv fS, rv lg1, rv lg2, rv lg0, rv lg1, rv lg2, rv b_14, rv b_39, un] [(.ref b_14)])) rfl (by rw [hml]; rfl) (argsL := []) (rest := []) rfl rfl rfl (W := 0) (by show 2 * 0 + _ ≤ _; exact Nat.le_of_eq rfl) (by decide) (by decide) (hb hby at_108) (by decide) (by decide)
  obtain ⟨rfl, N71q, hh71⟩ := q71
  have N72 := Fr.app N64 N71q
  refine Wlk.of (fun _ k => st71 _ k) ?_
  show Wlk p.tables e below (T71.setTop (mkF m 113 #[iv kx, iv (1 : Int32), rv fS, rv lg1, rv lg2, rv lg0, rv lg1, rv lg2, rv b_14, rv b_39, un] [(.ref lg1)])) K
  refine Wlk.of (fun _ k => XS.aload X71.here hx rfl (hb hby at_113) rfl rfl k) ?_
  show Wlk p.tables e below (T71.setTop (mkF m 115 #[iv kx, iv (1 : Int32), rv fS, rv lg1, rv lg2, rv lg0, rv lg1, rv lg2, rv b_14, rv b_39, un] [(.ref b_39), (.ref lg1)])) K
  have f73 : Exa Z T63.heap b_39 "com/example/gapweave/gapweave/AggregateFunction$IntegerSum" := (f60.keep K63q)
  obtain ⟨v74, T74, L74, X74, q74, st74⟩ := Ctr.iface (xi := (⟨"com/example/gapweave/gapweave/AggregateFunction$Accumulator", "result", "()Ljava/lang/Object;"⟩ : MethodName)) (c_sr3 l Z a0 hw b_39 ca vsC lg3 T63.heap n0 (Nat.le_trans Z0 K65.1) p63_0 p63_1 f68 f69 hC3) X71 hx hH hh71 hown (wd hw 77 rfl) (wd hw 78 rfl) (wd hw 79 rfl) (wd hw 276 rfl) (wd hw 277 rfl) (wd hw 278 rfl) (wd hw 279 rfl) (wd hw 267 rfl) (wd hw 258 rfl) (wd hw 280 rfl) (by decide) f73 pd_402 (g := (mkF m 115 #[iv kx, iv (1 : Int32), rv fS, rv lg1, rv lg2, rv lg0, rv lg1, rv lg2, rv b_14, rv b_39, un] [(.ref b_39), (.ref lg1)])) rfl (by rw [hml]; rfl) (argsL := []) (rest := [(.ref lg1)]) rfl rfl rfl (W := 1) (by show 2 * 0 + _ ≤ _; exact Nat.le_of_eq rfl) (by decide) (by decide) (hb hby at_115) (by decide) (by decide)
  obtain ⟨rfl, N74q, hh74⟩ := q74
  have N75 := Fr.app N72 N74q
  refine Wlk.of (fun _ k => st74 _ k) ?_
  show Wlk p.tables e below (T74.setTop (mkF m 120 #[iv kx, iv (1 : Int32), rv fS, rv lg1, rv lg2, rv lg0, rv lg1, rv lg2, rv b_14, rv b_39, un] [(.ref lg3), (.ref lg1)])) K
  have f76 : Exa Z T63.heap lg1 "java/lang/Long" := (f61.keep K63q)
  have f77 : Fld Z T63.heap lg1 "java/lang/Long" "value" "J" (.long (1 : Int64)) := (f62.keep K63q (ninS ne48 nin0))
  have f78 : Exa Z T63.heap lg3 "java/lang/Long" := (((f53.keep K39q).keep K57q).keep K63q)
  have f79 : Fld Z T63.heap lg3 "java/lang/Long" "value" "J" (.long (3 : Int64)) := ((((((F_lg3_value.keep K14q nin0).keep K25q (ninS ne21 nin0)).keep K31q (ninS ne21 nin0)).keep K39q nin0).keep K57q (ninS ne52 nin0)).keep K63q (ninS ne52 nin0))
  obtain ⟨v80, T80, L80, X80, q80, st80⟩ := Ctr.static (c_sL13 l Z a0 hw lg1 lg3 T63.heap n0 (Nat.le_trans Z0 K65.1) f76 f77 f78 f79 ne_lg1_lg3) X74 hx hH hh74 hown (wd hw 108 rfl) (wd hw 109 rfl) (wd hw 3 rfl) (wd hw 110 rfl) (by decide) pd_403 (g := (mkF m 120 #[iv kx, iv (1 : Int32), rv fS, rv lg1, rv lg2, rv lg0, rv lg1, rv lg2, rv b_14, rv b_39, un] [(.ref lg3), (.ref lg1)])) rfl (by rw [hml]; rfl) (argsL := [(.ref lg1), (.ref lg3)]) (rest := []) rfl rfl rfl (W := 0) (by show 2 * 0 + _ ≤ _; exact Nat.le_of_eq rfl) (by decide) (by decide) (hb hby at_120) (by decide) (by decide)
  obtain ⟨rfl, N80q, hh80⟩ := q80
  have N81 := Fr.app N75 N80q
  refine Wlk.of (fun _ k => st80 _ k) ?_
  show Wlk p.tables e below (T80.setTop (mkF m 123 #[iv kx, iv (1 : Int32), rv fS, rv lg1, rv lg2, rv lg0, rv lg1, rv lg2, rv b_14, rv b_39, un] [(.int (0 : Int32))])) K
  refine Wlk.of (fun _ k => XS.ifNo X80.here hx rfl (hb hby at_123) rfl ((if0 _ _).trans (teq (by decide : (0 : Int32) = (0 : Int32))).2) k) ?_
  show Wlk p.tables e below (T80.setTop (mkF m 126 #[iv kx, iv (1 : Int32), rv fS, rv lg1, rv lg2, rv lg0, rv lg1, rv lg2, rv b_14, rv b_39, un] [])) K
  refine Wlk.of (fun _ k => XS.iconst X80.here hx rfl (hb hby at_126) k) ?_
  show Wlk p.tables e below (T80.setTop (mkF m 127 #[iv kx, iv (1 : Int32), rv fS, rv lg1, rv lg2, rv lg0, rv lg1, rv lg2, rv b_14, rv b_39, un] [(.int (1 : Int32))])) K
  refine Wlk.of (fun _ k => XS.goto X80.here hx rfl (pc0 := 127) (pc' := 131) rfl (hb hby at_127) (by decide) (by decide) k) ?_
  show Wlk p.tables e below (T80.setTop (mkF m 131 #[iv kx, iv (1 : Int32), rv fS, rv lg1, rv lg2, rv lg0, rv lg1, rv lg2, rv b_14, rv b_39, un] [(.int (1 : Int32))])) K
  refine Wlk.of (fun _ k => XS.istore X80.here hx rfl (hb hby at_131) rfl (l' := #[iv kx, iv (1 : Int32), rv fS, rv lg1, rv lg2, rv lg0, rv lg1, rv lg2, rv b_14, rv b_39, iv (1 : Int32)]) rfl k) ?_
  show Wlk p.tables e below (T80.setTop (mkF m 133 #[iv kx, iv (1 : Int32), rv fS, rv lg1, rv lg2, rv lg0, rv lg1, rv lg2, rv b_14, rv b_39, iv (1 : Int32)] [])) K
  refine Wlk.of (fun _ k => XS.aloadN X80.here hx rfl (hb hby at_133) rfl rfl k) ?_
  show Wlk p.tables e below (T80.setTop (mkF m 134 #[iv kx, iv (1 : Int32), rv fS, rv lg1, rv lg2, rv lg0, rv lg1, rv lg2, rv b_14, rv b_39, iv (1 : Int32)] [(.ref fS)])) K
  have f82 : Sta Z T63.heap "com/example/gapweave/gapweave/AggregateFunction" "AVG" "Lcom/example/gapweave/gapweave/AggregateFunction;" (.ref fA) := (own_staKeep (own_staKeep (own_staKeep (own_staKeep (own_staKeep (own_staKeep S_AVG K14q own_all0) K25q (own_allS (NSt.of p14_1) own_all0)) K31q (own_allS (NSt.of f28) own_all0)) K39q own_all0) K57q (own_allS (NSt.of p39_1) own_all0)) K63q (own_allS (NSt.of f60) own_all0))
  have f83 : Sta Z T63.heap "com/example/gapweave/gapweave/AggregateFunction" "SUM" "Lcom/example/gapweave/gapweave/AggregateFunction;" (.ref fS) := (own_staKeep (own_staKeep (own_staKeep (own_staKeep (own_staKeep (own_staKeep S_SUM K14q own_all0) K25q (own_allS (NSt.of p14_1) own_all0)) K31q (own_allS (NSt.of f28) own_all0)) K39q own_all0) K57q (own_allS (NSt.of p39_1) own_all0)) K63q (own_allS (NSt.of f60) own_all0))
  have f84 : Exa Z T63.heap fS "com/example/gapweave/gapweave/AggregateFunction" := (((f36.keep K39q).keep K57q).keep K63q)
  obtain ⟨v85, T85, L85, X85, q85, st85⟩ := Ctr.virtual (y := (⟨"com/example/gapweave/gapweave/AggregateFunction", "readsValues", "()Z"⟩ : MethodName)) (c_rv1 l Z a0 hw fS fA T63.heap n0 (Nat.le_trans Z0 K65.1) f82 f83 ne_fS_fA) X80 hx hH hh80 hown (wd hw 121 rfl) (wd hw 122 rfl) (notFace_of_selects (args := #[]) (mvT hZ (wd hw 124 rfl))) (wd hw 124 rfl) (wd hw 123 rfl) (wd hw 6 rfl) (wd hw 125 rfl) (by decide) f84 pd_404 (g := (mkF m 134 #[iv kx, iv (1 : Int32), rv fS, rv lg1, rv lg2, rv lg0, rv lg1, rv lg2, rv b_14, rv b_39, iv (1 : Int32)] [(.ref fS)])) rfl (by rw [hml]; rfl) (argsL := []) (rest := []) rfl rfl rfl (W := 0) (by show 2 * 0 + _ ≤ _; exact Nat.le_of_eq rfl) (by decide) (by decide) (hb hby at_134) (by decide) (by decide)
  obtain ⟨rfl, N85q, hh85⟩ := q85
  have N86 := Fr.app N81 N85q
  refine Wlk.of (fun _ k => st85 _ k) ?_
  show Wlk p.tables e below (T85.setTop (mkF m 137 #[iv kx, iv (1 : Int32), rv fS, rv lg1, rv lg2, rv lg0, rv lg1, rv lg2, rv b_14, rv b_39, iv (1 : Int32)] [(.int (1 : Int32))])) K
  refine Wlk.of (fun _ k => XS.iload X85.here hx rfl (hb hby at_137) rfl k) ?_
  show Wlk p.tables e below (T85.setTop (mkF m 139 #[iv kx, iv (1 : Int32), rv fS, rv lg1, rv lg2, rv lg0, rv lg1, rv lg2, rv b_14, rv b_39, iv (1 : Int32)] [(.int (1 : Int32)), (.int (1 : Int32))])) K
  refine Wlk.of (fun _ k => XS.icmpNo X85.here hx rfl (hb hby at_139) rfl (teq (by decide : (1 : Int32) = (1 : Int32))).2 k) ?_
  show Wlk p.tables e below (T85.setTop (mkF m 142 #[iv kx, iv (1 : Int32), rv fS, rv lg1, rv lg2, rv lg0, rv lg1, rv lg2, rv b_14, rv b_39, iv (1 : Int32)] [])) K
  refine Wlk.of (fun _ k => XS.iconst X85.here hx rfl (hb hby at_142) k) ?_
  show Wlk p.tables e below (T85.setTop (mkF m 143 #[iv kx, iv (1 : Int32), rv fS, rv lg1, rv lg2, rv lg0, rv lg1, rv lg2, rv b_14, rv b_39, iv (1 : Int32)] [(.int (1 : Int32))])) K
  refine Wlk.of (fun _ k => XS.goto X85.here hx rfl (pc0 := 143) (pc' := 147) rfl (hb hby at_143) (by decide) (by decide) k) ?_
  show Wlk p.tables e below (T85.setTop (mkF m 147 #[iv kx, iv (1 : Int32), rv fS, rv lg1, rv lg2, rv lg0, rv lg1, rv lg2, rv b_14, rv b_39, iv (1 : Int32)] [(.int (1 : Int32))])) K
  refine hK (some (.int (1 : Int32))) X85 (fun q => by cases q) (fun fs hr => retN X85 hx (t := .boolean) hret (by simp) (hb hby at_147) hr) ?_ (by decide) (by decide)
  rw [show T85.heap = T63.heap from hh85]
  exact ⟨rfl, N86, K65⟩
theorem ef_c_law2 (m : MethodId) (kx : Int32) : entryFrame m #[(.int kx)] maxLocals = mkF m 0 #[iv kx, un, un, un, un, un, un, un, un, un, un] [] := by first | (simp [entryFrame, mkF, argsToLocals, Value.category, maxLocals]; done) | rfl
def Q_c_law2 (Z : State) (kx : Int32) (fM : Addr) (fA : Addr) (fS : Addr) (i64 : Addr) (ca : Addr) (vsC : (List Value)) (lg0 : Addr) (lg1 : Addr) (lg2 : Addr) (sm : Addr) (la : Addr) (vsS : (List Value)) (cK : ClassId) (h0 : Heap) (n0 : Nat) (v : Option Value) (h : Heap) (L : List Loc) : Prop := v = (some (.int (1 : Int32))) ∧ Fr n0 L ∧ Keep h0 h []
set_option maxRecDepth 65536 in
set_option maxHeartbeats 40000000 in
theorem c_law2 (l : Launch) (Z : State) (a0 : Array Value) (hw : ∀ d ∈ tables_1, d.before a0 Z = true) (ws : List Jvm.Cond) (kx : Int32) (fM : Addr) (fA : Addr) (fS : Addr) (i64 : Addr) (ca : Addr) (vsC : (List Value)) (lg0 : Addr) (lg1 : Addr) (lg2 : Addr) (sm : Addr) (la : Addr) (vsS : (List Value)) (cK : ClassId) (h0 : Heap) (n0 : Nat) (Z0 : n0 ≤ h0.size) (hi : (kx &&& (2147483647 : Int32)) % (7 : Int32) = (2 : Int32)) (S_AVG : Sta Z h0 "com/example/gapweave/gapweave/AggregateFunction" "AVG" "Lcom/example/gapweave/gapweave/AggregateFunction;" (.ref fA)) (S_SUM : Sta Z h0 "com/example/gapweave/gapweave/AggregateFunction" "SUM" "Lcom/example/gapweave/gapweave/AggregateFunction;" (.ref fS)) (S_MIN : Sta Z h0 "com/example/gapweave/gapweave/AggregateFunction" "MIN" "Lcom/example/gapweave/gapweave/AggregateFunction;" (.ref fM)) (E_fM : Exa Z h0 fM "com/example/gapweave/gapweave/AggregateFunction") (F_fM_ordinal : Fld Z h0 fM "java/lang/Enum" "ordinal" "I" (.int (2 : Int32))) (ne_fM_fA : fM ≠ fA) (ne_fM_fS : fM ≠ fS) (S_INT64 : Sta Z h0 "com/example/gapweave/gapweave/ColumnType" "INT64" "Lcom/example/gapweave/gapweave/ColumnType;" (.ref i64)) (S_cache : Sta Z h0 "java/lang/Long$LongCache" "cache" "[Ljava/lang/Long;" (.ref ca)) (A_ca : Arl Z h0 ca (.object "java/lang/Long") vsC) (hC0 : vsC[128]? = some (.ref lg0)) (hC1 : vsC[129]? = some (.ref lg1)) (hC2 : vsC[130]? = some (.ref lg2)) (E_lg0 : Exa Z h0 lg0 "java/lang/Long") (F_lg0_value : Fld Z h0 lg0 "java/lang/Long" "value" "J" (.long (0 : Int64))) (E_lg1 : Exa Z h0 lg1 "java/lang/Long") (F_lg1_value : Fld Z h0 lg1 "java/lang/Long" "value" "J" (.long (1 : Int64))) (E_lg2 : Exa Z h0 lg2 "java/lang/Long") (F_lg2_value : Fld Z h0 lg2 "java/lang/Long" "value" "J" (.long (2 : Int64))) (S__SwitchMap_com_example_gapweave_gapweave_ColumnType : Sta Z h0 "com/example/gapweave/gapweave/AggregateFunction$1" "$SwitchMap$com$example$gapweave$gapweave$ColumnType" "[I" (.ref sm)) (A_sm : Arl Z h0 sm .int vsS) (hS2 : vsS[2]? = some (.int (2 : Int32))) (E_i64 : Exa Z h0 i64 "com/example/gapweave/gapweave/ColumnType") (F_i64_ordinal : Fld Z h0 i64 "java/lang/Enum" "ordinal" "I" (.int (2 : Int32))) (hsite : Site Z (⟨"com/example/gapweave/gapweave/AggregateFunction", "order", "(Lcom/example/gapweave/gapweave/ColumnType;)Ljava/util/Comparator;"⟩ : MethodName) 48 la) (hmade : Jvm.LamKit.Made Z "com/example/gapweave/gapweave/AggregateFunction" own_sg cK) (Fn_la : Fn h0 la cK) (ne_lg1_lg2 : lg1 ≠ lg2) :
    Ctr l Z h0 x code maxLocals ret ws room_1 #[(.int kx)] (Q_c_law2 Z kx fM fA fS i64 ca vsC lg0 lg1 lg2 sm la vsS cK h0 n0) := by
  refine Ctr.make (plainFor_of_name pn_250) fun p e s m below meth c s₁ K hret hml hx hby hown hnm hnamed hH hZ X0 e0 hK => ?_
  have hown : s.vm.findClass "com/example/gapweave/gapweave/AggregateFunctionReadsValuesPinLaw" = some m.cls := hown
  have hml : c.maxLocals = 11 := hml
  have N0 := Fr.nil n0
  have K0 : Keep h0 h0 [] := Keep.refl _ _
  refine Wlk.of (fun _ k => castTop (ef_c_law2 m kx) k) ?_
  show Wlk p.tables e below (s₁.setTop (mkF m 0 #[iv kx, un, un, un, un, un, un, un, un, un, un] [])) K
  refine Wlk.of (fun _ k => XS.iloadN X0.here hx rfl (hb hby at_0) rfl k) ?_
  show Wlk p.tables e below (s₁.setTop (mkF m 1 #[iv kx, un, un, un, un, un, un, un, un, un, un] [(.int kx)])) K
  refine Wlk.of (fun _ k => X0.ldcInt hx hown (mvT hZ (wd hw 0 rfl)) (g := (mkF m 1 #[iv kx, un, un, un, un, un, un, un, un, un, un] [(.int kx)])) rfl (hb hby at_1) _ k) ?_
  show Wlk p.tables e below (s₁.setTop (mkF m 3 #[iv kx, un, un, un, un, un, un, un, un, un, un] [(.int (2147483647 : Int32)), (.int kx)])) K
  refine Wlk.of (fun _ k => XS.iand X0.here hx rfl (hb hby at_3) rfl k) ?_
  show Wlk p.tables e below (s₁.setTop (mkF m 4 #[iv kx, un, un, un, un, un, un, un, un, un, un] [(.int (kx &&& (2147483647 : Int32)))])) K
  refine Wlk.of (fun _ k => XS.bipush X0.here hx rfl (hb hby at_4) k) ?_
  show Wlk p.tables e below (s₁.setTop (mkF m 6 #[iv kx, un, un, un, un, un, un, un, un, un, un] [(.int (7 : Int32)), (.int (kx &&& (2147483647 : Int32)))])) K
  refine Wlk.of (fun _ k => iremM X0 hx rfl (hb hby at_6) rfl (by decide) k) ?_
  show Wlk p.tables e below (s₁.setTop (mkF m 7 #[iv kx, un, un, un, un, un, un, un, un, un, un] [(.int ((kx &&& (2147483647 : Int32)) % (7 : Int32)))])) K
  rw [hi]
  refine Wlk.of (fun _ k => XS.istoreN X0.here hx rfl (hb hby at_7) rfl (l' := #[iv kx, iv (2 : Int32), un, un, un, un, un, un, un, un, un]) rfl k) ?_
  show Wlk p.tables e below (s₁.setTop (mkF m 8 #[iv kx, iv (2 : Int32), un, un, un, un, un, un, un, un, un] [])) K
  refine Wlk.of (fun _ k => XS.iloadN X0.here hx rfl (hb hby at_8) rfl k) ?_
  show Wlk p.tables e below (s₁.setTop (mkF m 9 #[iv kx, iv (2 : Int32), un, un, un, un, un, un, un, un, un] [(.int (2 : Int32))])) K
  obtain ⟨v1, T1, L1, X1, q1, st1⟩ := Ctr.static (c_pick2 l Z a0 hw fM h0 n0 (Nat.le_trans Z0 K0.1) S_MIN) X0 hx hH e0 hown (wd hw 1 rfl) (wd hw 2 rfl) (wd hw 3 rfl) (wd hw 4 rfl) (by decide) pd_399 (g := (mkF m 9 #[iv kx, iv (2 : Int32), un, un, un, un, un, un, un, un, un] [(.int (2 : Int32))])) rfl (by rw [hml]; rfl) (argsL := [(.int (2 : Int32))]) (rest := []) rfl rfl rfl (W := 0) (by show 2 * 0 + _ ≤ _; exact Nat.le_of_eq rfl) (by decide) (by decide) (hb hby at_9) (by decide) (by decide)
  obtain ⟨rfl, N1q, hh1⟩ := q1
  have N2 := Fr.app N0 N1q
  refine Wlk.of (fun _ k => st1 _ k) ?_
  show Wlk p.tables e below (T1.setTop (mkF m 12 #[iv kx, iv (2 : Int32), un, un, un, un, un, un, un, un, un] [(.ref fM)])) K
  refine Wlk.of (fun _ k => XS.astoreN X1.here hx rfl (hb hby at_12) rfl rfl (l' := #[iv kx, iv (2 : Int32), rv fM, un, un, un, un, un, un, un, un]) rfl k) ?_
  show Wlk p.tables e below (T1.setTop (mkF m 13 #[iv kx, iv (2 : Int32), rv fM, un, un, un, un, un, un, un, un] [])) K
  refine Wlk.of (fun _ k => XS.lconst X1.here hx rfl (hb hby at_13) k) ?_
  show Wlk p.tables e below (T1.setTop (mkF m 14 #[iv kx, iv (2 : Int32), rv fM, un, un, un, un, un, un, un, un] [(.long (1 : Int64))])) K
  obtain ⟨v3, T3, L3, X3, q3, st3⟩ := Ctr.static (c_vo1 l Z a0 hw ca vsC lg1 h0 n0 (Nat.le_trans Z0 K0.1) S_cache A_ca hC1) X1 hx hH hh1 hown (wd hw 8 rfl) (wd hw 9 rfl) (wd hw 10 rfl) (wd hw 11 rfl) (by decide) pd_174 (g := (mkF m 14 #[iv kx, iv (2 : Int32), rv fM, un, un, un, un, un, un, un, un] [(.long (1 : Int64))])) rfl (by rw [hml]; rfl) (argsL := [(.long (1 : Int64))]) (rest := []) rfl rfl rfl (W := 0) (by show 2 * 0 + _ ≤ _; exact Nat.le_of_eq rfl) (by decide) (by decide) (hb hby at_14) (by decide) (by decide)
  obtain ⟨rfl, N3q, hh3⟩ := q3
  have N4 := Fr.app N2 N3q
  refine Wlk.of (fun _ k => st3 _ k) ?_
  show Wlk p.tables e below (T3.setTop (mkF m 17 #[iv kx, iv (2 : Int32), rv fM, un, un, un, un, un, un, un, un] [(.ref lg1)])) K
  refine Wlk.of (fun _ k => XS.astoreN X3.here hx rfl (hb hby at_17) rfl rfl (l' := #[iv kx, iv (2 : Int32), rv fM, rv lg1, un, un, un, un, un, un, un]) rfl k) ?_
  show Wlk p.tables e below (T3.setTop (mkF m 18 #[iv kx, iv (2 : Int32), rv fM, rv lg1, un, un, un, un, un, un, un] [])) K
  refine Wlk.of (fun _ k => X3.ldc2Long hx hown (mvT hZ (wd hw 16 rfl)) (g := (mkF m 18 #[iv kx, iv (2 : Int32), rv fM, rv lg1, un, un, un, un, un, un, un] [])) rfl (hb hby at_18) _ k) ?_
  show Wlk p.tables e below (T3.setTop (mkF m 21 #[iv kx, iv (2 : Int32), rv fM, rv lg1, un, un, un, un, un, un, un] [(.long (2 : Int64))])) K
  obtain ⟨v5, T5, L5, X5, q5, st5⟩ := Ctr.static (c_vo2 l Z a0 hw ca vsC lg2 h0 n0 (Nat.le_trans Z0 K0.1) S_cache A_ca hC2) X3 hx hH hh3 hown (wd hw 8 rfl) (wd hw 9 rfl) (wd hw 10 rfl) (wd hw 11 rfl) (by decide) pd_174 (g := (mkF m 21 #[iv kx, iv (2 : Int32), rv fM, rv lg1, un, un, un, un, un, un, un] [(.long (2 : Int64))])) rfl (by rw [hml]; rfl) (argsL := [(.long (2 : Int64))]) (rest := []) rfl rfl rfl (W := 0) (by show 2 * 0 + _ ≤ _; exact Nat.le_of_eq rfl) (by decide) (by decide) (hb hby at_21) (by decide) (by decide)
  obtain ⟨rfl, N5q, hh5⟩ := q5
  have N6 := Fr.app N4 N5q
  refine Wlk.of (fun _ k => st5 _ k) ?_
  show Wlk p.tables e below (T5.setTop (mkF m 24 #[iv kx, iv (2 : Int32), rv fM, rv lg1, un, un, un, un, un, un, un] [(.ref lg2)])) K
  refine Wlk.of (fun _ k => XS.astore X5.here hx rfl (hb hby at_24) rfl rfl (l' := #[iv kx, iv (2 : Int32), rv fM, rv lg1, rv lg2, un, un, un, un, un, un]) rfl k) ?_
  show Wlk p.tables e below (T5.setTop (mkF m 26 #[iv kx, iv (2 : Int32), rv fM, rv lg1, rv lg2, un, un, un, un, un, un] [])) K
  refine Wlk.of (fun _ k => XS.lconst X5.here hx rfl (hb hby at_26) k) ?_
  show Wlk p.tables e below (T5.setTop (mkF m 27 #[iv kx, iv (2 : Int32), rv fM, rv lg1, rv lg2, un, un, un, un, un, un] [(.long (0 : Int64))])) K
  obtain ⟨v7, T7, L7, X7, q7, st7⟩ := Ctr.static (c_vo0 l Z a0 hw ca vsC lg0 h0 n0 (Nat.le_trans Z0 K0.1) S_cache A_ca hC0) X5 hx hH hh5 hown (wd hw 8 rfl) (wd hw 9 rfl) (wd hw 10 rfl) (wd hw 11 rfl) (by decide) pd_174 (g := (mkF m 27 #[iv kx, iv (2 : Int32), rv fM, rv lg1, rv lg2, un, un, un, un, un, un] [(.long (0 : Int64))])) rfl (by rw [hml]; rfl) (argsL := [(.long (0 : Int64))]) (rest := []) rfl rfl rfl (W := 0) (by show 2 * 0 + _ ≤ _; exact Nat.le_of_eq rfl) (by decide) (by decide) (hb hby at_27) (by decide) (by decide)
  obtain ⟨rfl, N7q, hh7⟩ := q7
  have N8 := Fr.app N6 N7q
  refine Wlk.of (fun _ k => st7 _ k) ?_
  show Wlk p.tables e below (T7.setTop (mkF m 30 #[iv kx, iv (2 : Int32), rv fM, rv lg1, rv lg2, un, un, un, un, un, un] [(.ref lg0)])) K
  refine Wlk.of (fun _ k => XS.astore X7.here hx rfl (hb hby at_30) rfl rfl (l' := #[iv kx, iv (2 : Int32), rv fM, rv lg1, rv lg2, rv lg0, un, un, un, un, un]) rfl k) ?_
  show Wlk p.tables e below (T7.setTop (mkF m 32 #[iv kx, iv (2 : Int32), rv fM, rv lg1, rv lg2, rv lg0, un, un, un, un, un] [])) K
  refine Wlk.of (fun _ k => XS.lconst X7.here hx rfl (hb hby at_32) k) ?_
  show Wlk p.tables e below (T7.setTop (mkF m 33 #[iv kx, iv (2 : Int32), rv fM, rv lg1, rv lg2, rv lg0, un, un, un, un, un] [(.long (1 : Int64))])) K
  obtain ⟨v9, T9, L9, X9, q9, st9⟩ := Ctr.static (c_vo1 l Z a0 hw ca vsC lg1 h0 n0 (Nat.le_trans Z0 K0.1) S_cache A_ca hC1) X7 hx hH hh7 hown (wd hw 8 rfl) (wd hw 9 rfl) (wd hw 10 rfl) (wd hw 11 rfl) (by decide) pd_174 (g := (mkF m 33 #[iv kx, iv (2 : Int32), rv fM, rv lg1, rv lg2, rv lg0, un, un, un, un, un] [(.long (1 : Int64))])) rfl (by rw [hml]; rfl) (argsL := [(.long (1 : Int64))]) (rest := []) rfl rfl rfl (W := 0) (by show 2 * 0 + _ ≤ _; exact Nat.le_of_eq rfl) (by decide) (by decide) (hb hby at_33) (by decide) (by decide)
  obtain ⟨rfl, N9q, hh9⟩ := q9
  have N10 := Fr.app N8 N9q
  refine Wlk.of (fun _ k => st9 _ k) ?_
  show Wlk p.tables e below (T9.setTop (mkF m 36 #[iv kx, iv (2 : Int32), rv fM, rv lg1, rv lg2, rv lg0, un, un, un, un, un] [(.ref lg1)])) K
  refine Wlk.of (fun _ k => XS.astore X9.here hx rfl (hb hby at_36) rfl rfl (l' := #[iv kx, iv (2 : Int32), rv fM, rv lg1, rv lg2, rv lg0, rv lg1, un, un, un, un]) rfl k) ?_
  show Wlk p.tables e below (T9.setTop (mkF m 38 #[iv kx, iv (2 : Int32), rv fM, rv lg1, rv lg2, rv lg0, rv lg1, un, un, un, un] [])) K
  refine Wlk.of (fun _ k => X9.ldc2Long hx hown (mvT hZ (wd hw 16 rfl)) (g := (mkF m 38 #[iv kx, iv (2 : Int32), rv fM, rv lg1, rv lg2, rv lg0, rv lg1, un, un, un, un] [])) rfl (hb hby at_38) _ k) ?_
  show Wlk p.tables e below (T9.setTop (mkF m 41 #[iv kx, iv (2 : Int32), rv fM, rv lg1, rv lg2, rv lg0, rv lg1, un, un, un, un] [(.long (2 : Int64))])) K
  obtain ⟨v11, T11, L11, X11, q11, st11⟩ := Ctr.static (c_vo2 l Z a0 hw ca vsC lg2 h0 n0 (Nat.le_trans Z0 K0.1) S_cache A_ca hC2) X9 hx hH hh9 hown (wd hw 8 rfl) (wd hw 9 rfl) (wd hw 10 rfl) (wd hw 11 rfl) (by decide) pd_174 (g := (mkF m 41 #[iv kx, iv (2 : Int32), rv fM, rv lg1, rv lg2, rv lg0, rv lg1, un, un, un, un] [(.long (2 : Int64))])) rfl (by rw [hml]; rfl) (argsL := [(.long (2 : Int64))]) (rest := []) rfl rfl rfl (W := 0) (by show 2 * 0 + _ ≤ _; exact Nat.le_of_eq rfl) (by decide) (by decide) (hb hby at_41) (by decide) (by decide)
  obtain ⟨rfl, N11q, hh11⟩ := q11
  have N12 := Fr.app N10 N11q
  refine Wlk.of (fun _ k => st11 _ k) ?_
  show Wlk p.tables e below (T11.setTop (mkF m 44 #[iv kx, iv (2 : Int32), rv fM, rv lg1, rv lg2, rv lg0, rv lg1, un, un, un, un] [(.ref lg2)])) K
  refine Wlk.of (fun _ k => XS.astore X11.here hx rfl (hb hby at_44) rfl rfl (l' := #[iv kx, iv (2 : Int32), rv fM, rv lg1, rv lg2, rv lg0, rv lg1, rv lg2, un, un, un]) rfl k) ?_
  show Wlk p.tables e below (T11.setTop (mkF m 46 #[iv kx, iv (2 : Int32), rv fM, rv lg1, rv lg2, rv lg0, rv lg1, rv lg2, un, un, un] [])) K
  refine Wlk.of (fun _ k => XS.aloadN X11.here hx rfl (hb hby at_46) rfl rfl k) ?_
  show Wlk p.tables e below (T11.setTop (mkF m 47 #[iv kx, iv (2 : Int32), rv fM, rv lg1, rv lg2, rv lg0, rv lg1, rv lg2, un, un, un] [(.ref fM)])) K
  obtain ⟨T13, X13, e13, st13⟩ := getS2 X11 hx hZ hown (host := "") (Or.inl (wd hw 17 rfl)) Via.refl hh11 S_INT64 (g := (mkF m 47 #[iv kx, iv (2 : Int32), rv fM, rv lg1, rv lg2, rv lg0, rv lg1, rv lg2, un, un, un] [(.ref fM)])) rfl (hb hby at_47)
  refine Wlk.of (fun _ k => st13 _ k) ?_
  show Wlk p.tables e below (T13.setTop (mkF m 50 #[iv kx, iv (2 : Int32), rv fM, rv lg1, rv lg2, rv lg0, rv lg1, rv lg2, un, un, un] [(.ref i64), (.ref fM)])) K
  obtain ⟨v14, T14, L14, X14, q14, st14⟩ := Ctr.virtual (y := (⟨"com/example/gapweave/gapweave/AggregateFunction", "start", "(Lcom/example/gapweave/gapweave/ColumnType;)Lcom/example/gapweave/gapweave/AggregateFunction$Accumulator;"⟩ : MethodName)) (c_start2 l Z a0 hw fM i64 sm la vsS h0 n0 (Nat.le_trans Z0 K0.1) E_fM F_fM_ordinal S__SwitchMap_com_example_gapweave_gapweave_ColumnType A_sm hS2 E_i64 F_i64_ordinal hsite) X13 hx hH e13 hown (wd hw 20 rfl) (wd hw 21 rfl) (notFace_of_selects (args := #[]) (mvT hZ (wd hw 23 rfl))) (wd hw 23 rfl) (wd hw 22 rfl) (wd hw 6 rfl) (wd hw 24 rfl) (by decide) E_fM pd_400 (g := (mkF m 50 #[iv kx, iv (2 : Int32), rv fM, rv lg1, rv lg2, rv lg0, rv lg1, rv lg2, un, un, un] [(.ref i64), (.ref fM)])) rfl (by rw [hml]; rfl) (argsL := [(.ref i64)]) (rest := []) rfl rfl rfl (W := 0) (by show 2 * 0 + _ ≤ _; exact Nat.le_of_eq rfl) (by decide) (by decide) (hb hby at_50) (by decide) (by decide)
  obtain ⟨b_14, rfl, N14q, K14q, p14_0, p14_1, p14_2, p14_3, p14_4, p14_5⟩ := q14
  have N15 := Fr.app N12 N14q
  refine Wlk.of (fun _ k => st14 _ k) ?_
  have ne16 : ca ≠ b_14 := Nat.ne_of_lt (Nat.lt_of_lt_of_le A_ca.lt p14_0)
  have ne17 : fM ≠ b_14 := Nat.ne_of_lt (Nat.lt_of_lt_of_le E_fM.lt p14_0)
  have ne18 : i64 ≠ b_14 := Nat.ne_of_lt (Nat.lt_of_lt_of_le E_i64.lt p14_0)
  have ne19 : la ≠ b_14 := Nat.ne_of_lt (Nat.lt_of_lt_of_le Fn_la.lt p14_0)
  have ne20 : lg0 ≠ b_14 := Nat.ne_of_lt (Nat.lt_of_lt_of_le E_lg0.lt p14_0)
  have ne21 : lg1 ≠ b_14 := Nat.ne_of_lt (Nat.lt_of_lt_of_le E_lg1.lt p14_0)
  have ne22 : lg2 ≠ b_14 := Nat.ne_of_lt (Nat.lt_of_lt_of_le E_lg2.lt p14_0)
  have ne23 : sm ≠ b_14 := Nat.ne_of_lt (Nat.lt_of_lt_of_le A_sm.lt p14_0)
  have sz_b_14 : h0.size ≤ b_14 := Nat.le_trans K0.1 p14_0
  have g_b_14 : n0 ≤ b_14 := Nat.le_trans Z0 sz_b_14
  have K24 : Keep h0 T14.heap [] := K0.trans K14q all0
  show Wlk p.tables e below (T14.setTop (mkF m 53 #[iv kx, iv (2 : Int32), rv fM, rv lg1, rv lg2, rv lg0, rv lg1, rv lg2, un, un, un] [(.ref b_14)])) K
  refine Wlk.of (fun _ k => XS.astore X14.here hx rfl (hb hby at_53) rfl rfl (l' := #[iv kx, iv (2 : Int32), rv fM, rv lg1, rv lg2, rv lg0, rv lg1, rv lg2, rv b_14, un, un]) rfl k) ?_
  show Wlk p.tables e below (T14.setTop (mkF m 55 #[iv kx, iv (2 : Int32), rv fM, rv lg1, rv lg2, rv lg0, rv lg1, rv lg2, rv b_14, un, un] [])) K
  refine Wlk.of (fun _ k => XS.aload X14.here hx rfl (hb hby at_55) rfl rfl k) ?_
  show Wlk p.tables e below (T14.setTop (mkF m 57 #[iv kx, iv (2 : Int32), rv fM, rv lg1, rv lg2, rv lg0, rv lg1, rv lg2, rv b_14, un, un] [(.ref b_14)])) K
  refine Wlk.of (fun _ k => XS.aloadN X14.here hx rfl (hb hby at_57) rfl rfl k) ?_
  show Wlk p.tables e below (T14.setTop (mkF m 58 #[iv kx, iv (2 : Int32), rv fM, rv lg1, rv lg2, rv lg0, rv lg1, rv lg2, rv b_14, un, un] [(.ref lg1), (.ref b_14)])) K
  refine Wlk.of (fun _ k => XS.aload X14.here hx rfl (hb hby at_58) rfl rfl k) ?_
  show Wlk p.tables e below (T14.setTop (mkF m 60 #[iv kx, iv (2 : Int32), rv fM, rv lg1, rv lg2, rv lg0, rv lg1, rv lg2, rv b_14, un, un] [(.ref lg0), (.ref lg1), (.ref b_14)])) K
  obtain ⟨v25, T25, L25, X25, q25, st25⟩ := Ctr.iface (xi := (⟨"com/example/gapweave/gapweave/AggregateFunction$Accumulator", "add", "(Ljava/lang/Object;Ljava/lang/Object;)V"⟩ : MethodName)) (c_xam l Z a0 hw b_14 lg1 lg0 la T14.heap n0 (Nat.le_trans Z0 K24.1) p14_1 p14_2 p14_3 p14_4 p14_5 g_b_14) X14 hx hH rfl hown (wd hw 49 rfl) (wd hw 50 rfl) (wd hw 51 rfl) (wd hw 153 rfl) (wd hw 154 rfl) (wd hw 155 rfl) (wd hw 156 rfl) (wd hw 157 rfl) (wd hw 131 rfl) (wd hw 158 rfl) (by decide) p14_1 pd_401 (g := (mkF m 60 #[iv kx, iv (2 : Int32), rv fM, rv lg1, rv lg2, rv lg0, rv lg1, rv lg2, rv b_14, un, un] [(.ref lg0), (.ref lg1), (.ref b_14)])) rfl (by rw [hml]; rfl) (argsL := [(.ref lg1), (.ref lg0)]) (rest := []) rfl rfl rfl (W := 0) (by show 2 * 0 + _ ≤ _; exact Nat.le_of_eq rfl) (by decide) (by decide) (hb hby at_60) (by decide) (by decide)
  obtain ⟨rfl, N25q, K25q, p25_0, p25_1, p25_2, p25_3⟩ := q25
  have N26 := Fr.app N15 N25q
  refine Wlk.of (fun _ k => st25 _ k) ?_
  have K27 : Keep h0 T25.heap [] := K24.trans K25q (allS (Or.inr sz_b_14) all0)
  show Wlk p.tables e below (T25.setTop (mkF m 65 #[iv kx, iv (2 : Int32), rv fM, rv lg1, rv lg2, rv lg0, rv lg1, rv lg2, rv b_14, un, un] [])) K
  refine Wlk.of (fun _ k => XS.aload X25.here hx rfl (hb hby at_65) rfl rfl k) ?_
  show Wlk p.tables e below (T25.setTop (mkF m 67 #[iv kx, iv (2 : Int32), rv fM, rv lg1, rv lg2, rv lg0, rv lg1, rv lg2, rv b_14, un, un] [(.ref b_14)])) K
  refine Wlk.of (fun _ k => XS.aload X25.here hx rfl (hb hby at_67) rfl rfl k) ?_
  show Wlk p.tables e below (T25.setTop (mkF m 69 #[iv kx, iv (2 : Int32), rv fM, rv lg1, rv lg2, rv lg0, rv lg1, rv lg2, rv b_14, un, un] [(.ref lg2), (.ref b_14)])) K
  refine Wlk.of (fun _ k => XS.aload X25.here hx rfl (hb hby at_69) rfl rfl k) ?_
  show Wlk p.tables e below (T25.setTop (mkF m 71 #[iv kx, iv (2 : Int32), rv fM, rv lg1, rv lg2, rv lg0, rv lg1, rv lg2, rv b_14, un, un] [(.ref lg1), (.ref lg2), (.ref b_14)])) K
  have f28 : Exa Z T25.heap b_14 "com/example/gapweave/gapweave/AggregateFunction$Extreme" := (p14_1.keep K25q)
  have f29 : Exa Z T25.heap lg1 "java/lang/Long" := ((E_lg1.keep K14q).keep K25q)
  have f30 : Fld Z T25.heap lg1 "java/lang/Long" "value" "J" (.long (1 : Int64)) := ((F_lg1_value.keep K14q nin0).keep K25q (ninS ne21 nin0))
  have f31 : Exa Z T25.heap lg0 "java/lang/Long" := ((E_lg0.keep K14q).keep K25q)
  have f32 : Fld Z T25.heap lg0 "java/lang/Long" "value" "J" (.long (0 : Int64)) := ((F_lg0_value.keep K14q nin0).keep K25q (ninS ne20 nin0))
  have f33 : Fn T25.heap la cK := ((Fn_la.keep K14q).keep K25q)
  obtain ⟨v34, T34, L34, X34, q34, st34⟩ := Ctr.iface (xi := (⟨"com/example/gapweave/gapweave/AggregateFunction$Accumulator", "add", "(Ljava/lang/Object;Ljava/lang/Object;)V"⟩ : MethodName)) (c_xbm0 l Z a0 hw b_14 lg2 lg1 la lg1 lg0 cK T25.heap n0 (Nat.le_trans Z0 K27.1) f28 p25_0 p25_1 p25_2 p25_3 f29 f30 f31 f32 f33 hmade g_b_14) X25 hx hH rfl hown (wd hw 49 rfl) (wd hw 50 rfl) (wd hw 51 rfl) (wd hw 153 rfl) (wd hw 154 rfl) (wd hw 155 rfl) (wd hw 156 rfl) (wd hw 157 rfl) (wd hw 131 rfl) (wd hw 158 rfl) (by decide) f28 pd_401 (g := (mkF m 71 #[iv kx, iv (2 : Int32), rv fM, rv lg1, rv lg2, rv lg0, rv lg1, rv lg2, rv b_14, un, un] [(.ref lg1), (.ref lg2), (.ref b_14)])) rfl (by rw [hml]; rfl) (argsL := [(.ref lg2), (.ref lg1)]) (rest := []) rfl rfl rfl (W := 0) (by show 2 * 0 + _ ≤ _; exact Nat.le_of_eq rfl) (by decide) (by decide) (hb hby at_71) (by decide) (by decide)
  obtain ⟨rfl, N34q, hh34⟩ := q34
  have N35 := Fr.app N26 N34q
  refine Wlk.of (fun _ k => st34 _ k) ?_
  show Wlk p.tables e below (T34.setTop (mkF m 76 #[iv kx, iv (2 : Int32), rv fM, rv lg1, rv lg2, rv lg0, rv lg1, rv lg2, rv b_14, un, un] [])) K
  refine Wlk.of (fun _ k => XS.aloadN X34.here hx rfl (hb hby at_76) rfl rfl k) ?_
  show Wlk p.tables e below (T34.setTop (mkF m 77 #[iv kx, iv (2 : Int32), rv fM, rv lg1, rv lg2, rv lg0, rv lg1, rv lg2, rv b_14, un, un] [(.ref fM)])) K
  have f36 : Sta Z T25.heap "com/example/gapweave/gapweave/ColumnType" "INT64" "Lcom/example/gapweave/gapweave/ColumnType;" (.ref i64) := (own_staKeep (own_staKeep S_INT64 K14q own_all0) K25q (own_allS (NSt.of p14_1) own_all0))
  obtain ⟨T37, X37, e37, st37⟩ := getS2 X34 hx hZ hown (host := "") (Or.inl (wd hw 17 rfl)) Via.refl hh34 f36 (g := (mkF m 77 #[iv kx, iv (2 : Int32), rv fM, rv lg1, rv lg2, rv lg0, rv lg1, rv lg2, rv b_14, un, un] [(.ref fM)])) rfl (hb hby at_77)
  refine Wlk.of (fun _ k => st37 _ k) ?_
  show Wlk p.tables e below (T37.setTop (mkF m 80 #[iv kx, iv (2 : Int32), rv fM, rv lg1, rv lg2, rv lg0, rv lg1, rv lg2, rv b_14, un, un] [(.ref i64), (.ref fM)])) K
  have f38 : Exa Z T25.heap fM "com/example/gapweave/gapweave/AggregateFunction" := ((E_fM.keep K14q).keep K25q)
  have f39 : Fld Z T25.heap fM "java/lang/Enum" "ordinal" "I" (.int (2 : Int32)) := ((F_fM_ordinal.keep K14q nin0).keep K25q (ninS ne17 nin0))
  have f40 : Sta Z T25.heap "com/example/gapweave/gapweave/AggregateFunction$1" "$SwitchMap$com$example$gapweave$gapweave$ColumnType" "[I" (.ref sm) := (own_staKeep (own_staKeep S__SwitchMap_com_example_gapweave_gapweave_ColumnType K14q own_all0) K25q (own_allS (NSt.of p14_1) own_all0))
  have f41 : Arl Z T25.heap sm .int vsS := ((A_sm.keep K14q nin0).keep K25q (ninS ne23 nin0))
  have f42 : Exa Z T25.heap i64 "com/example/gapweave/gapweave/ColumnType" := ((E_i64.keep K14q).keep K25q)
  have f43 : Fld Z T25.heap i64 "java/lang/Enum" "ordinal" "I" (.int (2 : Int32)) := ((F_i64_ordinal.keep K14q nin0).keep K25q (ninS ne18 nin0))
  obtain ⟨v44, T44, L44, X44, q44, st44⟩ := Ctr.virtual (y := (⟨"com/example/gapweave/gapweave/AggregateFunction", "start", "(Lcom/example/gapweave/gapweave/ColumnType;)Lcom/example/gapweave/gapweave/AggregateFunction$Accumulator;"⟩ : MethodName)) (c_start2 l Z a0 hw fM i64 sm la vsS T25.heap n0 (Nat.le_trans Z0 K27.1) f38 f39 f40 f41 hS2 f42 f43 hsite) X37 hx hH e37 hown (wd hw 20 rfl) (wd hw 21 rfl) (notFace_of_selects (args := #[]) (mvT hZ (wd hw 23 rfl))) (wd hw 23 rfl) (wd hw 22 rfl) (wd hw 6 rfl) (wd hw 24 rfl) (by decide) f38 pd_400 (g := (mkF m 80 #[iv kx, iv (2 : Int32), rv fM, rv lg1, rv lg2, rv lg0, rv lg1, rv lg2, rv b_14, un, un] [(.ref i64), (.ref fM)])) rfl (by rw [hml]; rfl) (argsL := [(.ref i64)]) (rest := []) rfl rfl rfl (W := 0) (by show 2 * 0 + _ ≤ _; exact Nat.le_of_eq rfl) (by decide) (by decide) (hb hby at_80) (by decide) (by decide)
  obtain ⟨b_44, rfl, N44q, K44q, p44_0, p44_1, p44_2, p44_3, p44_4, p44_5⟩ := q44
  have N45 := Fr.app N35 N44q
  refine Wlk.of (fun _ k => st44 _ k) ?_
  have ne46 : b_14 ≠ b_44 := Nat.ne_of_lt (Nat.lt_of_lt_of_le f28.lt p44_0)
  have f48 : Arl Z T25.heap ca (.object "java/lang/Long") vsC := ((A_ca.keep K14q nin0).keep K25q (ninS ne16 nin0))
  have ne47 : ca ≠ b_44 := Nat.ne_of_lt (Nat.lt_of_lt_of_le f48.lt p44_0)
  have ne49 : fM ≠ b_44 := Nat.ne_of_lt (Nat.lt_of_lt_of_le f38.lt p44_0)
  have ne50 : i64 ≠ b_44 := Nat.ne_of_lt (Nat.lt_of_lt_of_le f42.lt p44_0)
  have ne51 : la ≠ b_44 := Nat.ne_of_lt (Nat.lt_of_lt_of_le f33.lt p44_0)
  have ne52 : lg0 ≠ b_44 := Nat.ne_of_lt (Nat.lt_of_lt_of_le f31.lt p44_0)
  have ne53 : lg1 ≠ b_44 := Nat.ne_of_lt (Nat.lt_of_lt_of_le f29.lt p44_0)
  have f55 : Exa Z T25.heap lg2 "java/lang/Long" := ((E_lg2.keep K14q).keep K25q)
  have ne54 : lg2 ≠ b_44 := Nat.ne_of_lt (Nat.lt_of_lt_of_le f55.lt p44_0)
  have ne56 : sm ≠ b_44 := Nat.ne_of_lt (Nat.lt_of_lt_of_le f41.lt p44_0)
  have sz_b_44 : h0.size ≤ b_44 := Nat.le_trans K27.1 p44_0
  have g_b_44 : n0 ≤ b_44 := Nat.le_trans Z0 sz_b_44
  have K57 : Keep h0 T44.heap [] := K27.trans K44q all0
  show Wlk p.tables e below (T44.setTop (mkF m 83 #[iv kx, iv (2 : Int32), rv fM, rv lg1, rv lg2, rv lg0, rv lg1, rv lg2, rv b_14, un, un] [(.ref b_44)])) K
  refine Wlk.of (fun _ k => XS.astore X44.here hx rfl (hb hby at_83) rfl rfl (l' := #[iv kx, iv (2 : Int32), rv fM, rv lg1, rv lg2, rv lg0, rv lg1, rv lg2, rv b_14, rv b_44, un]) rfl k) ?_
  show Wlk p.tables e below (T44.setTop (mkF m 85 #[iv kx, iv (2 : Int32), rv fM, rv lg1, rv lg2, rv lg0, rv lg1, rv lg2, rv b_14, rv b_44, un] [])) K
  refine Wlk.of (fun _ k => XS.aload X44.here hx rfl (hb hby at_85) rfl rfl k) ?_
  show Wlk p.tables e below (T44.setTop (mkF m 87 #[iv kx, iv (2 : Int32), rv fM, rv lg1, rv lg2, rv lg0, rv lg1, rv lg2, rv b_14, rv b_44, un] [(.ref b_44)])) K
  refine Wlk.of (fun _ k => XS.aloadN X44.here hx rfl (hb hby at_87) rfl rfl k) ?_
  show Wlk p.tables e below (T44.setTop (mkF m 88 #[iv kx, iv (2 : Int32), rv fM, rv lg1, rv lg2, rv lg0, rv lg1, rv lg2, rv b_14, rv b_44, un] [(.ref lg1), (.ref b_44)])) K
  refine Wlk.of (fun _ k => XS.aload X44.here hx rfl (hb hby at_88) rfl rfl k) ?_
  show Wlk p.tables e below (T44.setTop (mkF m 90 #[iv kx, iv (2 : Int32), rv fM, rv lg1, rv lg2, rv lg0, rv lg1, rv lg2, rv b_14, rv b_44, un] [(.ref lg2), (.ref lg1), (.ref b_44)])) K
  obtain ⟨v58, T58, L58, X58, q58, st58⟩ := Ctr.iface (xi := (⟨"com/example/gapweave/gapweave/AggregateFunction$Accumulator", "add", "(Ljava/lang/Object;Ljava/lang/Object;)V"⟩ : MethodName)) (c_xam l Z a0 hw b_44 lg1 lg2 la T44.heap n0 (Nat.le_trans Z0 K57.1) p44_1 p44_2 p44_3 p44_4 p44_5 g_b_44) X44 hx hH rfl hown (wd hw 49 rfl) (wd hw 50 rfl) (wd hw 51 rfl) (wd hw 153 rfl) (wd hw 154 rfl) (wd hw 155 rfl) (wd hw 156 rfl) (wd hw 157 rfl) (wd hw 131 rfl) (wd hw 158 rfl) (by decide) p44_1 pd_401 (g := (mkF m 90 #[iv kx, iv (2 : Int32), rv fM, rv lg1, rv lg2, rv lg0, rv lg1, rv lg2, rv b_14, rv b_44, un] [(.ref lg2), (.ref lg1), (.ref b_44)])) rfl (by rw [hml]; rfl) (argsL := [(.ref lg1), (.ref lg2)]) (rest := []) rfl rfl rfl (W := 0) (by show 2 * 0 + _ ≤ _; exact Nat.le_of_eq rfl) (by decide) (by decide) (hb hby at_90) (by decide) (by decide)
  obtain ⟨rfl, N58q, K58q, p58_0, p58_1, p58_2, p58_3⟩ := q58
  have N59 := Fr.app N45 N58q
  refine Wlk.of (fun _ k => st58 _ k) ?_
  have K60 : Keep h0 T58.heap [] := K57.trans K58q (allS (Or.inr sz_b_44) all0)
  show Wlk p.tables e below (T58.setTop (mkF m 95 #[iv kx, iv (2 : Int32), rv fM, rv lg1, rv lg2, rv lg0, rv lg1, rv lg2, rv b_14, rv b_44, un] [])) K
  refine Wlk.of (fun _ k => XS.aload X58.here hx rfl (hb hby at_95) rfl rfl k) ?_
  show Wlk p.tables e below (T58.setTop (mkF m 97 #[iv kx, iv (2 : Int32), rv fM, rv lg1, rv lg2, rv lg0, rv lg1, rv lg2, rv b_14, rv b_44, un] [(.ref b_44)])) K
  refine Wlk.of (fun _ k => XS.aload X58.here hx rfl (hb hby at_97) rfl rfl k) ?_
  show Wlk p.tables e below (T58.setTop (mkF m 99 #[iv kx, iv (2 : Int32), rv fM, rv lg1, rv lg2, rv lg0, rv lg1, rv lg2, rv b_14, rv b_44, un] [(.ref lg2), (.ref b_44)])) K
  refine Wlk.of (fun _ k => XS.aload X58.here hx rfl (hb hby at_99) rfl rfl k) ?_
  show Wlk p.tables e below (T58.setTop (mkF m 101 #[iv kx, iv (2 : Int32), rv fM, rv lg1, rv lg2, rv lg0, rv lg1, rv lg2, rv b_14, rv b_44, un] [(.ref lg1), (.ref lg2), (.ref b_44)])) K
  have f61 : Exa Z T58.heap b_44 "com/example/gapweave/gapweave/AggregateFunction$Extreme" := (p44_1.keep K58q)
  have f62 : Exa Z T58.heap lg1 "java/lang/Long" := ((f29.keep K44q).keep K58q)
  have f63 : Fld Z T58.heap lg1 "java/lang/Long" "value" "J" (.long (1 : Int64)) := ((f30.keep K44q nin0).keep K58q (ninS ne53 nin0))
  have f64 : Exa Z T58.heap lg2 "java/lang/Long" := ((f55.keep K44q).keep K58q)
  have f65 : Fld Z T58.heap lg2 "java/lang/Long" "value" "J" (.long (2 : Int64)) := ((((F_lg2_value.keep K14q nin0).keep K25q (ninS ne22 nin0)).keep K44q nin0).keep K58q (ninS ne54 nin0))
  have f66 : Fn T58.heap la cK := ((f33.keep K44q).keep K58q)
  obtain ⟨v67, T67, L67, X67, q67, st67⟩ := Ctr.iface (xi := (⟨"com/example/gapweave/gapweave/AggregateFunction$Accumulator", "add", "(Ljava/lang/Object;Ljava/lang/Object;)V"⟩ : MethodName)) (c_xbm2 l Z a0 hw b_44 lg2 lg1 la lg1 lg2 cK T58.heap n0 (Nat.le_trans Z0 K60.1) f61 p58_0 p58_1 p58_2 p58_3 f62 f63 f64 f65 f66 hmade g_b_44) X58 hx hH rfl hown (wd hw 49 rfl) (wd hw 50 rfl) (wd hw 51 rfl) (wd hw 153 rfl) (wd hw 154 rfl) (wd hw 155 rfl) (wd hw 156 rfl) (wd hw 157 rfl) (wd hw 131 rfl) (wd hw 158 rfl) (by decide) f61 pd_401 (g := (mkF m 101 #[iv kx, iv (2 : Int32), rv fM, rv lg1, rv lg2, rv lg0, rv lg1, rv lg2, rv b_14, rv b_44, un] [(.ref lg1), (.ref lg2), (.ref b_44)])) rfl (by rw [hml]; rfl) (argsL := [(.ref lg2), (.ref lg1)]) (rest := []) rfl rfl rfl (W := 0) (by show 2 * 0 + _ ≤ _; exact Nat.le_of_eq rfl) (by decide) (by decide) (hb hby at_101) (by decide) (by decide)
  obtain ⟨rfl, N67q, K67q, p67_0, p67_1, p67_2, p67_3⟩ := q67
  have N68 := Fr.app N59 N67q
  refine Wlk.of (fun _ k => st67 _ k) ?_
  have K69 : Keep h0 T67.heap [] := K60.trans K67q (allS (Or.inr sz_b_44) all0)
  show Wlk p.tables e below (T67.setTop (mkF m 106 #[iv kx, iv (2 : Int32), rv fM, rv lg1, rv lg2, rv lg0, rv lg1, rv lg2, rv b_14, rv b_44, un] [])) K
  refine Wlk.of (fun _ k => XS.aload X67.here hx rfl (hb hby at_106) rfl rfl k) ?_
  show Wlk p.tables e below (T67.setTop (mkF m 108 #[iv kx, iv (2 : Int32), rv fM, rv lg1, rv lg2, rv lg0, rv lg1, rv lg2, rv b_14, rv b_44, un] [(.ref b_14)])) K
  have f70 : Fld Z T67.heap b_14 "com/example/gapweave/gapweave/AggregateFunction$Extreme" "cell" "Ljava/lang/Object;" (.ref lg1) := (((p25_2.keep K44q nin0).keep K58q (ninS ne46 nin0)).keep K67q (ninS ne46 nin0))
  have f71 : Exa Z T67.heap b_14 "com/example/gapweave/gapweave/AggregateFunction$Extreme" := (((f28.keep K44q).keep K58q).keep K67q)
  obtain ⟨v72, T72, L72, X72, q72, st72⟩ := Ctr.iface (xi := (⟨"com/example/gapweave/gapweave/AggregateFunction$Accumulator", "result", "()Ljava/lang/Object;"⟩ : MethodName)) (c_xr l Z a0 hw b_14 lg1 T67.heap n0 (Nat.le_trans Z0 K69.1) f70) X67 hx hH rfl hown (wd hw 77 rfl) (wd hw 78 rfl) (wd hw 79 rfl) (wd hw 173 rfl) (wd hw 174 rfl) (wd hw 175 rfl) (wd hw 176 rfl) (wd hw 157 rfl) (wd hw 131 rfl) (wd hw 177 rfl) (by decide) f71 pd_402 (g := (mkF m 108 #[iv kx, iv (2 : Int32), rv fM, rv lg1, rv lg2, rv lg0, rv lg1, rv lg2, rv b_14, rv b_44, un] [(.ref b_14)])) rfl (by rw [hml]; rfl) (argsL := []) (rest := []) rfl rfl rfl (W := 0) (by show 2 * 0 + _ ≤ _; exact Nat.le_of_eq rfl) (by decide) (by decide) (hb hby at_108) (by decide) (by decide)
  obtain ⟨rfl, N72q, hh72⟩ := q72
  have N73 := Fr.app N68 N72q
  refine Wlk.of (fun _ k => st72 _ k) ?_
  show Wlk p.tables e below (T72.setTop (mkF m 113 #[iv kx, iv (2 : Int32), rv fM, rv lg1, rv lg2, rv lg0, rv lg1, rv lg2, rv b_14, rv b_44, un] [(.ref lg1)])) K
  refine Wlk.of (fun _ k => XS.aload X72.here hx rfl (hb hby at_113) rfl rfl k) ?_
  show Wlk p.tables e below (T72.setTop (mkF m 115 #[iv kx, iv (2 : Int32), rv fM, rv lg1, rv lg2, rv lg0, rv lg1, rv lg2, rv b_14, rv b_44, un] [(.ref b_44), (.ref lg1)])) K
  have f74 : Exa Z T67.heap b_44 "com/example/gapweave/gapweave/AggregateFunction$Extreme" := (f61.keep K67q)
  obtain ⟨v75, T75, L75, X75, q75, st75⟩ := Ctr.iface (xi := (⟨"com/example/gapweave/gapweave/AggregateFunction$Accumulator", "result", "()Ljava/lang/Object;"⟩ : MethodName)) (c_xr l Z a0 hw b_44 lg2 T67.heap n0 (Nat.le_trans Z0 K69.1) p67_2) X72 hx hH hh72 hown (wd hw 77 rfl) (wd hw 78 rfl) (wd hw 79 rfl) (wd hw 173 rfl) (wd hw 174 rfl) (wd hw 175 rfl) (wd hw 176 rfl) (wd hw 157 rfl) (wd hw 131 rfl) (wd hw 177 rfl) (by decide) f74 pd_402 (g := (mkF m 115 #[iv kx, iv (2 : Int32), rv fM, rv lg1, rv lg2, rv lg0, rv lg1, rv lg2, rv b_14, rv b_44, un] [(.ref b_44), (.ref lg1)])) rfl (by rw [hml]; rfl) (argsL := []) (rest := [(.ref lg1)]) rfl rfl rfl (W := 1) (by show 2 * 0 + _ ≤ _; exact Nat.le_of_eq rfl) (by decide) (by decide) (hb hby at_115) (by decide) (by decide)
  obtain ⟨rfl, N75q, hh75⟩ := q75
  have N76 := Fr.app N73 N75q
  refine Wlk.of (fun _ k => st75 _ k) ?_
  show Wlk p.tables e below (T75.setTop (mkF m 120 #[iv kx, iv (2 : Int32), rv fM, rv lg1, rv lg2, rv lg0, rv lg1, rv lg2, rv b_14, rv b_44, un] [(.ref lg2), (.ref lg1)])) K
  have f77 : Exa Z T67.heap lg1 "java/lang/Long" := (f62.keep K67q)
  have f78 : Fld Z T67.heap lg1 "java/lang/Long" "value" "J" (.long (1 : Int64)) := (f63.keep K67q (ninS ne53 nin0))
  have f79 : Exa Z T67.heap lg2 "java/lang/Long" := (f64.keep K67q)
  have f80 : Fld Z T67.heap lg2 "java/lang/Long" "value" "J" (.long (2 : Int64)) := (f65.keep K67q (ninS ne54 nin0))
  obtain ⟨v81, T81, L81, X81, q81, st81⟩ := Ctr.static (c_sL12 l Z a0 hw lg1 lg2 T67.heap n0 (Nat.le_trans Z0 K69.1) f77 f78 f79 f80 ne_lg1_lg2) X75 hx hH hh75 hown (wd hw 108 rfl) (wd hw 109 rfl) (wd hw 3 rfl) (wd hw 110 rfl) (by decide) pd_403 (g := (mkF m 120 #[iv kx, iv (2 : Int32), rv fM, rv lg1, rv lg2, rv lg0, rv lg1, rv lg2, rv b_14, rv b_44, un] [(.ref lg2), (.ref lg1)])) rfl (by rw [hml]; rfl) (argsL := [(.ref lg1), (.ref lg2)]) (rest := []) rfl rfl rfl (W := 0) (by show 2 * 0 + _ ≤ _; exact Nat.le_of_eq rfl) (by decide) (by decide) (hb hby at_120) (by decide) (by decide)
  obtain ⟨rfl, N81q, hh81⟩ := q81
  have N82 := Fr.app N76 N81q
  refine Wlk.of (fun _ k => st81 _ k) ?_
  show Wlk p.tables e below (T81.setTop (mkF m 123 #[iv kx, iv (2 : Int32), rv fM, rv lg1, rv lg2, rv lg0, rv lg1, rv lg2, rv b_14, rv b_44, un] [(.int (0 : Int32))])) K
  refine Wlk.of (fun _ k => XS.ifNo X81.here hx rfl (hb hby at_123) rfl ((if0 _ _).trans (teq (by decide : (0 : Int32) = (0 : Int32))).2) k) ?_
  show Wlk p.tables e below (T81.setTop (mkF m 126 #[iv kx, iv (2 : Int32), rv fM, rv lg1, rv lg2, rv lg0, rv lg1, rv lg2, rv b_14, rv b_44, un] [])) K
  refine Wlk.of (fun _ k => XS.iconst X81.here hx rfl (hb hby at_126) k) ?_
  show Wlk p.tables e below (T81.setTop (mkF m 127 #[iv kx, iv (2 : Int32), rv fM, rv lg1, rv lg2, rv lg0, rv lg1, rv lg2, rv b_14, rv b_44, un] [(.int (1 : Int32))])) K
  refine Wlk.of (fun _ k => XS.goto X81.here hx rfl (pc0 := 127) (pc' := 131) rfl (hb hby at_127) (by decide) (by decide) k) ?_
  show Wlk p.tables e below (T81.setTop (mkF m 131 #[iv kx, iv (2 : Int32), rv fM, rv lg1, rv lg2, rv lg0, rv lg1, rv lg2, rv b_14, rv b_44, un] [(.int (1 : Int32))])) K
  refine Wlk.of (fun _ k => XS.istore X81.here hx rfl (hb hby at_131) rfl (l' := #[iv kx, iv (2 : Int32), rv fM, rv lg1, rv lg2, rv lg0, rv lg1, rv lg2, rv b_14, rv b_44, iv (1 : Int32)]) rfl k) ?_
  show Wlk p.tables e below (T81.setTop (mkF m 133 #[iv kx, iv (2 : Int32), rv fM, rv lg1, rv lg2, rv lg0, rv lg1, rv lg2, rv b_14, rv b_44, iv (1 : Int32)] [])) K
  refine Wlk.of (fun _ k => XS.aloadN X81.here hx rfl (hb hby at_133) rfl rfl k) ?_
  show Wlk p.tables e below (T81.setTop (mkF m 134 #[iv kx, iv (2 : Int32), rv fM, rv lg1, rv lg2, rv lg0, rv lg1, rv lg2, rv b_14, rv b_44, iv (1 : Int32)] [(.ref fM)])) K
  have f83 : Sta Z T67.heap "com/example/gapweave/gapweave/AggregateFunction" "AVG" "Lcom/example/gapweave/gapweave/AggregateFunction;" (.ref fA) := (own_staKeep (own_staKeep (own_staKeep (own_staKeep (own_staKeep S_AVG K14q own_all0) K25q (own_allS (NSt.of p14_1) own_all0)) K44q own_all0) K58q (own_allS (NSt.of p44_1) own_all0)) K67q (own_allS (NSt.of f61) own_all0))
  have f84 : Sta Z T67.heap "com/example/gapweave/gapweave/AggregateFunction" "SUM" "Lcom/example/gapweave/gapweave/AggregateFunction;" (.ref fS) := (own_staKeep (own_staKeep (own_staKeep (own_staKeep (own_staKeep S_SUM K14q own_all0) K25q (own_allS (NSt.of p14_1) own_all0)) K44q own_all0) K58q (own_allS (NSt.of p44_1) own_all0)) K67q (own_allS (NSt.of f61) own_all0))
  have f85 : Sta Z T67.heap "com/example/gapweave/gapweave/AggregateFunction" "MIN" "Lcom/example/gapweave/gapweave/AggregateFunction;" (.ref fM) := (own_staKeep (own_staKeep (own_staKeep (own_staKeep (own_staKeep S_MIN K14q own_all0) K25q (own_allS (NSt.of p14_1) own_all0)) K44q own_all0) K58q (own_allS (NSt.of p44_1) own_all0)) K67q (own_allS (NSt.of f61) own_all0))
  have f86 : Exa Z T67.heap fM "com/example/gapweave/gapweave/AggregateFunction" := (((f38.keep K44q).keep K58q).keep K67q)
  obtain ⟨v87, T87, L87, X87, q87, st87⟩ := Ctr.virtual (y := (⟨"com/example/gapweave/gapweave/AggregateFunction", "readsValues", "()Z"⟩ : MethodName)) (c_rv2 l Z a0 hw fM fA fS T67.heap n0 (Nat.le_trans Z0 K69.1) f83 f84 f85 ne_fM_fA ne_fM_fS) X81 hx hH hh81 hown (wd hw 121 rfl) (wd hw 122 rfl) (notFace_of_selects (args := #[]) (mvT hZ (wd hw 124 rfl))) (wd hw 124 rfl) (wd hw 123 rfl) (wd hw 6 rfl) (wd hw 125 rfl) (by decide) f86 pd_404 (g := (mkF m 134 #[iv kx, iv (2 : Int32), rv fM, rv lg1, rv lg2, rv lg0, rv lg1, rv lg2, rv b_14, rv b_44, iv (1 : Int32)] [(.ref fM)])) rfl (by rw [hml]; rfl) (argsL := []) (rest := []) rfl rfl rfl (W := 0) (by show 2 * 0 + _ ≤ _; exact Nat.le_of_eq rfl) (by decide) (by decide) (hb hby at_134) (by decide) (by decide)
  obtain ⟨rfl, N87q, hh87⟩ := q87
  have N88 := Fr.app N82 N87q
  refine Wlk.of (fun _ k => st87 _ k) ?_
  show Wlk p.tables e below (T87.setTop (mkF m 137 #[iv kx, iv (2 : Int32), rv fM, rv lg1, rv lg2, rv lg0, rv lg1, rv lg2, rv b_14, rv b_44, iv (1 : Int32)] [(.int (1 : Int32))])) K
  refine Wlk.of (fun _ k => XS.iload X87.here hx rfl (hb hby at_137) rfl k) ?_
  show Wlk p.tables e below (T87.setTop (mkF m 139 #[iv kx, iv (2 : Int32), rv fM, rv lg1, rv lg2, rv lg0, rv lg1, rv lg2, rv b_14, rv b_44, iv (1 : Int32)] [(.int (1 : Int32)), (.int (1 : Int32))])) K
  refine Wlk.of (fun _ k => XS.icmpNo X87.here hx rfl (hb hby at_139) rfl (teq (by decide : (1 : Int32) = (1 : Int32))).2 k) ?_
  show Wlk p.tables e below (T87.setTop (mkF m 142 #[iv kx, iv (2 : Int32), rv fM, rv lg1, rv lg2, rv lg0, rv lg1, rv lg2, rv b_14, rv b_44, iv (1 : Int32)] [])) K
  refine Wlk.of (fun _ k => XS.iconst X87.here hx rfl (hb hby at_142) k) ?_
  show Wlk p.tables e below (T87.setTop (mkF m 143 #[iv kx, iv (2 : Int32), rv fM, rv lg1, rv lg2, rv lg0, rv lg1, rv lg2, rv b_14, rv b_44, iv (1 : Int32)] [(.int (1 : Int32))])) K
  refine Wlk.of (fun _ k => XS.goto X87.here hx rfl (pc0 := 143) (pc' := 147) rfl (hb hby at_143) (by decide) (by decide) k) ?_
  show Wlk p.tables e below (T87.setTop (mkF m 147 #[iv kx, iv (2 : Int32), rv fM, rv lg1, rv lg2, rv lg0, rv lg1, rv lg2, rv b_14, rv b_44, iv (1 : Int32)] [(.int (1 : Int32))])) K
  refine hK (some (.int (1 : Int32))) X87 (fun q => by cases q) (fun fs hr => retN X87 hx (t := .boolean) hret (by simp) (hb hby at_147) hr) ?_ (by decide) (by decide)
  rw [show T87.heap = T67.heap from hh87]
  exact ⟨rfl, N88, K69⟩
theorem ef_c_law3 (m : MethodId) (kx : Int32) : entryFrame m #[(.int kx)] maxLocals = mkF m 0 #[iv kx, un, un, un, un, un, un, un, un, un, un] [] := by first | (simp [entryFrame, mkF, argsToLocals, Value.category, maxLocals]; done) | rfl
def Q_c_law3 (Z : State) (kx : Int32) (fX : Addr) (fA : Addr) (fS : Addr) (fM : Addr) (i64 : Addr) (ca : Addr) (vsC : (List Value)) (lg0 : Addr) (lg1 : Addr) (lg2 : Addr) (sm : Addr) (la : Addr) (vsS : (List Value)) (cK : ClassId) (h0 : Heap) (n0 : Nat) (v : Option Value) (h : Heap) (L : List Loc) : Prop := v = (some (.int (1 : Int32))) ∧ Fr n0 L ∧ Keep h0 h []
set_option maxRecDepth 65536 in
set_option maxHeartbeats 40000000 in
theorem c_law3 (l : Launch) (Z : State) (a0 : Array Value) (hw : ∀ d ∈ tables_1, d.before a0 Z = true) (ws : List Jvm.Cond) (kx : Int32) (fX : Addr) (fA : Addr) (fS : Addr) (fM : Addr) (i64 : Addr) (ca : Addr) (vsC : (List Value)) (lg0 : Addr) (lg1 : Addr) (lg2 : Addr) (sm : Addr) (la : Addr) (vsS : (List Value)) (cK : ClassId) (h0 : Heap) (n0 : Nat) (Z0 : n0 ≤ h0.size) (hi : (kx &&& (2147483647 : Int32)) % (7 : Int32) = (3 : Int32)) (S_AVG : Sta Z h0 "com/example/gapweave/gapweave/AggregateFunction" "AVG" "Lcom/example/gapweave/gapweave/AggregateFunction;" (.ref fA)) (S_SUM : Sta Z h0 "com/example/gapweave/gapweave/AggregateFunction" "SUM" "Lcom/example/gapweave/gapweave/AggregateFunction;" (.ref fS)) (S_MIN : Sta Z h0 "com/example/gapweave/gapweave/AggregateFunction" "MIN" "Lcom/example/gapweave/gapweave/AggregateFunction;" (.ref fM)) (S_MAX : Sta Z h0 "com/example/gapweave/gapweave/AggregateFunction" "MAX" "Lcom/example/gapweave/gapweave/AggregateFunction;" (.ref fX)) (E_fX : Exa Z h0 fX "com/example/gapweave/gapweave/AggregateFunction") (F_fX_ordinal : Fld Z h0 fX "java/lang/Enum" "ordinal" "I" (.int (3 : Int32))) (ne_fX_fA : fX ≠ fA) (ne_fX_fS : fX ≠ fS) (ne_fX_fM : fX ≠ fM) (S_INT64 : Sta Z h0 "com/example/gapweave/gapweave/ColumnType" "INT64" "Lcom/example/gapweave/gapweave/ColumnType;" (.ref i64)) (S_cache : Sta Z h0 "java/lang/Long$LongCache" "cache" "[Ljava/lang/Long;" (.ref ca)) (A_ca : Arl Z h0 ca (.object "java/lang/Long") vsC) (hC0 : vsC[128]? = some (.ref lg0)) (hC1 : vsC[129]? = some (.ref lg1)) (hC2 : vsC[130]? = some (.ref lg2)) (E_lg0 : Exa Z h0 lg0 "java/lang/Long") (F_lg0_value : Fld Z h0 lg0 "java/lang/Long" "value" "J" (.long (0 : Int64))) (E_lg1 : Exa Z h0 lg1 "java/lang/Long") (F_lg1_value : Fld Z h0 lg1 "java/lang/Long" "value" "J" (.long (1 : Int64))) (E_lg2 : Exa Z h0 lg2 "java/lang/Long") (F_lg2_value : Fld Z h0 lg2 "java/lang/Long" "value" "J" (.long (2 : Int64))) (S__SwitchMap_com_example_gapweave_gapweave_ColumnType : Sta Z h0 "com/example/gapweave/gapweave/AggregateFunction$1" "$SwitchMap$com$example$gapweave$gapweave$ColumnType" "[I" (.ref sm)) (A_sm : Arl Z h0 sm .int vsS) (hS2 : vsS[2]? = some (.int (2 : Int32))) (E_i64 : Exa Z h0 i64 "com/example/gapweave/gapweave/ColumnType") (F_i64_ordinal : Fld Z h0 i64 "java/lang/Enum" "ordinal" "I" (.int (2 : Int32))) (hsite : Site Z (⟨"com/example/gapweave/gapweave/AggregateFunction", "order", "(Lcom/example/gapweave/gapweave/ColumnType;)Ljava/util/Comparator;"⟩ : MethodName) 48 la) (hmade : Jvm.LamKit.Made Z "com/example/gapweave/gapweave/AggregateFunction" own_sg cK) (Fn_la : Fn h0 la cK) (ne_lg1_lg2 : lg1 ≠ lg2) :
    Ctr l Z h0 x code maxLocals ret ws room_1 #[(.int kx)] (Q_c_law3 Z kx fX fA fS fM i64 ca vsC lg0 lg1 lg2 sm la vsS cK h0 n0) := by
  refine Ctr.make (plainFor_of_name pn_250) fun p e s m below meth c s₁ K hret hml hx hby hown hnm hnamed hH hZ X0 e0 hK => ?_
  have hown : s.vm.findClass "com/example/gapweave/gapweave/AggregateFunctionReadsValuesPinLaw" = some m.cls := hown
  have hml : c.maxLocals = 11 := hml
  have N0 := Fr.nil n0
  have K0 : Keep h0 h0 [] := Keep.refl _ _
  refine Wlk.of (fun _ k => castTop (ef_c_law3 m kx) k) ?_
  show Wlk p.tables e below (s₁.setTop (mkF m 0 #[iv kx, un, un, un, un, un, un, un, un, un, un] [])) K
  refine Wlk.of (fun _ k => XS.iloadN X0.here hx rfl (hb hby at_0) rfl k) ?_
  show Wlk p.tables e below (s₁.setTop (mkF m 1 #[iv kx, un, un, un, un, un, un, un, un, un, un] [(.int kx)])) K
  refine Wlk.of (fun _ k => X0.ldcInt hx hown (mvT hZ (wd hw 0 rfl)) (g := (mkF m 1 #[iv kx, un, un, un, un, un, un, un, un, un, un] [(.int kx)])) rfl (hb hby at_1) _ k) ?_
  show Wlk p.tables e below (s₁.setTop (mkF m 3 #[iv kx, un, un, un, un, un, un, un, un, un, un] [(.int (2147483647 : Int32)), (.int kx)])) K
  refine Wlk.of (fun _ k => XS.iand X0.here hx rfl (hb hby at_3) rfl k) ?_
  show Wlk p.tables e below (s₁.setTop (mkF m 4 #[iv kx, un, un, un, un, un, un, un, un, un, un] [(.int (kx &&& (2147483647 : Int32)))])) K
  refine Wlk.of (fun _ k => XS.bipush X0.here hx rfl (hb hby at_4) k) ?_
  show Wlk p.tables e below (s₁.setTop (mkF m 6 #[iv kx, un, un, un, un, un, un, un, un, un, un] [(.int (7 : Int32)), (.int (kx &&& (2147483647 : Int32)))])) K
  refine Wlk.of (fun _ k => iremM X0 hx rfl (hb hby at_6) rfl (by decide) k) ?_
  show Wlk p.tables e below (s₁.setTop (mkF m 7 #[iv kx, un, un, un, un, un, un, un, un, un, un] [(.int ((kx &&& (2147483647 : Int32)) % (7 : Int32)))])) K
  rw [hi]
  refine Wlk.of (fun _ k => XS.istoreN X0.here hx rfl (hb hby at_7) rfl (l' := #[iv kx, iv (3 : Int32), un, un, un, un, un, un, un, un, un]) rfl k) ?_
  show Wlk p.tables e below (s₁.setTop (mkF m 8 #[iv kx, iv (3 : Int32), un, un, un, un, un, un, un, un, un] [])) K
  refine Wlk.of (fun _ k => XS.iloadN X0.here hx rfl (hb hby at_8) rfl k) ?_
  show Wlk p.tables e below (s₁.setTop (mkF m 9 #[iv kx, iv (3 : Int32), un, un, un, un, un, un, un, un, un] [(.int (3 : Int32))])) K
  obtain ⟨v1, T1, L1, X1, q1, st1⟩ := Ctr.static (c_pick3 l Z a0 hw fX h0 n0 (Nat.le_trans Z0 K0.1) S_MAX) X0 hx hH e0 hown (wd hw 1 rfl) (wd hw 2 rfl) (wd hw 3 rfl) (wd hw 4 rfl) (by decide) pd_399 (g := (mkF m 9 #[iv kx, iv (3 : Int32), un, un, un, un, un, un, un, un, un] [(.int (3 : Int32))])) rfl (by rw [hml]; rfl) (argsL := [(.int (3 : Int32))]) (rest := []) rfl rfl rfl (W := 0) (by show 2 * 0 + _ ≤ _; exact Nat.le_of_eq rfl) (by decide) (by decide) (hb hby at_9) (by decide) (by decide)
  obtain ⟨rfl, N1q, hh1⟩ := q1
  have N2 := Fr.app N0 N1q
  refine Wlk.of (fun _ k => st1 _ k) ?_
  show Wlk p.tables e below (T1.setTop (mkF m 12 #[iv kx, iv (3 : Int32), un, un, un, un, un, un, un, un, un] [(.ref fX)])) K
  refine Wlk.of (fun _ k => XS.astoreN X1.here hx rfl (hb hby at_12) rfl rfl (l' := #[iv kx, iv (3 : Int32), rv fX, un, un, un, un, un, un, un, un]) rfl k) ?_
  show Wlk p.tables e below (T1.setTop (mkF m 13 #[iv kx, iv (3 : Int32), rv fX, un, un, un, un, un, un, un, un] [])) K
  refine Wlk.of (fun _ k => XS.lconst X1.here hx rfl (hb hby at_13) k) ?_
  show Wlk p.tables e below (T1.setTop (mkF m 14 #[iv kx, iv (3 : Int32), rv fX, un, un, un, un, un, un, un, un] [(.long (1 : Int64))])) K
  obtain ⟨v3, T3, L3, X3, q3, st3⟩ := Ctr.static (c_vo1 l Z a0 hw ca vsC lg1 h0 n0 (Nat.le_trans Z0 K0.1) S_cache A_ca hC1) X1 hx hH hh1 hown (wd hw 8 rfl) (wd hw 9 rfl) (wd hw 10 rfl) (wd hw 11 rfl) (by decide) pd_174 (g := (mkF m 14 #[iv kx, iv (3 : Int32), rv fX, un, un, un, un, un, un, un, un] [(.long (1 : Int64))])) rfl (by rw [hml]; rfl) (argsL := [(.long (1 : Int64))]) (rest := []) rfl rfl rfl (W := 0) (by show 2 * 0 + _ ≤ _; exact Nat.le_of_eq rfl) (by decide) (by decide) (hb hby at_14) (by decide) (by decide)
  obtain ⟨rfl, N3q, hh3⟩ := q3
  have N4 := Fr.app N2 N3q
  refine Wlk.of (fun _ k => st3 _ k) ?_
  show Wlk p.tables e below (T3.setTop (mkF m 17 #[iv kx, iv (3 : Int32), rv fX, un, un, un, un, un, un, un, un] [(.ref lg1)])) K
  refine Wlk.of (fun _ k => XS.astoreN X3.here hx rfl (hb hby at_17) rfl rfl (l' := #[iv kx, iv (3 : Int32), rv fX, rv lg1, un, un, un, un, un, un, un]) rfl k) ?_
  show Wlk p.tables e below (T3.setTop (mkF m 18 #[iv kx, iv (3 : Int32), rv fX, rv lg1, un, un, un, un, un, un, un] [])) K
  refine Wlk.of (fun _ k => X3.ldc2Long hx hown (mvT hZ (wd hw 16 rfl)) (g := (mkF m 18 #[iv kx, iv (3 : Int32), rv fX, rv lg1, un, un, un, un, un, un, un] [])) rfl (hb hby at_18) _ k) ?_
  show Wlk p.tables e below (T3.setTop (mkF m 21 #[iv kx, iv (3 : Int32), rv fX, rv lg1, un, un, un, un, un, un, un] [(.long (2 : Int64))])) K
  obtain ⟨v5, T5, L5, X5, q5, st5⟩ := Ctr.static (c_vo2 l Z a0 hw ca vsC lg2 h0 n0 (Nat.le_trans Z0 K0.1) S_cache A_ca hC2) X3 hx hH hh3 hown (wd hw 8 rfl) (wd hw 9 rfl) (wd hw 10 rfl) (wd hw 11 rfl) (by decide) pd_174 (g := (mkF m 21 #[iv kx, iv (3 : Int32), rv fX, rv lg1, un, un, un, un, un, un, un] [(.long (2 : Int64))])) rfl (by rw [hml]; rfl) (argsL := [(.long (2 : Int64))]) (rest := []) rfl rfl rfl (W := 0) (by show 2 * 0 + _ ≤ _; exact Nat.le_of_eq rfl) (by decide) (by decide) (hb hby at_21) (by decide) (by decide)
  obtain ⟨rfl, N5q, hh5⟩ := q5
  have N6 := Fr.app N4 N5q
  refine Wlk.of (fun _ k => st5 _ k) ?_
  show Wlk p.tables e below (T5.setTop (mkF m 24 #[iv kx, iv (3 : Int32), rv fX, rv lg1, un, un, un, un, un, un, un] [(.ref lg2)])) K
  refine Wlk.of (fun _ k => XS.astore X5.here hx rfl (hb hby at_24) rfl rfl (l' := #[iv kx, iv (3 : Int32), rv fX, rv lg1, rv lg2, un, un, un, un, un, un]) rfl k) ?_
  show Wlk p.tables e below (T5.setTop (mkF m 26 #[iv kx, iv (3 : Int32), rv fX, rv lg1, rv lg2, un, un, un, un, un, un] [])) K
  refine Wlk.of (fun _ k => XS.lconst X5.here hx rfl (hb hby at_26) k) ?_
  show Wlk p.tables e below (T5.setTop (mkF m 27 #[iv kx, iv (3 : Int32), rv fX, rv lg1, rv lg2, un, un, un, un, un, un] [(.long (0 : Int64))])) K
  obtain ⟨v7, T7, L7, X7, q7, st7⟩ := Ctr.static (c_vo0 l Z a0 hw ca vsC lg0 h0 n0 (Nat.le_trans Z0 K0.1) S_cache A_ca hC0) X5 hx hH hh5 hown (wd hw 8 rfl) (wd hw 9 rfl) (wd hw 10 rfl) (wd hw 11 rfl) (by decide) pd_174 (g := (mkF m 27 #[iv kx, iv (3 : Int32), rv fX, rv lg1, rv lg2, un, un, un, un, un, un] [(.long (0 : Int64))])) rfl (by rw [hml]; rfl) (argsL := [(.long (0 : Int64))]) (rest := []) rfl rfl rfl (W := 0) (by show 2 * 0 + _ ≤ _; exact Nat.le_of_eq rfl) (by decide) (by decide) (hb hby at_27) (by decide) (by decide)
  obtain ⟨rfl, N7q, hh7⟩ := q7
  have N8 := Fr.app N6 N7q
  refine Wlk.of (fun _ k => st7 _ k) ?_
  show Wlk p.tables e below (T7.setTop (mkF m 30 #[iv kx, iv (3 : Int32), rv fX, rv lg1, rv lg2, un, un, un, un, un, un] [(.ref lg0)])) K
  refine Wlk.of (fun _ k => XS.astore X7.here hx rfl (hb hby at_30) rfl rfl (l' := #[iv kx, iv (3 : Int32), rv fX, rv lg1, rv lg2, rv lg0, un, un, un, un, un]) rfl k) ?_
  show Wlk p.tables e below (T7.setTop (mkF m 32 #[iv kx, iv (3 : Int32), rv fX, rv lg1, rv lg2, rv lg0, un, un, un, un, un] [])) K
  refine Wlk.of (fun _ k => XS.lconst X7.here hx rfl (hb hby at_32) k) ?_
  show Wlk p.tables e below (T7.setTop (mkF m 33 #[iv kx, iv (3 : Int32), rv fX, rv lg1, rv lg2, rv lg0, un, un, un, un, un] [(.long (1 : Int64))])) K
  obtain ⟨v9, T9, L9, X9, q9, st9⟩ := Ctr.static (c_vo1 l Z a0 hw ca vsC lg1 h0 n0 (Nat.le_trans Z0 K0.1) S_cache A_ca hC1) X7 hx hH hh7 hown (wd hw 8 rfl) (wd hw 9 rfl) (wd hw 10 rfl) (wd hw 11 rfl) (by decide) pd_174 (g := (mkF m 33 #[iv kx, iv (3 : Int32), rv fX, rv lg1, rv lg2, rv lg0, un, un, un, un, un] [(.long (1 : Int64))])) rfl (by rw [hml]; rfl) (argsL := [(.long (1 : Int64))]) (rest := []) rfl rfl rfl (W := 0) (by show 2 * 0 + _ ≤ _; exact Nat.le_of_eq rfl) (by decide) (by decide) (hb hby at_33) (by decide) (by decide)
  obtain ⟨rfl, N9q, hh9⟩ := q9
  have N10 := Fr.app N8 N9q
  refine Wlk.of (fun _ k => st9 _ k) ?_
  show Wlk p.tables e below (T9.setTop (mkF m 36 #[iv kx, iv (3 : Int32), rv fX, rv lg1, rv lg2, rv lg0, un, un, un, un, un] [(.ref lg1)])) K
  refine Wlk.of (fun _ k => XS.astore X9.here hx rfl (hb hby at_36) rfl rfl (l' := #[iv kx, iv (3 : Int32), rv fX, rv lg1, rv lg2, rv lg0, rv lg1, un, un, un, un]) rfl k) ?_
  show Wlk p.tables e below (T9.setTop (mkF m 38 #[iv kx, iv (3 : Int32), rv fX, rv lg1, rv lg2, rv lg0, rv lg1, un, un, un, un] [])) K
  refine Wlk.of (fun _ k => X9.ldc2Long hx hown (mvT hZ (wd hw 16 rfl)) (g := (mkF m 38 #[iv kx, iv (3 : Int32), rv fX, rv lg1, rv lg2, rv lg0, rv lg1, un, un, un, un] [])) rfl (hb hby at_38) _ k) ?_
  show Wlk p.tables e below (T9.setTop (mkF m 41 #[iv kx, iv (3 : Int32), rv fX, rv lg1, rv lg2, rv lg0, rv lg1, un, un, un, un] [(.long (2 : Int64))])) K
  obtain ⟨v11, T11, L11, X11, q11, st11⟩ := Ctr.static (c_vo2 l Z a0 hw ca vsC lg2 h0 n0 (Nat.le_trans Z0 K0.1) S_cache A_ca hC2) X9 hx hH hh9 hown (wd hw 8 rfl) (wd hw 9 rfl) (wd hw 10 rfl) (wd hw 11 rfl) (by decide) pd_174 (g := (mkF m 41 #[iv kx, iv (3 : Int32), rv fX, rv lg1, rv lg2, rv lg0, rv lg1, un, un, un, un] [(.long (2 : Int64))])) rfl (by rw [hml]; rfl) (argsL := [(.long (2 : Int64))]) (rest := []) rfl rfl rfl (W := 0) (by show 2 * 0 + _ ≤ _; exact Nat.le_of_eq rfl) (by decide) (by decide) (hb hby at_41) (by decide) (by decide)
  obtain ⟨rfl, N11q, hh11⟩ := q11
  have N12 := Fr.app N10 N11q
  refine Wlk.of (fun _ k => st11 _ k) ?_
  show Wlk p.tables e below (T11.setTop (mkF m 44 #[iv kx, iv (3 : Int32), rv fX, rv lg1, rv lg2, rv lg0, rv lg1, un, un, un, un] [(.ref lg2)])) K
  refine Wlk.of (fun _ k => XS.astore X11.here hx rfl (hb hby at_44) rfl rfl (l' := #[iv kx, iv (3 : Int32), rv fX, rv lg1, rv lg2, rv lg0, rv lg1, rv lg2, un, un, un]) rfl k) ?_
  show Wlk p.tables e below (T11.setTop (mkF m 46 #[iv kx, iv (3 : Int32), rv fX, rv lg1, rv lg2, rv lg0, rv lg1, rv lg2, un, un, un] [])) K
  refine Wlk.of (fun _ k => XS.aloadN X11.here hx rfl (hb hby at_46) rfl rfl k) ?_
  show Wlk p.tables e below (T11.setTop (mkF m 47 #[iv kx, iv (3 : Int32), rv fX, rv lg1, rv lg2, rv lg0, rv lg1, rv lg2, un, un, un] [(.ref fX)])) K
  obtain ⟨T13, X13, e13, st13⟩ := getS2 X11 hx hZ hown (host := "") (Or.inl (wd hw 17 rfl)) Via.refl hh11 S_INT64 (g := (mkF m 47 #[iv kx, iv (3 : Int32), rv fX, rv lg1, rv lg2, rv lg0, rv lg1, rv lg2, un, un, un] [(.ref fX)])) rfl (hb hby at_47)
  refine Wlk.of (fun _ k => st13 _ k) ?_
  show Wlk p.tables e below (T13.setTop (mkF m 50 #[iv kx, iv (3 : Int32), rv fX, rv lg1, rv lg2, rv lg0, rv lg1, rv lg2, un, un, un] [(.ref i64), (.ref fX)])) K
  obtain ⟨v14, T14, L14, X14, q14, st14⟩ := Ctr.virtual (y := (⟨"com/example/gapweave/gapweave/AggregateFunction", "start", "(Lcom/example/gapweave/gapweave/ColumnType;)Lcom/example/gapweave/gapweave/AggregateFunction$Accumulator;"⟩ : MethodName)) (c_start3 l Z a0 hw fX i64 sm la vsS h0 n0 (Nat.le_trans Z0 K0.1) E_fX F_fX_ordinal S__SwitchMap_com_example_gapweave_gapweave_ColumnType A_sm hS2 E_i64 F_i64_ordinal hsite) X13 hx hH e13 hown (wd hw 20 rfl) (wd hw 21 rfl) (notFace_of_selects (args := #[]) (mvT hZ (wd hw 23 rfl))) (wd hw 23 rfl) (wd hw 22 rfl) (wd hw 6 rfl) (wd hw 24 rfl) (by decide) E_fX pd_400 (g := (mkF m 50 #[iv kx, iv (3 : Int32), rv fX, rv lg1, rv lg2, rv lg0, rv lg1, rv lg2, un, un, un] [(.ref i64), (.ref fX)])) rfl (by rw [hml]; rfl) (argsL := [(.ref i64)]) (rest := []) rfl rfl rfl (W := 0) (by show 2 * 0 + _ ≤ _; exact Nat.le_of_eq rfl) (by decide) (by decide) (hb hby at_50) (by decide) (by decide)
  obtain ⟨b_14, rfl, N14q, K14q, p14_0, p14_1, p14_2, p14_3, p14_4, p14_5⟩ := q14
  have N15 := Fr.app N12 N14q
  refine Wlk.of (fun _ k => st14 _ k) ?_
  have ne16 : ca ≠ b_14 := Nat.ne_of_lt (Nat.lt_of_lt_of_le A_ca.lt p14_0)
  have ne17 : fX ≠ b_14 := Nat.ne_of_lt (Nat.lt_of_lt_of_le E_fX.lt p14_0)
  have ne18 : i64 ≠ b_14 := Nat.ne_of_lt (Nat.lt_of_lt_of_le E_i64.lt p14_0)
  have ne19 : la ≠ b_14 := Nat.ne_of_lt (Nat.lt_of_lt_of_le Fn_la.lt p14_0)
  have ne20 : lg0 ≠ b_14 := Nat.ne_of_lt (Nat.lt_of_lt_of_le E_lg0.lt p14_0)
  have ne21 : lg1 ≠ b_14 := Nat.ne_of_lt (Nat.lt_of_lt_of_le E_lg1.lt p14_0)
  have ne22 : lg2 ≠ b_14 := Nat.ne_of_lt (Nat.lt_of_lt_of_le E_lg2.lt p14_0)
  have ne23 : sm ≠ b_14 := Nat.ne_of_lt (Nat.lt_of_lt_of_le A_sm.lt p14_0)
  have sz_b_14 : h0.size ≤ b_14 := Nat.le_trans K0.1 p14_0
  have g_b_14 : n0 ≤ b_14 := Nat.le_trans Z0 sz_b_14
  have K24 : Keep h0 T14.heap [] := K0.trans K14q all0
  show Wlk p.tables e below (T14.setTop (mkF m 53 #[iv kx, iv (3 : Int32), rv fX, rv lg1, rv lg2, rv lg0, rv lg1, rv lg2, un, un, un] [(.ref b_14)])) K
  refine Wlk.of (fun _ k => XS.astore X14.here hx rfl (hb hby at_53) rfl rfl (l' := #[iv kx, iv (3 : Int32), rv fX, rv lg1, rv lg2, rv lg0, rv lg1, rv lg2, rv b_14, un, un]) rfl k) ?_
  show Wlk p.tables e below (T14.setTop (mkF m 55 #[iv kx, iv (3 : Int32), rv fX, rv lg1, rv lg2, rv lg0, rv lg1, rv lg2, rv b_14, un, un] [])) K
  refine Wlk.of (fun _ k => XS.aload X14.here hx rfl (hb hby at_55) rfl rfl k) ?_
  show Wlk p.tables e below (T14.setTop (mkF m 57 #[iv kx, iv (3 : Int32), rv fX, rv lg1, rv lg2, rv lg0, rv lg1, rv lg2, rv b_14, un, un] [(.ref b_14)])) K
  refine Wlk.of (fun _ k => XS.aloadN X14.here hx rfl (hb hby at_57) rfl rfl k) ?_
  show Wlk p.tables e below (T14.setTop (mkF m 58 #[iv kx, iv (3 : Int32), rv fX, rv lg1, rv lg2, rv lg0, rv lg1, rv lg2, rv b_14, un, un] [(.ref lg1), (.ref b_14)])) K
  refine Wlk.of (fun _ k => XS.aload X14.here hx rfl (hb hby at_58) rfl rfl k) ?_
  show Wlk p.tables e below (T14.setTop (mkF m 60 #[iv kx, iv (3 : Int32), rv fX, rv lg1, rv lg2, rv lg0, rv lg1, rv lg2, rv b_14, un, un] [(.ref lg0), (.ref lg1), (.ref b_14)])) K
  obtain ⟨v25, T25, L25, X25, q25, st25⟩ := Ctr.iface (xi := (⟨"com/example/gapweave/gapweave/AggregateFunction$Accumulator", "add", "(Ljava/lang/Object;Ljava/lang/Object;)V"⟩ : MethodName)) (c_xap l Z a0 hw b_14 lg1 lg0 la T14.heap n0 (Nat.le_trans Z0 K24.1) p14_1 p14_2 p14_3 p14_4 p14_5 g_b_14) X14 hx hH rfl hown (wd hw 49 rfl) (wd hw 50 rfl) (wd hw 51 rfl) (wd hw 153 rfl) (wd hw 154 rfl) (wd hw 155 rfl) (wd hw 156 rfl) (wd hw 157 rfl) (wd hw 131 rfl) (wd hw 158 rfl) (by decide) p14_1 pd_401 (g := (mkF m 60 #[iv kx, iv (3 : Int32), rv fX, rv lg1, rv lg2, rv lg0, rv lg1, rv lg2, rv b_14, un, un] [(.ref lg0), (.ref lg1), (.ref b_14)])) rfl (by rw [hml]; rfl) (argsL := [(.ref lg1), (.ref lg0)]) (rest := []) rfl rfl rfl (W := 0) (by show 2 * 0 + _ ≤ _; exact Nat.le_of_eq rfl) (by decide) (by decide) (hb hby at_60) (by decide) (by decide)
  obtain ⟨rfl, N25q, K25q, p25_0, p25_1, p25_2, p25_3⟩ := q25
  have N26 := Fr.app N15 N25q
  refine Wlk.of (fun _ k => st25 _ k) ?_
  have K27 : Keep h0 T25.heap [] := K24.trans K25q (allS (Or.inr sz_b_14) all0)
  show Wlk p.tables e below (T25.setTop (mkF m 65 #[iv kx, iv (3 : Int32), rv fX, rv lg1, rv lg2, rv lg0, rv lg1, rv lg2, rv b_14, un, un] [])) K
  refine Wlk.of (fun _ k => XS.aload X25.here hx rfl (hb hby at_65) rfl rfl k) ?_
  show Wlk p.tables e below (T25.setTop (mkF m 67 #[iv kx, iv (3 : Int32), rv fX, rv lg1, rv lg2, rv lg0, rv lg1, rv lg2, rv b_14, un, un] [(.ref b_14)])) K
  refine Wlk.of (fun _ k => XS.aload X25.here hx rfl (hb hby at_67) rfl rfl k) ?_
  show Wlk p.tables e below (T25.setTop (mkF m 69 #[iv kx, iv (3 : Int32), rv fX, rv lg1, rv lg2, rv lg0, rv lg1, rv lg2, rv b_14, un, un] [(.ref lg2), (.ref b_14)])) K
  refine Wlk.of (fun _ k => XS.aload X25.here hx rfl (hb hby at_69) rfl rfl k) ?_
  show Wlk p.tables e below (T25.setTop (mkF m 71 #[iv kx, iv (3 : Int32), rv fX, rv lg1, rv lg2, rv lg0, rv lg1, rv lg2, rv b_14, un, un] [(.ref lg1), (.ref lg2), (.ref b_14)])) K
  have f28 : Exa Z T25.heap b_14 "com/example/gapweave/gapweave/AggregateFunction$Extreme" := (p14_1.keep K25q)
  have f29 : Exa Z T25.heap lg1 "java/lang/Long" := ((E_lg1.keep K14q).keep K25q)
  have f30 : Fld Z T25.heap lg1 "java/lang/Long" "value" "J" (.long (1 : Int64)) := ((F_lg1_value.keep K14q nin0).keep K25q (ninS ne21 nin0))
  have f31 : Exa Z T25.heap lg0 "java/lang/Long" := ((E_lg0.keep K14q).keep K25q)
  have f32 : Fld Z T25.heap lg0 "java/lang/Long" "value" "J" (.long (0 : Int64)) := ((F_lg0_value.keep K14q nin0).keep K25q (ninS ne20 nin0))
  have f33 : Fn T25.heap la cK := ((Fn_la.keep K14q).keep K25q)
  obtain ⟨v34, T34, L34, X34, q34, st34⟩ := Ctr.iface (xi := (⟨"com/example/gapweave/gapweave/AggregateFunction$Accumulator", "add", "(Ljava/lang/Object;Ljava/lang/Object;)V"⟩ : MethodName)) (c_xbp0 l Z a0 hw b_14 lg2 lg1 la lg1 lg0 cK T25.heap n0 (Nat.le_trans Z0 K27.1) f28 p25_0 p25_1 p25_2 p25_3 f29 f30 f31 f32 f33 hmade g_b_14) X25 hx hH rfl hown (wd hw 49 rfl) (wd hw 50 rfl) (wd hw 51 rfl) (wd hw 153 rfl) (wd hw 154 rfl) (wd hw 155 rfl) (wd hw 156 rfl) (wd hw 157 rfl) (wd hw 131 rfl) (wd hw 158 rfl) (by decide) f28 pd_401 (g := (mkF m 71 #[iv kx, iv (3 : Int32), rv fX, rv lg1, rv lg2, rv lg0, rv lg1, rv lg2, rv b_14, un, un] [(.ref lg1), (.ref lg2), (.ref b_14)])) rfl (by rw [hml]; rfl) (argsL := [(.ref lg2), (.ref lg1)]) (rest := []) rfl rfl rfl (W := 0) (by show 2 * 0 + _ ≤ _; exact Nat.le_of_eq rfl) (by decide) (by decide) (hb hby at_71) (by decide) (by decide)
  obtain ⟨rfl, N34q, K34q, p34_0, p34_1, p34_2, p34_3⟩ := q34
  have N35 := Fr.app N26 N34q
  refine Wlk.of (fun _ k => st34 _ k) ?_
  have K36 : Keep h0 T34.heap [] := K27.trans K34q (allS (Or.inr sz_b_14) all0)
  show Wlk p.tables e below (T34.setTop (mkF m 76 #[iv kx, iv (3 : Int32), rv fX, rv lg1, rv lg2, rv lg0, rv lg1, rv lg2, rv b_14, un, un] [])) K
  refine Wlk.of (fun _ k => XS.aloadN X34.here hx rfl (hb hby at_76) rfl rfl k) ?_
  show Wlk p.tables e below (T34.setTop (mkF m 77 #[iv kx, iv (3 : Int32), rv fX, rv lg1, rv lg2, rv lg0, rv lg1, rv lg2, rv b_14, un, un] [(.ref fX)])) K
  have f37 : Sta Z T34.heap "com/example/gapweave/gapweave/ColumnType" "INT64" "Lcom/example/gapweave/gapweave/ColumnType;" (.ref i64) := (own_staKeep (own_staKeep (own_staKeep S_INT64 K14q own_all0) K25q (own_allS (NSt.of p14_1) own_all0)) K34q (own_allS (NSt.of f28) own_all0))
  obtain ⟨T38, X38, e38, st38⟩ := getS2 X34 hx hZ hown (host := "") (Or.inl (wd hw 17 rfl)) Via.refl rfl f37 (g := (mkF m 77 #[iv kx, iv (3 : Int32), rv fX, rv lg1, rv lg2, rv lg0, rv lg1, rv lg2, rv b_14, un, un] [(.ref fX)])) rfl (hb hby at_77)
  refine Wlk.of (fun _ k => st38 _ k) ?_
  show Wlk p.tables e below (T38.setTop (mkF m 80 #[iv kx, iv (3 : Int32), rv fX, rv lg1, rv lg2, rv lg0, rv lg1, rv lg2, rv b_14, un, un] [(.ref i64), (.ref fX)])) K
  have f39 : Exa Z T34.heap fX "com/example/gapweave/gapweave/AggregateFunction" := (((E_fX.keep K14q).keep K25q).keep K34q)
  have f40 : Fld Z T34.heap fX "java/lang/Enum" "ordinal" "I" (.int (3 : Int32)) := (((F_fX_ordinal.keep K14q nin0).keep K25q (ninS ne17 nin0)).keep K34q (ninS ne17 nin0))
  have f41 : Sta Z T34.heap "com/example/gapweave/gapweave/AggregateFunction$1" "$SwitchMap$com$example$gapweave$gapweave$ColumnType" "[I" (.ref sm) := (own_staKeep (own_staKeep (own_staKeep S__SwitchMap_com_example_gapweave_gapweave_ColumnType K14q own_all0) K25q (own_allS (NSt.of p14_1) own_all0)) K34q (own_allS (NSt.of f28) own_all0))
  have f42 : Arl Z T34.heap sm .int vsS := (((A_sm.keep K14q nin0).keep K25q (ninS ne23 nin0)).keep K34q (ninS ne23 nin0))
  have f43 : Exa Z T34.heap i64 "com/example/gapweave/gapweave/ColumnType" := (((E_i64.keep K14q).keep K25q).keep K34q)
  have f44 : Fld Z T34.heap i64 "java/lang/Enum" "ordinal" "I" (.int (2 : Int32)) := (((F_i64_ordinal.keep K14q nin0).keep K25q (ninS ne18 nin0)).keep K34q (ninS ne18 nin0))
  obtain ⟨v45, T45, L45, X45, q45, st45⟩ := Ctr.virtual (y := (⟨"com/example/gapweave/gapweave/AggregateFunction", "start", "(Lcom/example/gapweave/gapweave/ColumnType;)Lcom/example/gapweave/gapweave/AggregateFunction$Accumulator;"⟩ : MethodName)) (c_start3 l Z a0 hw fX i64 sm la vsS T34.heap n0 (Nat.le_trans Z0 K36.1) f39 f40 f41 f42 hS2 f43 f44 hsite) X38 hx hH e38 hown (wd hw 20 rfl) (wd hw 21 rfl) (notFace_of_selects (args := #[]) (mvT hZ (wd hw 23 rfl))) (wd hw 23 rfl) (wd hw 22 rfl) (wd hw 6 rfl) (wd hw 24 rfl) (by decide) f39 pd_400 (g := (mkF m 80 #[iv kx, iv (3 : Int32), rv fX, rv lg1, rv lg2, rv lg0, rv lg1, rv lg2, rv b_14, un, un] [(.ref i64), (.ref fX)])) rfl (by rw [hml]; rfl) (argsL := [(.ref i64)]) (rest := []) rfl rfl rfl (W := 0) (by show 2 * 0 + _ ≤ _; exact Nat.le_of_eq rfl) (by decide) (by decide) (hb hby at_80) (by decide) (by decide)
  obtain ⟨b_45, rfl, N45q, K45q, p45_0, p45_1, p45_2, p45_3, p45_4, p45_5⟩ := q45
  have N46 := Fr.app N35 N45q
  refine Wlk.of (fun _ k => st45 _ k) ?_
  have f48 : Exa Z T34.heap b_14 "com/example/gapweave/gapweave/AggregateFunction$Extreme" := (f28.keep K34q)
  have ne47 : b_14 ≠ b_45 := Nat.ne_of_lt (Nat.lt_of_lt_of_le f48.lt p45_0)
  have f50 : Arl Z T34.heap ca (.object "java/lang/Long") vsC := (((A_ca.keep K14q nin0).keep K25q (ninS ne16 nin0)).keep K34q (ninS ne16 nin0))
  have ne49 : ca ≠ b_45 := Nat.ne_of_lt (Nat.lt_of_lt_of_le f50.lt p45_0)
  have ne51 : fX ≠ b_45 := Nat.ne_of_lt (Nat.lt_of_lt_of_le f39.lt p45_0)
  have ne52 : i64 ≠ b_45 := Nat.ne_of_lt (Nat.lt_of_lt_of_le f43.lt p45_0)
  have f54 : Fn T34.heap la cK := (f33.keep K34q)
  have ne53 : la ≠ b_45 := Nat.ne_of_lt (Nat.lt_of_lt_of_le f54.lt p45_0)
  have f56 : Exa Z T34.heap lg0 "java/lang/Long" := (f31.keep K34q)
  have ne55 : lg0 ≠ b_45 := Nat.ne_of_lt (Nat.lt_of_lt_of_le f56.lt p45_0)
  have f58 : Exa Z T34.heap lg1 "java/lang/Long" := (f29.keep K34q)
  have ne57 : lg1 ≠ b_45 := Nat.ne_of_lt (Nat.lt_of_lt_of_le f58.lt p45_0)
  have f60 : Exa Z T34.heap lg2 "java/lang/Long" := (((E_lg2.keep K14q).keep K25q).keep K34q)
  have ne59 : lg2 ≠ b_45 := Nat.ne_of_lt (Nat.lt_of_lt_of_le f60.lt p45_0)
  have ne61 : sm ≠ b_45 := Nat.ne_of_lt (Nat.lt_of_lt_of_le f42.lt p45_0)
  have sz_b_45 : h0.size ≤ b_45 := Nat.le_trans K36.1 p45_0
  have g_b_45 : n0 ≤ b_45 := Nat.le_trans Z0 sz_b_45
  have K62 : Keep h0 T45.heap [] := K36.trans K45q all0
  show Wlk p.tables e below (T45.setTop (mkF m 83 #[iv kx, iv (3 : Int32), rv fX, rv lg1, rv lg2, rv lg0, rv lg1, rv lg2, rv b_14, un, un] [(.ref b_45)])) K
  refine Wlk.of (fun _ k => XS.astore X45.here hx rfl (hb hby at_83) rfl rfl (l' := #[iv kx, iv (3 : Int32), rv fX, rv lg1, rv lg2, rv lg0, rv lg1, rv lg2, rv b_14, rv b_45, un]) rfl k) ?_
  show Wlk p.tables e below (T45.setTop (mkF m 85 #[iv kx, iv (3 : Int32), rv fX, rv lg1, rv lg2, rv lg0, rv lg1, rv lg2, rv b_14, rv b_45, un] [])) K
  refine Wlk.of (fun _ k => XS.aload X45.here hx rfl (hb hby at_85) rfl rfl k) ?_
  show Wlk p.tables e below (T45.setTop (mkF m 87 #[iv kx, iv (3 : Int32), rv fX, rv lg1, rv lg2, rv lg0, rv lg1, rv lg2, rv b_14, rv b_45, un] [(.ref b_45)])) K
  refine Wlk.of (fun _ k => XS.aloadN X45.here hx rfl (hb hby at_87) rfl rfl k) ?_
  show Wlk p.tables e below (T45.setTop (mkF m 88 #[iv kx, iv (3 : Int32), rv fX, rv lg1, rv lg2, rv lg0, rv lg1, rv lg2, rv b_14, rv b_45, un] [(.ref lg1), (.ref b_45)])) K
  refine Wlk.of (fun _ k => XS.aload X45.here hx rfl (hb hby at_88) rfl rfl k) ?_
  show Wlk p.tables e below (T45.setTop (mkF m 90 #[iv kx, iv (3 : Int32), rv fX, rv lg1, rv lg2, rv lg0, rv lg1, rv lg2, rv b_14, rv b_45, un] [(.ref lg2), (.ref lg1), (.ref b_45)])) K
  obtain ⟨v63, T63, L63, X63, q63, st63⟩ := Ctr.iface (xi := (⟨"com/example/gapweave/gapweave/AggregateFunction$Accumulator", "add", "(Ljava/lang/Object;Ljava/lang/Object;)V"⟩ : MethodName)) (c_xap l Z a0 hw b_45 lg1 lg2 la T45.heap n0 (Nat.le_trans Z0 K62.1) p45_1 p45_2 p45_3 p45_4 p45_5 g_b_45) X45 hx hH rfl hown (wd hw 49 rfl) (wd hw 50 rfl) (wd hw 51 rfl) (wd hw 153 rfl) (wd hw 154 rfl) (wd hw 155 rfl) (wd hw 156 rfl) (wd hw 157 rfl) (wd hw 131 rfl) (wd hw 158 rfl) (by decide) p45_1 pd_401 (g := (mkF m 90 #[iv kx, iv (3 : Int32), rv fX, rv lg1, rv lg2, rv lg0, rv lg1, rv lg2, rv b_14, rv b_45, un] [(.ref lg2), (.ref lg1), (.ref b_45)])) rfl (by rw [hml]; rfl) (argsL := [(.ref lg1), (.ref lg2)]) (rest := []) rfl rfl rfl (W := 0) (by show 2 * 0 + _ ≤ _; exact Nat.le_of_eq rfl) (by decide) (by decide) (hb hby at_90) (by decide) (by decide)
  obtain ⟨rfl, N63q, K63q, p63_0, p63_1, p63_2, p63_3⟩ := q63
  have N64 := Fr.app N46 N63q
  refine Wlk.of (fun _ k => st63 _ k) ?_
  have K65 : Keep h0 T63.heap [] := K62.trans K63q (allS (Or.inr sz_b_45) all0)
  show Wlk p.tables e below (T63.setTop (mkF m 95 #[iv kx, iv (3 : Int32), rv fX, rv lg1, rv lg2, rv lg0, rv lg1, rv lg2, rv b_14, rv b_45, un] [])) K
  refine Wlk.of (fun _ k => XS.aload X63.here hx rfl (hb hby at_95) rfl rfl k) ?_
  show Wlk p.tables e below (T63.setTop (mkF m 97 #[iv kx, iv (3 : Int32), rv fX, rv lg1, rv lg2, rv lg0, rv lg1, rv lg2, rv b_14, rv b_45, un] [(.ref b_45)])) K
  refine Wlk.of (fun _ k => XS.aload X63.here hx rfl (hb hby at_97) rfl rfl k) ?_
  show Wlk p.tables e below (T63.setTop (mkF m 99 #[iv kx, iv (3 : Int32), rv fX, rv lg1, rv lg2, rv lg0, rv lg1, rv lg2, rv b_14, rv b_45, un] [(.ref lg2), (.ref b_45)])) K
  refine Wlk.of (fun _ k => XS.aload X63.here hx rfl (hb hby at_99) rfl rfl k) ?_
  show Wlk p.tables e below (T63.setTop (mkF m 101 #[iv kx, iv (3 : Int32), rv fX, rv lg1, rv lg2, rv lg0, rv lg1, rv lg2, rv b_14, rv b_45, un] [(.ref lg1), (.ref lg2), (.ref b_45)])) K
  have f66 : Exa Z T63.heap b_45 "com/example/gapweave/gapweave/AggregateFunction$Extreme" := (p45_1.keep K63q)
  have f67 : Exa Z T63.heap lg1 "java/lang/Long" := ((f58.keep K45q).keep K63q)
  have f68 : Fld Z T63.heap lg1 "java/lang/Long" "value" "J" (.long (1 : Int64)) := (((f30.keep K34q (ninS ne21 nin0)).keep K45q nin0).keep K63q (ninS ne57 nin0))
  have f69 : Exa Z T63.heap lg2 "java/lang/Long" := ((f60.keep K45q).keep K63q)
  have f70 : Fld Z T63.heap lg2 "java/lang/Long" "value" "J" (.long (2 : Int64)) := (((((F_lg2_value.keep K14q nin0).keep K25q (ninS ne22 nin0)).keep K34q (ninS ne22 nin0)).keep K45q nin0).keep K63q (ninS ne59 nin0))
  have f71 : Fn T63.heap la cK := ((f54.keep K45q).keep K63q)
  obtain ⟨v72, T72, L72, X72, q72, st72⟩ := Ctr.iface (xi := (⟨"com/example/gapweave/gapweave/AggregateFunction$Accumulator", "add", "(Ljava/lang/Object;Ljava/lang/Object;)V"⟩ : MethodName)) (c_xbp2 l Z a0 hw b_45 lg2 lg1 la lg1 lg2 cK T63.heap n0 (Nat.le_trans Z0 K65.1) f66 p63_0 p63_1 p63_2 p63_3 f67 f68 f69 f70 f71 hmade g_b_45) X63 hx hH rfl hown (wd hw 49 rfl) (wd hw 50 rfl) (wd hw 51 rfl) (wd hw 153 rfl) (wd hw 154 rfl) (wd hw 155 rfl) (wd hw 156 rfl) (wd hw 157 rfl) (wd hw 131 rfl) (wd hw 158 rfl) (by decide) f66 pd_401 (g := (mkF m 101 #[iv kx, iv (3 : Int32), rv fX, rv lg1, rv lg2, rv lg0, rv lg1, rv lg2, rv b_14, rv b_45, un] [(.ref lg1), (.ref lg2), (.ref b_45)])) rfl (by rw [hml]; rfl) (argsL := [(.ref lg2), (.ref lg1)]) (rest := []) rfl rfl rfl (W := 0) (by show 2 * 0 + _ ≤ _; exact Nat.le_of_eq rfl) (by decide) (by decide) (hb hby at_101) (by decide) (by decide)
  obtain ⟨rfl, N72q, hh72⟩ := q72
  have N73 := Fr.app N64 N72q
  refine Wlk.of (fun _ k => st72 _ k) ?_
  show Wlk p.tables e below (T72.setTop (mkF m 106 #[iv kx, iv (3 : Int32), rv fX, rv lg1, rv lg2, rv lg0, rv lg1, rv lg2, rv b_14, rv b_45, un] [])) K
  refine Wlk.of (fun _ k => XS.aload X72.here hx rfl (hb hby at_106) rfl rfl k) ?_
  show Wlk p.tables e below (T72.setTop (mkF m 108 #[iv kx, iv (3 : Int32), rv fX, rv lg1, rv lg2, rv lg0, rv lg1, rv lg2, rv b_14, rv b_45, un] [(.ref b_14)])) K
  have f74 : Fld Z T63.heap b_14 "com/example/gapweave/gapweave/AggregateFunction$Extreme" "cell" "Ljava/lang/Object;" (.ref lg2) := ((p34_2.keep K45q nin0).keep K63q (ninS ne47 nin0))
  have f75 : Exa Z T63.heap b_14 "com/example/gapweave/gapweave/AggregateFunction$Extreme" := ((f48.keep K45q).keep K63q)
  obtain ⟨v76, T76, L76, X76, q76, st76⟩ := Ctr.iface (xi := (⟨"com/example/gapweave/gapweave/AggregateFunction$Accumulator", "result", "()Ljava/lang/Object;"⟩ : MethodName)) (c_xr l Z a0 hw b_14 lg2 T63.heap n0 (Nat.le_trans Z0 K65.1) f74) X72 hx hH hh72 hown (wd hw 77 rfl) (wd hw 78 rfl) (wd hw 79 rfl) (wd hw 173 rfl) (wd hw 174 rfl) (wd hw 175 rfl) (wd hw 176 rfl) (wd hw 157 rfl) (wd hw 131 rfl) (wd hw 177 rfl) (by decide) f75 pd_402 (g := (mkF m 108 #[iv kx, iv (3 : Int32), rv fX, rv lg1, rv lg2, rv lg0, rv lg1, rv lg2, rv b_14, rv b_45, un] [(.ref b_14)])) rfl (by rw [hml]; rfl) (argsL := []) (rest := []) rfl rfl rfl (W := 0) (by show 2 * 0 + _ ≤ _; exact Nat.le_of_eq rfl) (by decide) (by decide) (hb hby at_108) (by decide) (by decide)
  obtain ⟨rfl, N76q, hh76⟩ := q76
  have N77 := Fr.app N73 N76q
  refine Wlk.of (fun _ k => st76 _ k) ?_
  show Wlk p.tables e below (T76.setTop (mkF m 113 #[iv kx, iv (3 : Int32), rv fX, rv lg1, rv lg2, rv lg0, rv lg1, rv lg2, rv b_14, rv b_45, un] [(.ref lg2)])) K
  refine Wlk.of (fun _ k => XS.aload X76.here hx rfl (hb hby at_113) rfl rfl k) ?_
  show Wlk p.tables e below (T76.setTop (mkF m 115 #[iv kx, iv (3 : Int32), rv fX, rv lg1, rv lg2, rv lg0, rv lg1, rv lg2, rv b_14, rv b_45, un] [(.ref b_45), (.ref lg2)])) K
  obtain ⟨v78, T78, L78, X78, q78, st78⟩ := Ctr.iface (xi := (⟨"com/example/gapweave/gapweave/AggregateFunction$Accumulator", "result", "()Ljava/lang/Object;"⟩ : MethodName)) (c_xr l Z a0 hw b_45 lg1 T63.heap n0 (Nat.le_trans Z0 K65.1) p63_2) X76 hx hH hh76 hown (wd hw 77 rfl) (wd hw 78 rfl) (wd hw 79 rfl) (wd hw 173 rfl) (wd hw 174 rfl) (wd hw 175 rfl) (wd hw 176 rfl) (wd hw 157 rfl) (wd hw 131 rfl) (wd hw 177 rfl) (by decide) f66 pd_402 (g := (mkF m 115 #[iv kx, iv (3 : Int32), rv fX, rv lg1, rv lg2, rv lg0, rv lg1, rv lg2, rv b_14, rv b_45, un] [(.ref b_45), (.ref lg2)])) rfl (by rw [hml]; rfl) (argsL := []) (rest := [(.ref lg2)]) rfl rfl rfl (W := 1) (by show 2 * 0 + _ ≤ _; exact Nat.le_of_eq rfl) (by decide) (by decide) (hb hby at_115) (by decide) (by decide)
  obtain ⟨rfl, N78q, hh78⟩ := q78
  have N79 := Fr.app N77 N78q
  refine Wlk.of (fun _ k => st78 _ k) ?_
  show Wlk p.tables e below (T78.setTop (mkF m 120 #[iv kx, iv (3 : Int32), rv fX, rv lg1, rv lg2, rv lg0, rv lg1, rv lg2, rv b_14, rv b_45, un] [(.ref lg1), (.ref lg2)])) K
  obtain ⟨v80, T80, L80, X80, q80, st80⟩ := Ctr.static (c_sL21 l Z a0 hw lg2 lg1 T63.heap n0 (Nat.le_trans Z0 K65.1) f69 f70 f67 f68 (Ne.symm ne_lg1_lg2)) X78 hx hH hh78 hown (wd hw 108 rfl) (wd hw 109 rfl) (wd hw 3 rfl) (wd hw 110 rfl) (by decide) pd_403 (g := (mkF m 120 #[iv kx, iv (3 : Int32), rv fX, rv lg1, rv lg2, rv lg0, rv lg1, rv lg2, rv b_14, rv b_45, un] [(.ref lg1), (.ref lg2)])) rfl (by rw [hml]; rfl) (argsL := [(.ref lg2), (.ref lg1)]) (rest := []) rfl rfl rfl (W := 0) (by show 2 * 0 + _ ≤ _; exact Nat.le_of_eq rfl) (by decide) (by decide) (hb hby at_120) (by decide) (by decide)
  obtain ⟨rfl, N80q, hh80⟩ := q80
  have N81 := Fr.app N79 N80q
  refine Wlk.of (fun _ k => st80 _ k) ?_
  show Wlk p.tables e below (T80.setTop (mkF m 123 #[iv kx, iv (3 : Int32), rv fX, rv lg1, rv lg2, rv lg0, rv lg1, rv lg2, rv b_14, rv b_45, un] [(.int (0 : Int32))])) K
  refine Wlk.of (fun _ k => XS.ifNo X80.here hx rfl (hb hby at_123) rfl ((if0 _ _).trans (teq (by decide : (0 : Int32) = (0 : Int32))).2) k) ?_
  show Wlk p.tables e below (T80.setTop (mkF m 126 #[iv kx, iv (3 : Int32), rv fX, rv lg1, rv lg2, rv lg0, rv lg1, rv lg2, rv b_14, rv b_45, un] [])) K
  refine Wlk.of (fun _ k => XS.iconst X80.here hx rfl (hb hby at_126) k) ?_
  show Wlk p.tables e below (T80.setTop (mkF m 127 #[iv kx, iv (3 : Int32), rv fX, rv lg1, rv lg2, rv lg0, rv lg1, rv lg2, rv b_14, rv b_45, un] [(.int (1 : Int32))])) K
  refine Wlk.of (fun _ k => XS.goto X80.here hx rfl (pc0 := 127) (pc' := 131) rfl (hb hby at_127) (by decide) (by decide) k) ?_
  show Wlk p.tables e below (T80.setTop (mkF m 131 #[iv kx, iv (3 : Int32), rv fX, rv lg1, rv lg2, rv lg0, rv lg1, rv lg2, rv b_14, rv b_45, un] [(.int (1 : Int32))])) K
  refine Wlk.of (fun _ k => XS.istore X80.here hx rfl (hb hby at_131) rfl (l' := #[iv kx, iv (3 : Int32), rv fX, rv lg1, rv lg2, rv lg0, rv lg1, rv lg2, rv b_14, rv b_45, iv (1 : Int32)]) rfl k) ?_
  show Wlk p.tables e below (T80.setTop (mkF m 133 #[iv kx, iv (3 : Int32), rv fX, rv lg1, rv lg2, rv lg0, rv lg1, rv lg2, rv b_14, rv b_45, iv (1 : Int32)] [])) K
  refine Wlk.of (fun _ k => XS.aloadN X80.here hx rfl (hb hby at_133) rfl rfl k) ?_
  show Wlk p.tables e below (T80.setTop (mkF m 134 #[iv kx, iv (3 : Int32), rv fX, rv lg1, rv lg2, rv lg0, rv lg1, rv lg2, rv b_14, rv b_45, iv (1 : Int32)] [(.ref fX)])) K
  have f82 : Sta Z T63.heap "com/example/gapweave/gapweave/AggregateFunction" "AVG" "Lcom/example/gapweave/gapweave/AggregateFunction;" (.ref fA) := (own_staKeep (own_staKeep (own_staKeep (own_staKeep (own_staKeep S_AVG K14q own_all0) K25q (own_allS (NSt.of p14_1) own_all0)) K34q (own_allS (NSt.of f28) own_all0)) K45q own_all0) K63q (own_allS (NSt.of p45_1) own_all0))
  have f83 : Sta Z T63.heap "com/example/gapweave/gapweave/AggregateFunction" "SUM" "Lcom/example/gapweave/gapweave/AggregateFunction;" (.ref fS) := (own_staKeep (own_staKeep (own_staKeep (own_staKeep (own_staKeep S_SUM K14q own_all0) K25q (own_allS (NSt.of p14_1) own_all0)) K34q (own_allS (NSt.of f28) own_all0)) K45q own_all0) K63q (own_allS (NSt.of p45_1) own_all0))
  have f84 : Sta Z T63.heap "com/example/gapweave/gapweave/AggregateFunction" "MIN" "Lcom/example/gapweave/gapweave/AggregateFunction;" (.ref fM) := (own_staKeep (own_staKeep (own_staKeep (own_staKeep (own_staKeep S_MIN K14q own_all0) K25q (own_allS (NSt.of p14_1) own_all0)) K34q (own_allS (NSt.of f28) own_all0)) K45q own_all0) K63q (own_allS (NSt.of p45_1) own_all0))
  have f85 : Sta Z T63.heap "com/example/gapweave/gapweave/AggregateFunction" "MAX" "Lcom/example/gapweave/gapweave/AggregateFunction;" (.ref fX) := (own_staKeep (own_staKeep (own_staKeep (own_staKeep (own_staKeep S_MAX K14q own_all0) K25q (own_allS (NSt.of p14_1) own_all0)) K34q (own_allS (NSt.of f28) own_all0)) K45q own_all0) K63q (own_allS (NSt.of p45_1) own_all0))
  have f86 : Exa Z T63.heap fX "com/example/gapweave/gapweave/AggregateFunction" := ((f39.keep K45q).keep K63q)
  obtain ⟨v87, T87, L87, X87, q87, st87⟩ := Ctr.virtual (y := (⟨"com/example/gapweave/gapweave/AggregateFunction", "readsValues", "()Z"⟩ : MethodName)) (c_rv3 l Z a0 hw fX fA fS fM T63.heap n0 (Nat.le_trans Z0 K65.1) f82 f83 f84 f85 ne_fX_fA ne_fX_fS ne_fX_fM) X80 hx hH hh80 hown (wd hw 121 rfl) (wd hw 122 rfl) (notFace_of_selects (args := #[]) (mvT hZ (wd hw 124 rfl))) (wd hw 124 rfl) (wd hw 123 rfl) (wd hw 6 rfl) (wd hw 125 rfl) (by decide) f86 pd_404 (g := (mkF m 134 #[iv kx, iv (3 : Int32), rv fX, rv lg1, rv lg2, rv lg0, rv lg1, rv lg2, rv b_14, rv b_45, iv (1 : Int32)] [(.ref fX)])) rfl (by rw [hml]; rfl) (argsL := []) (rest := []) rfl rfl rfl (W := 0) (by show 2 * 0 + _ ≤ _; exact Nat.le_of_eq rfl) (by decide) (by decide) (hb hby at_134) (by decide) (by decide)
  obtain ⟨rfl, N87q, hh87⟩ := q87
  have N88 := Fr.app N81 N87q
  refine Wlk.of (fun _ k => st87 _ k) ?_
  show Wlk p.tables e below (T87.setTop (mkF m 137 #[iv kx, iv (3 : Int32), rv fX, rv lg1, rv lg2, rv lg0, rv lg1, rv lg2, rv b_14, rv b_45, iv (1 : Int32)] [(.int (1 : Int32))])) K
  refine Wlk.of (fun _ k => XS.iload X87.here hx rfl (hb hby at_137) rfl k) ?_
  show Wlk p.tables e below (T87.setTop (mkF m 139 #[iv kx, iv (3 : Int32), rv fX, rv lg1, rv lg2, rv lg0, rv lg1, rv lg2, rv b_14, rv b_45, iv (1 : Int32)] [(.int (1 : Int32)), (.int (1 : Int32))])) K
  refine Wlk.of (fun _ k => XS.icmpNo X87.here hx rfl (hb hby at_139) rfl (teq (by decide : (1 : Int32) = (1 : Int32))).2 k) ?_
  show Wlk p.tables e below (T87.setTop (mkF m 142 #[iv kx, iv (3 : Int32), rv fX, rv lg1, rv lg2, rv lg0, rv lg1, rv lg2, rv b_14, rv b_45, iv (1 : Int32)] [])) K
  refine Wlk.of (fun _ k => XS.iconst X87.here hx rfl (hb hby at_142) k) ?_
  show Wlk p.tables e below (T87.setTop (mkF m 143 #[iv kx, iv (3 : Int32), rv fX, rv lg1, rv lg2, rv lg0, rv lg1, rv lg2, rv b_14, rv b_45, iv (1 : Int32)] [(.int (1 : Int32))])) K
  refine Wlk.of (fun _ k => XS.goto X87.here hx rfl (pc0 := 143) (pc' := 147) rfl (hb hby at_143) (by decide) (by decide) k) ?_
  show Wlk p.tables e below (T87.setTop (mkF m 147 #[iv kx, iv (3 : Int32), rv fX, rv lg1, rv lg2, rv lg0, rv lg1, rv lg2, rv b_14, rv b_45, iv (1 : Int32)] [(.int (1 : Int32))])) K
  refine hK (some (.int (1 : Int32))) X87 (fun q => by cases q) (fun fs hr => retN X87 hx (t := .boolean) hret (by simp) (hb hby at_147) hr) ?_ (by decide) (by decide)
  rw [show T87.heap = T63.heap from hh87]
  exact ⟨rfl, N88, K65⟩
theorem ef_c_law4 (m : MethodId) (kx : Int32) : entryFrame m #[(.int kx)] maxLocals = mkF m 0 #[iv kx, un, un, un, un, un, un, un, un, un, un] [] := by first | (simp [entryFrame, mkF, argsToLocals, Value.category, maxLocals]; done) | rfl
def Q_c_law4 (Z : State) (kx : Int32) (fC : Addr) (fA : Addr) (fS : Addr) (fM : Addr) (fX : Addr) (i64 : Addr) (ca : Addr) (vsC : (List Value)) (lg0 : Addr) (lg1 : Addr) (lg2 : Addr) (h0 : Heap) (n0 : Nat) (v : Option Value) (h : Heap) (L : List Loc) : Prop := v = (some (.int (1 : Int32))) ∧ Fr n0 L ∧ Keep h0 h []
set_option maxRecDepth 65536 in
set_option maxHeartbeats 40000000 in
theorem c_law4 (l : Launch) (Z : State) (a0 : Array Value) (hw : ∀ d ∈ tables_1, d.before a0 Z = true) (ws : List Jvm.Cond) (kx : Int32) (fC : Addr) (fA : Addr) (fS : Addr) (fM : Addr) (fX : Addr) (i64 : Addr) (ca : Addr) (vsC : (List Value)) (lg0 : Addr) (lg1 : Addr) (lg2 : Addr) (h0 : Heap) (n0 : Nat) (Z0 : n0 ≤ h0.size) (hi : (kx &&& (2147483647 : Int32)) % (7 : Int32) = (4 : Int32)) (S_AVG : Sta Z h0 "com/example/gapweave/gapweave/AggregateFunction" "AVG" "Lcom/example/gapweave/gapweave/AggregateFunction;" (.ref fA)) (S_SUM : Sta Z h0 "com/example/gapweave/gapweave/AggregateFunction" "SUM" "Lcom/example/gapweave/gapweave/AggregateFunction;" (.ref fS)) (S_MIN : Sta Z h0 "com/example/gapweave/gapweave/AggregateFunction" "MIN" "Lcom/example/gapweave/gapweave/AggregateFunction;" (.ref fM)) (S_MAX : Sta Z h0 "com/example/gapweave/gapweave/AggregateFunction" "MAX" "Lcom/example/gapweave/gapweave/AggregateFunction;" (.ref fX)) (S_COUNT : Sta Z h0 "com/example/gapweave/gapweave/AggregateFunction" "COUNT" "Lcom/example/gapweave/gapweave/AggregateFunction;" (.ref fC)) (E_fC : Exa Z h0 fC "com/example/gapweave/gapweave/AggregateFunction") (F_fC_ordinal : Fld Z h0 fC "java/lang/Enum" "ordinal" "I" (.int (4 : Int32))) (ne_fC_fA : fC ≠ fA) (ne_fC_fS : fC ≠ fS) (ne_fC_fM : fC ≠ fM) (ne_fC_fX : fC ≠ fX) (S_INT64 : Sta Z h0 "com/example/gapweave/gapweave/ColumnType" "INT64" "Lcom/example/gapweave/gapweave/ColumnType;" (.ref i64)) (S_cache : Sta Z h0 "java/lang/Long$LongCache" "cache" "[Ljava/lang/Long;" (.ref ca)) (A_ca : Arl Z h0 ca (.object "java/lang/Long") vsC) (hC0 : vsC[128]? = some (.ref lg0)) (hC1 : vsC[129]? = some (.ref lg1)) (hC2 : vsC[130]? = some (.ref lg2)) (E_lg0 : Exa Z h0 lg0 "java/lang/Long") (F_lg0_value : Fld Z h0 lg0 "java/lang/Long" "value" "J" (.long (0 : Int64))) (E_lg1 : Exa Z h0 lg1 "java/lang/Long") (F_lg1_value : Fld Z h0 lg1 "java/lang/Long" "value" "J" (.long (1 : Int64))) (E_lg2 : Exa Z h0 lg2 "java/lang/Long") (F_lg2_value : Fld Z h0 lg2 "java/lang/Long" "value" "J" (.long (2 : Int64))) :
    Ctr l Z h0 x code maxLocals ret ws room_1 #[(.int kx)] (Q_c_law4 Z kx fC fA fS fM fX i64 ca vsC lg0 lg1 lg2 h0 n0) := by
  refine Ctr.make (plainFor_of_name pn_250) fun p e s m below meth c s₁ K hret hml hx hby hown hnm hnamed hH hZ X0 e0 hK => ?_
  have hown : s.vm.findClass "com/example/gapweave/gapweave/AggregateFunctionReadsValuesPinLaw" = some m.cls := hown
  have hml : c.maxLocals = 11 := hml
  have N0 := Fr.nil n0
  have K0 : Keep h0 h0 [] := Keep.refl _ _
  refine Wlk.of (fun _ k => castTop (ef_c_law4 m kx) k) ?_
  show Wlk p.tables e below (s₁.setTop (mkF m 0 #[iv kx, un, un, un, un, un, un, un, un, un, un] [])) K
  refine Wlk.of (fun _ k => XS.iloadN X0.here hx rfl (hb hby at_0) rfl k) ?_
  show Wlk p.tables e below (s₁.setTop (mkF m 1 #[iv kx, un, un, un, un, un, un, un, un, un, un] [(.int kx)])) K
  refine Wlk.of (fun _ k => X0.ldcInt hx hown (mvT hZ (wd hw 0 rfl)) (g := (mkF m 1 #[iv kx, un, un, un, un, un, un, un, un, un, un] [(.int kx)])) rfl (hb hby at_1) _ k) ?_
  show Wlk p.tables e below (s₁.setTop (mkF m 3 #[iv kx, un, un, un, un, un, un, un, un, un, un] [(.int (2147483647 : Int32)), (.int kx)])) K
  refine Wlk.of (fun _ k => XS.iand X0.here hx rfl (hb hby at_3) rfl k) ?_
  show Wlk p.tables e below (s₁.setTop (mkF m 4 #[iv kx, un, un, un, un, un, un, un, un, un, un] [(.int (kx &&& (2147483647 : Int32)))])) K
  refine Wlk.of (fun _ k => XS.bipush X0.here hx rfl (hb hby at_4) k) ?_
  show Wlk p.tables e below (s₁.setTop (mkF m 6 #[iv kx, un, un, un, un, un, un, un, un, un, un] [(.int (7 : Int32)), (.int (kx &&& (2147483647 : Int32)))])) K
  refine Wlk.of (fun _ k => iremM X0 hx rfl (hb hby at_6) rfl (by decide) k) ?_
  show Wlk p.tables e below (s₁.setTop (mkF m 7 #[iv kx, un, un, un, un, un, un, un, un, un, un] [(.int ((kx &&& (2147483647 : Int32)) % (7 : Int32)))])) K
  rw [hi]
  refine Wlk.of (fun _ k => XS.istoreN X0.here hx rfl (hb hby at_7) rfl (l' := #[iv kx, iv (4 : Int32), un, un, un, un, un, un, un, un, un]) rfl k) ?_
  show Wlk p.tables e below (s₁.setTop (mkF m 8 #[iv kx, iv (4 : Int32), un, un, un, un, un, un, un, un, un] [])) K
  refine Wlk.of (fun _ k => XS.iloadN X0.here hx rfl (hb hby at_8) rfl k) ?_
  show Wlk p.tables e below (s₁.setTop (mkF m 9 #[iv kx, iv (4 : Int32), un, un, un, un, un, un, un, un, un] [(.int (4 : Int32))])) K
  obtain ⟨v1, T1, L1, X1, q1, st1⟩ := Ctr.static (c_pick4 l Z a0 hw fC h0 n0 (Nat.le_trans Z0 K0.1) S_COUNT) X0 hx hH e0 hown (wd hw 1 rfl) (wd hw 2 rfl) (wd hw 3 rfl) (wd hw 4 rfl) (by decide) pd_399 (g := (mkF m 9 #[iv kx, iv (4 : Int32), un, un, un, un, un, un, un, un, un] [(.int (4 : Int32))])) rfl (by rw [hml]; rfl) (argsL := [(.int (4 : Int32))]) (rest := []) rfl rfl rfl (W := 0) (by show 2 * 0 + _ ≤ _; exact Nat.le_of_eq rfl) (by decide) (by decide) (hb hby at_9) (by decide) (by decide)
  obtain ⟨rfl, N1q, hh1⟩ := q1
  have N2 := Fr.app N0 N1q
  refine Wlk.of (fun _ k => st1 _ k) ?_
  show Wlk p.tables e below (T1.setTop (mkF m 12 #[iv kx, iv (4 : Int32), un, un, un, un, un, un, un, un, un] [(.ref fC)])) K
  refine Wlk.of (fun _ k => XS.astoreN X1.here hx rfl (hb hby at_12) rfl rfl (l' := #[iv kx, iv (4 : Int32), rv fC, un, un, un, un, un, un, un, un]) rfl k) ?_
  show Wlk p.tables e below (T1.setTop (mkF m 13 #[iv kx, iv (4 : Int32), rv fC, un, un, un, un, un, un, un, un] [])) K
  refine Wlk.of (fun _ k => XS.lconst X1.here hx rfl (hb hby at_13) k) ?_
  show Wlk p.tables e below (T1.setTop (mkF m 14 #[iv kx, iv (4 : Int32), rv fC, un, un, un, un, un, un, un, un] [(.long (1 : Int64))])) K
  obtain ⟨v3, T3, L3, X3, q3, st3⟩ := Ctr.static (c_vo1 l Z a0 hw ca vsC lg1 h0 n0 (Nat.le_trans Z0 K0.1) S_cache A_ca hC1) X1 hx hH hh1 hown (wd hw 8 rfl) (wd hw 9 rfl) (wd hw 10 rfl) (wd hw 11 rfl) (by decide) pd_174 (g := (mkF m 14 #[iv kx, iv (4 : Int32), rv fC, un, un, un, un, un, un, un, un] [(.long (1 : Int64))])) rfl (by rw [hml]; rfl) (argsL := [(.long (1 : Int64))]) (rest := []) rfl rfl rfl (W := 0) (by show 2 * 0 + _ ≤ _; exact Nat.le_of_eq rfl) (by decide) (by decide) (hb hby at_14) (by decide) (by decide)
  obtain ⟨rfl, N3q, hh3⟩ := q3
  have N4 := Fr.app N2 N3q
  refine Wlk.of (fun _ k => st3 _ k) ?_
  show Wlk p.tables e below (T3.setTop (mkF m 17 #[iv kx, iv (4 : Int32), rv fC, un, un, un, un, un, un, un, un] [(.ref lg1)])) K
  refine Wlk.of (fun _ k => XS.astoreN X3.here hx rfl (hb hby at_17) rfl rfl (l' := #[iv kx, iv (4 : Int32), rv fC, rv lg1, un, un, un, un, un, un, un]) rfl k) ?_
  show Wlk p.tables e below (T3.setTop (mkF m 18 #[iv kx, iv (4 : Int32), rv fC, rv lg1, un, un, un, un, un, un, un] [])) K
  refine Wlk.of (fun _ k => X3.ldc2Long hx hown (mvT hZ (wd hw 16 rfl)) (g := (mkF m 18 #[iv kx, iv (4 : Int32), rv fC, rv lg1, un, un, un, un, un, un, un] [])) rfl (hb hby at_18) _ k) ?_
  show Wlk p.tables e below (T3.setTop (mkF m 21 #[iv kx, iv (4 : Int32), rv fC, rv lg1, un, un, un, un, un, un, un] [(.long (2 : Int64))])) K
  obtain ⟨v5, T5, L5, X5, q5, st5⟩ := Ctr.static (c_vo2 l Z a0 hw ca vsC lg2 h0 n0 (Nat.le_trans Z0 K0.1) S_cache A_ca hC2) X3 hx hH hh3 hown (wd hw 8 rfl) (wd hw 9 rfl) (wd hw 10 rfl) (wd hw 11 rfl) (by decide) pd_174 (g := (mkF m 21 #[iv kx, iv (4 : Int32), rv fC, rv lg1, un, un, un, un, un, un, un] [(.long (2 : Int64))])) rfl (by rw [hml]; rfl) (argsL := [(.long (2 : Int64))]) (rest := []) rfl rfl rfl (W := 0) (by show 2 * 0 + _ ≤ _; exact Nat.le_of_eq rfl) (by decide) (by decide) (hb hby at_21) (by decide) (by decide)
  obtain ⟨rfl, N5q, hh5⟩ := q5
  have N6 := Fr.app N4 N5q
  refine Wlk.of (fun _ k => st5 _ k) ?_
  show Wlk p.tables e below (T5.setTop (mkF m 24 #[iv kx, iv (4 : Int32), rv fC, rv lg1, un, un, un, un, un, un, un] [(.ref lg2)])) K
  refine Wlk.of (fun _ k => XS.astore X5.here hx rfl (hb hby at_24) rfl rfl (l' := #[iv kx, iv (4 : Int32), rv fC, rv lg1, rv lg2, un, un, un, un, un, un]) rfl k) ?_
  show Wlk p.tables e below (T5.setTop (mkF m 26 #[iv kx, iv (4 : Int32), rv fC, rv lg1, rv lg2, un, un, un, un, un, un] [])) K
  refine Wlk.of (fun _ k => XS.lconst X5.here hx rfl (hb hby at_26) k) ?_
  show Wlk p.tables e below (T5.setTop (mkF m 27 #[iv kx, iv (4 : Int32), rv fC, rv lg1, rv lg2, un, un, un, un, un, un] [(.long (0 : Int64))])) K
  obtain ⟨v7, T7, L7, X7, q7, st7⟩ := Ctr.static (c_vo0 l Z a0 hw ca vsC lg0 h0 n0 (Nat.le_trans Z0 K0.1) S_cache A_ca hC0) X5 hx hH hh5 hown (wd hw 8 rfl) (wd hw 9 rfl) (wd hw 10 rfl) (wd hw 11 rfl) (by decide) pd_174 (g := (mkF m 27 #[iv kx, iv (4 : Int32), rv fC, rv lg1, rv lg2, un, un, un, un, un, un] [(.long (0 : Int64))])) rfl (by rw [hml]; rfl) (argsL := [(.long (0 : Int64))]) (rest := []) rfl rfl rfl (W := 0) (by show 2 * 0 + _ ≤ _; exact Nat.le_of_eq rfl) (by decide) (by decide) (hb hby at_27) (by decide) (by decide)
  obtain ⟨rfl, N7q, hh7⟩ := q7
  have N8 := Fr.app N6 N7q
  refine Wlk.of (fun _ k => st7 _ k) ?_
  show Wlk p.tables e below (T7.setTop (mkF m 30 #[iv kx, iv (4 : Int32), rv fC, rv lg1, rv lg2, un, un, un, un, un, un] [(.ref lg0)])) K
  refine Wlk.of (fun _ k => XS.astore X7.here hx rfl (hb hby at_30) rfl rfl (l' := #[iv kx, iv (4 : Int32), rv fC, rv lg1, rv lg2, rv lg0, un, un, un, un, un]) rfl k) ?_
  show Wlk p.tables e below (T7.setTop (mkF m 32 #[iv kx, iv (4 : Int32), rv fC, rv lg1, rv lg2, rv lg0, un, un, un, un, un] [])) K
  refine Wlk.of (fun _ k => XS.lconst X7.here hx rfl (hb hby at_32) k) ?_
  show Wlk p.tables e below (T7.setTop (mkF m 33 #[iv kx, iv (4 : Int32), rv fC, rv lg1, rv lg2, rv lg0, un, un, un, un, un] [(.long (1 : Int64))])) K
  obtain ⟨v9, T9, L9, X9, q9, st9⟩ := Ctr.static (c_vo1 l Z a0 hw ca vsC lg1 h0 n0 (Nat.le_trans Z0 K0.1) S_cache A_ca hC1) X7 hx hH hh7 hown (wd hw 8 rfl) (wd hw 9 rfl) (wd hw 10 rfl) (wd hw 11 rfl) (by decide) pd_174 (g := (mkF m 33 #[iv kx, iv (4 : Int32), rv fC, rv lg1, rv lg2, rv lg0, un, un, un, un, un] [(.long (1 : Int64))])) rfl (by rw [hml]; rfl) (argsL := [(.long (1 : Int64))]) (rest := []) rfl rfl rfl (W := 0) (by show 2 * 0 + _ ≤ _; exact Nat.le_of_eq rfl) (by decide) (by decide) (hb hby at_33) (by decide) (by decide)
  obtain ⟨rfl, N9q, hh9⟩ := q9
  have N10 := Fr.app N8 N9q
  refine Wlk.of (fun _ k => st9 _ k) ?_
  show Wlk p.tables e below (T9.setTop (mkF m 36 #[iv kx, iv (4 : Int32), rv fC, rv lg1, rv lg2, rv lg0, un, un, un, un, un] [(.ref lg1)])) K
  refine Wlk.of (fun _ k => XS.astore X9.here hx rfl (hb hby at_36) rfl rfl (l' := #[iv kx, iv (4 : Int32), rv fC, rv lg1, rv lg2, rv lg0, rv lg1, un, un, un, un]) rfl k) ?_
  show Wlk p.tables e below (T9.setTop (mkF m 38 #[iv kx, iv (4 : Int32), rv fC, rv lg1, rv lg2, rv lg0, rv lg1, un, un, un, un] [])) K
  refine Wlk.of (fun _ k => X9.ldc2Long hx hown (mvT hZ (wd hw 16 rfl)) (g := (mkF m 38 #[iv kx, iv (4 : Int32), rv fC, rv lg1, rv lg2, rv lg0, rv lg1, un, un, un, un] [])) rfl (hb hby at_38) _ k) ?_
  show Wlk p.tables e below (T9.setTop (mkF m 41 #[iv kx, iv (4 : Int32), rv fC, rv lg1, rv lg2, rv lg0, rv lg1, un, un, un, un] [(.long (2 : Int64))])) K
  obtain ⟨v11, T11, L11, X11, q11, st11⟩ := Ctr.static (c_vo2 l Z a0 hw ca vsC lg2 h0 n0 (Nat.le_trans Z0 K0.1) S_cache A_ca hC2) X9 hx hH hh9 hown (wd hw 8 rfl) (wd hw 9 rfl) (wd hw 10 rfl) (wd hw 11 rfl) (by decide) pd_174 (g := (mkF m 41 #[iv kx, iv (4 : Int32), rv fC, rv lg1, rv lg2, rv lg0, rv lg1, un, un, un, un] [(.long (2 : Int64))])) rfl (by rw [hml]; rfl) (argsL := [(.long (2 : Int64))]) (rest := []) rfl rfl rfl (W := 0) (by show 2 * 0 + _ ≤ _; exact Nat.le_of_eq rfl) (by decide) (by decide) (hb hby at_41) (by decide) (by decide)
  obtain ⟨rfl, N11q, hh11⟩ := q11
  have N12 := Fr.app N10 N11q
  refine Wlk.of (fun _ k => st11 _ k) ?_
  show Wlk p.tables e below (T11.setTop (mkF m 44 #[iv kx, iv (4 : Int32), rv fC, rv lg1, rv lg2, rv lg0, rv lg1, un, un, un, un] [(.ref lg2)])) K
  refine Wlk.of (fun _ k => XS.astore X11.here hx rfl (hb hby at_44) rfl rfl (l' := #[iv kx, iv (4 : Int32), rv fC, rv lg1, rv lg2, rv lg0, rv lg1, rv lg2, un, un, un]) rfl k) ?_
  show Wlk p.tables e below (T11.setTop (mkF m 46 #[iv kx, iv (4 : Int32), rv fC, rv lg1, rv lg2, rv lg0, rv lg1, rv lg2, un, un, un] [])) K
  refine Wlk.of (fun _ k => XS.aloadN X11.here hx rfl (hb hby at_46) rfl rfl k) ?_
  show Wlk p.tables e below (T11.setTop (mkF m 47 #[iv kx, iv (4 : Int32), rv fC, rv lg1, rv lg2, rv lg0, rv lg1, rv lg2, un, un, un] [(.ref fC)])) K
  obtain ⟨T13, X13, e13, st13⟩ := getS2 X11 hx hZ hown (host := "") (Or.inl (wd hw 17 rfl)) Via.refl hh11 S_INT64 (g := (mkF m 47 #[iv kx, iv (4 : Int32), rv fC, rv lg1, rv lg2, rv lg0, rv lg1, rv lg2, un, un, un] [(.ref fC)])) rfl (hb hby at_47)
  refine Wlk.of (fun _ k => st13 _ k) ?_
  show Wlk p.tables e below (T13.setTop (mkF m 50 #[iv kx, iv (4 : Int32), rv fC, rv lg1, rv lg2, rv lg0, rv lg1, rv lg2, un, un, un] [(.ref i64), (.ref fC)])) K
  obtain ⟨v14, T14, L14, X14, q14, st14⟩ := Ctr.virtual (y := (⟨"com/example/gapweave/gapweave/AggregateFunction", "start", "(Lcom/example/gapweave/gapweave/ColumnType;)Lcom/example/gapweave/gapweave/AggregateFunction$Accumulator;"⟩ : MethodName)) (c_start4 l Z a0 hw fC i64 h0 n0 (Nat.le_trans Z0 K0.1) E_fC F_fC_ordinal) X13 hx hH e13 hown (wd hw 20 rfl) (wd hw 21 rfl) (notFace_of_selects (args := #[]) (mvT hZ (wd hw 23 rfl))) (wd hw 23 rfl) (wd hw 22 rfl) (wd hw 6 rfl) (wd hw 24 rfl) (by decide) E_fC pd_400 (g := (mkF m 50 #[iv kx, iv (4 : Int32), rv fC, rv lg1, rv lg2, rv lg0, rv lg1, rv lg2, un, un, un] [(.ref i64), (.ref fC)])) rfl (by rw [hml]; rfl) (argsL := [(.ref i64)]) (rest := []) rfl rfl rfl (W := 0) (by show 2 * 0 + _ ≤ _; exact Nat.le_of_eq rfl) (by decide) (by decide) (hb hby at_50) (by decide) (by decide)
  obtain ⟨b_14, rfl, N14q, K14q, p14_0, p14_1, p14_2⟩ := q14
  have N15 := Fr.app N12 N14q
  refine Wlk.of (fun _ k => st14 _ k) ?_
  have ne16 : ca ≠ b_14 := Nat.ne_of_lt (Nat.lt_of_lt_of_le A_ca.lt p14_0)
  have ne17 : fC ≠ b_14 := Nat.ne_of_lt (Nat.lt_of_lt_of_le E_fC.lt p14_0)
  have ne18 : lg0 ≠ b_14 := Nat.ne_of_lt (Nat.lt_of_lt_of_le E_lg0.lt p14_0)
  have ne19 : lg1 ≠ b_14 := Nat.ne_of_lt (Nat.lt_of_lt_of_le E_lg1.lt p14_0)
  have ne20 : lg2 ≠ b_14 := Nat.ne_of_lt (Nat.lt_of_lt_of_le E_lg2.lt p14_0)
  have sz_b_14 : h0.size ≤ b_14 := Nat.le_trans K0.1 p14_0
  have g_b_14 : n0 ≤ b_14 := Nat.le_trans Z0 sz_b_14
  have K21 : Keep h0 T14.heap [] := K0.trans K14q all0
  show Wlk p.tables e below (T14.setTop (mkF m 53 #[iv kx, iv (4 : Int32), rv fC, rv lg1, rv lg2, rv lg0, rv lg1, rv lg2, un, un, un] [(.ref b_14)])) K
  refine Wlk.of (fun _ k => XS.astore X14.here hx rfl (hb hby at_53) rfl rfl (l' := #[iv kx, iv (4 : Int32), rv fC, rv lg1, rv lg2, rv lg0, rv lg1, rv lg2, rv b_14, un, un]) rfl k) ?_
  show Wlk p.tables e below (T14.setTop (mkF m 55 #[iv kx, iv (4 : Int32), rv fC, rv lg1, rv lg2, rv lg0, rv lg1, rv lg2, rv b_14, un, un] [])) K
  refine Wlk.of (fun _ k => XS.aload X14.here hx rfl (hb hby at_55) rfl rfl k) ?_
  show Wlk p.tables e below (T14.setTop (mkF m 57 #[iv kx, iv (4 : Int32), rv fC, rv lg1, rv lg2, rv lg0, rv lg1, rv lg2, rv b_14, un, un] [(.ref b_14)])) K
  refine Wlk.of (fun _ k => XS.aloadN X14.here hx rfl (hb hby at_57) rfl rfl k) ?_
  show Wlk p.tables e below (T14.setTop (mkF m 58 #[iv kx, iv (4 : Int32), rv fC, rv lg1, rv lg2, rv lg0, rv lg1, rv lg2, rv b_14, un, un] [(.ref lg1), (.ref b_14)])) K
  refine Wlk.of (fun _ k => XS.aload X14.here hx rfl (hb hby at_58) rfl rfl k) ?_
  show Wlk p.tables e below (T14.setTop (mkF m 60 #[iv kx, iv (4 : Int32), rv fC, rv lg1, rv lg2, rv lg0, rv lg1, rv lg2, rv b_14, un, un] [(.ref lg0), (.ref lg1), (.ref b_14)])) K
  obtain ⟨v22, T22, L22, X22, q22, st22⟩ := Ctr.iface (xi := (⟨"com/example/gapweave/gapweave/AggregateFunction$Accumulator", "add", "(Ljava/lang/Object;Ljava/lang/Object;)V"⟩ : MethodName)) (c_ca0 l Z a0 hw b_14 lg1 lg0 T14.heap n0 (Nat.le_trans Z0 K21.1) p14_1 p14_2 g_b_14) X14 hx hH rfl hown (wd hw 49 rfl) (wd hw 50 rfl) (wd hw 51 rfl) (wd hw 240 rfl) (wd hw 241 rfl) (wd hw 242 rfl) (wd hw 243 rfl) (wd hw 244 rfl) (wd hw 235 rfl) (wd hw 245 rfl) (by decide) p14_1 pd_401 (g := (mkF m 60 #[iv kx, iv (4 : Int32), rv fC, rv lg1, rv lg2, rv lg0, rv lg1, rv lg2, rv b_14, un, un] [(.ref lg0), (.ref lg1), (.ref b_14)])) rfl (by rw [hml]; rfl) (argsL := [(.ref lg1), (.ref lg0)]) (rest := []) rfl rfl rfl (W := 0) (by show 2 * 0 + _ ≤ _; exact Nat.le_of_eq rfl) (by decide) (by decide) (hb hby at_60) (by decide) (by decide)
  obtain ⟨rfl, N22q, K22q, p22_0⟩ := q22
  have N23 := Fr.app N15 N22q
  refine Wlk.of (fun _ k => st22 _ k) ?_
  have K24 : Keep h0 T22.heap [] := K21.trans K22q (allS (Or.inr sz_b_14) all0)
  show Wlk p.tables e below (T22.setTop (mkF m 65 #[iv kx, iv (4 : Int32), rv fC, rv lg1, rv lg2, rv lg0, rv lg1, rv lg2, rv b_14, un, un] [])) K
  refine Wlk.of (fun _ k => XS.aload X22.here hx rfl (hb hby at_65) rfl rfl k) ?_
  show Wlk p.tables e below (T22.setTop (mkF m 67 #[iv kx, iv (4 : Int32), rv fC, rv lg1, rv lg2, rv lg0, rv lg1, rv lg2, rv b_14, un, un] [(.ref b_14)])) K
  refine Wlk.of (fun _ k => XS.aload X22.here hx rfl (hb hby at_67) rfl rfl k) ?_
  show Wlk p.tables e below (T22.setTop (mkF m 69 #[iv kx, iv (4 : Int32), rv fC, rv lg1, rv lg2, rv lg0, rv lg1, rv lg2, rv b_14, un, un] [(.ref lg2), (.ref b_14)])) K
  refine Wlk.of (fun _ k => XS.aload X22.here hx rfl (hb hby at_69) rfl rfl k) ?_
  show Wlk p.tables e below (T22.setTop (mkF m 71 #[iv kx, iv (4 : Int32), rv fC, rv lg1, rv lg2, rv lg0, rv lg1, rv lg2, rv b_14, un, un] [(.ref lg1), (.ref lg2), (.ref b_14)])) K
  have f25 : Exa Z T22.heap b_14 "com/example/gapweave/gapweave/AggregateFunction$Count" := (p14_1.keep K22q)
  obtain ⟨v26, T26, L26, X26, q26, st26⟩ := Ctr.iface (xi := (⟨"com/example/gapweave/gapweave/AggregateFunction$Accumulator", "add", "(Ljava/lang/Object;Ljava/lang/Object;)V"⟩ : MethodName)) (c_ca1 l Z a0 hw b_14 lg2 lg1 T22.heap n0 (Nat.le_trans Z0 K24.1) f25 p22_0 g_b_14) X22 hx hH rfl hown (wd hw 49 rfl) (wd hw 50 rfl) (wd hw 51 rfl) (wd hw 240 rfl) (wd hw 241 rfl) (wd hw 242 rfl) (wd hw 243 rfl) (wd hw 244 rfl) (wd hw 235 rfl) (wd hw 245 rfl) (by decide) f25 pd_401 (g := (mkF m 71 #[iv kx, iv (4 : Int32), rv fC, rv lg1, rv lg2, rv lg0, rv lg1, rv lg2, rv b_14, un, un] [(.ref lg1), (.ref lg2), (.ref b_14)])) rfl (by rw [hml]; rfl) (argsL := [(.ref lg2), (.ref lg1)]) (rest := []) rfl rfl rfl (W := 0) (by show 2 * 0 + _ ≤ _; exact Nat.le_of_eq rfl) (by decide) (by decide) (hb hby at_71) (by decide) (by decide)
  obtain ⟨rfl, N26q, K26q, p26_0⟩ := q26
  have N27 := Fr.app N23 N26q
  refine Wlk.of (fun _ k => st26 _ k) ?_
  have K28 : Keep h0 T26.heap [] := K24.trans K26q (allS (Or.inr sz_b_14) all0)
  show Wlk p.tables e below (T26.setTop (mkF m 76 #[iv kx, iv (4 : Int32), rv fC, rv lg1, rv lg2, rv lg0, rv lg1, rv lg2, rv b_14, un, un] [])) K
  refine Wlk.of (fun _ k => XS.aloadN X26.here hx rfl (hb hby at_76) rfl rfl k) ?_
  show Wlk p.tables e below (T26.setTop (mkF m 77 #[iv kx, iv (4 : Int32), rv fC, rv lg1, rv lg2, rv lg0, rv lg1, rv lg2, rv b_14, un, un] [(.ref fC)])) K
  have f29 : Sta Z T26.heap "com/example/gapweave/gapweave/ColumnType" "INT64" "Lcom/example/gapweave/gapweave/ColumnType;" (.ref i64) := (own_staKeep (own_staKeep (own_staKeep S_INT64 K14q own_all0) K22q (own_allS (NSt.of p14_1) own_all0)) K26q (own_allS (NSt.of f25) own_all0))
  obtain ⟨T30, X30, e30, st30⟩ := getS2 X26 hx hZ hown (host := "") (Or.inl (wd hw 17 rfl)) Via.refl rfl f29 (g := (mkF m 77 #[iv kx, iv (4 : Int32), rv fC, rv lg1, rv lg2, rv lg0, rv lg1, rv lg2, rv b_14, un, un] [(.ref fC)])) rfl (hb hby at_77)
  refine Wlk.of (fun _ k => st30 _ k) ?_
  show Wlk p.tables e below (T30.setTop (mkF m 80 #[iv kx, iv (4 : Int32), rv fC, rv lg1, rv lg2, rv lg0, rv lg1, rv lg2, rv b_14, un, un] [(.ref i64), (.ref fC)])) K
  have f31 : Exa Z T26.heap fC "com/example/gapweave/gapweave/AggregateFunction" := (((E_fC.keep K14q).keep K22q).keep K26q)
  have f32 : Fld Z T26.heap fC "java/lang/Enum" "ordinal" "I" (.int (4 : Int32)) := (((F_fC_ordinal.keep K14q nin0).keep K22q (ninS ne17 nin0)).keep K26q (ninS ne17 nin0))
  obtain ⟨v33, T33, L33, X33, q33, st33⟩ := Ctr.virtual (y := (⟨"com/example/gapweave/gapweave/AggregateFunction", "start", "(Lcom/example/gapweave/gapweave/ColumnType;)Lcom/example/gapweave/gapweave/AggregateFunction$Accumulator;"⟩ : MethodName)) (c_start4 l Z a0 hw fC i64 T26.heap n0 (Nat.le_trans Z0 K28.1) f31 f32) X30 hx hH e30 hown (wd hw 20 rfl) (wd hw 21 rfl) (notFace_of_selects (args := #[]) (mvT hZ (wd hw 23 rfl))) (wd hw 23 rfl) (wd hw 22 rfl) (wd hw 6 rfl) (wd hw 24 rfl) (by decide) f31 pd_400 (g := (mkF m 80 #[iv kx, iv (4 : Int32), rv fC, rv lg1, rv lg2, rv lg0, rv lg1, rv lg2, rv b_14, un, un] [(.ref i64), (.ref fC)])) rfl (by rw [hml]; rfl) (argsL := [(.ref i64)]) (rest := []) rfl rfl rfl (W := 0) (by show 2 * 0 + _ ≤ _; exact Nat.le_of_eq rfl) (by decide) (by decide) (hb hby at_80) (by decide) (by decide)
  obtain ⟨b_33, rfl, N33q, K33q, p33_0, p33_1, p33_2⟩ := q33
  have N34 := Fr.app N27 N33q
  refine Wlk.of (fun _ k => st33 _ k) ?_
  have f36 : Exa Z T26.heap b_14 "com/example/gapweave/gapweave/AggregateFunction$Count" := (f25.keep K26q)
  have ne35 : b_14 ≠ b_33 := Nat.ne_of_lt (Nat.lt_of_lt_of_le f36.lt p33_0)
  have f38 : Arl Z T26.heap ca (.object "java/lang/Long") vsC := (((A_ca.keep K14q nin0).keep K22q (ninS ne16 nin0)).keep K26q (ninS ne16 nin0))
  have ne37 : ca ≠ b_33 := Nat.ne_of_lt (Nat.lt_of_lt_of_le f38.lt p33_0)
  have ne39 : fC ≠ b_33 := Nat.ne_of_lt (Nat.lt_of_lt_of_le f31.lt p33_0)
  have f41 : Exa Z T26.heap lg0 "java/lang/Long" := (((E_lg0.keep K14q).keep K22q).keep K26q)
  have ne40 : lg0 ≠ b_33 := Nat.ne_of_lt (Nat.lt_of_lt_of_le f41.lt p33_0)
  have f43 : Exa Z T26.heap lg1 "java/lang/Long" := (((E_lg1.keep K14q).keep K22q).keep K26q)
  have ne42 : lg1 ≠ b_33 := Nat.ne_of_lt (Nat.lt_of_lt_of_le f43.lt p33_0)
  have f45 : Exa Z T26.heap lg2 "java/lang/Long" := (((E_lg2.keep K14q).keep K22q).keep K26q)
  have ne44 : lg2 ≠ b_33 := Nat.ne_of_lt (Nat.lt_of_lt_of_le f45.lt p33_0)
  have sz_b_33 : h0.size ≤ b_33 := Nat.le_trans K28.1 p33_0
  have g_b_33 : n0 ≤ b_33 := Nat.le_trans Z0 sz_b_33
  have K46 : Keep h0 T33.heap [] := K28.trans K33q all0
  show Wlk p.tables e below (T33.setTop (mkF m 83 #[iv kx, iv (4 : Int32), rv fC, rv lg1, rv lg2, rv lg0, rv lg1, rv lg2, rv b_14, un, un] [(.ref b_33)])) K
  refine Wlk.of (fun _ k => XS.astore X33.here hx rfl (hb hby at_83) rfl rfl (l' := #[iv kx, iv (4 : Int32), rv fC, rv lg1, rv lg2, rv lg0, rv lg1, rv lg2, rv b_14, rv b_33, un]) rfl k) ?_
  show Wlk p.tables e below (T33.setTop (mkF m 85 #[iv kx, iv (4 : Int32), rv fC, rv lg1, rv lg2, rv lg0, rv lg1, rv lg2, rv b_14, rv b_33, un] [])) K
  refine Wlk.of (fun _ k => XS.aload X33.here hx rfl (hb hby at_85) rfl rfl k) ?_
  show Wlk p.tables e below (T33.setTop (mkF m 87 #[iv kx, iv (4 : Int32), rv fC, rv lg1, rv lg2, rv lg0, rv lg1, rv lg2, rv b_14, rv b_33, un] [(.ref b_33)])) K
  refine Wlk.of (fun _ k => XS.aloadN X33.here hx rfl (hb hby at_87) rfl rfl k) ?_
  show Wlk p.tables e below (T33.setTop (mkF m 88 #[iv kx, iv (4 : Int32), rv fC, rv lg1, rv lg2, rv lg0, rv lg1, rv lg2, rv b_14, rv b_33, un] [(.ref lg1), (.ref b_33)])) K
  refine Wlk.of (fun _ k => XS.aload X33.here hx rfl (hb hby at_88) rfl rfl k) ?_
  show Wlk p.tables e below (T33.setTop (mkF m 90 #[iv kx, iv (4 : Int32), rv fC, rv lg1, rv lg2, rv lg0, rv lg1, rv lg2, rv b_14, rv b_33, un] [(.ref lg2), (.ref lg1), (.ref b_33)])) K
  obtain ⟨v47, T47, L47, X47, q47, st47⟩ := Ctr.iface (xi := (⟨"com/example/gapweave/gapweave/AggregateFunction$Accumulator", "add", "(Ljava/lang/Object;Ljava/lang/Object;)V"⟩ : MethodName)) (c_ca0 l Z a0 hw b_33 lg1 lg2 T33.heap n0 (Nat.le_trans Z0 K46.1) p33_1 p33_2 g_b_33) X33 hx hH rfl hown (wd hw 49 rfl) (wd hw 50 rfl) (wd hw 51 rfl) (wd hw 240 rfl) (wd hw 241 rfl) (wd hw 242 rfl) (wd hw 243 rfl) (wd hw 244 rfl) (wd hw 235 rfl) (wd hw 245 rfl) (by decide) p33_1 pd_401 (g := (mkF m 90 #[iv kx, iv (4 : Int32), rv fC, rv lg1, rv lg2, rv lg0, rv lg1, rv lg2, rv b_14, rv b_33, un] [(.ref lg2), (.ref lg1), (.ref b_33)])) rfl (by rw [hml]; rfl) (argsL := [(.ref lg1), (.ref lg2)]) (rest := []) rfl rfl rfl (W := 0) (by show 2 * 0 + _ ≤ _; exact Nat.le_of_eq rfl) (by decide) (by decide) (hb hby at_90) (by decide) (by decide)
  obtain ⟨rfl, N47q, K47q, p47_0⟩ := q47
  have N48 := Fr.app N34 N47q
  refine Wlk.of (fun _ k => st47 _ k) ?_
  have K49 : Keep h0 T47.heap [] := K46.trans K47q (allS (Or.inr sz_b_33) all0)
  show Wlk p.tables e below (T47.setTop (mkF m 95 #[iv kx, iv (4 : Int32), rv fC, rv lg1, rv lg2, rv lg0, rv lg1, rv lg2, rv b_14, rv b_33, un] [])) K
  refine Wlk.of (fun _ k => XS.aload X47.here hx rfl (hb hby at_95) rfl rfl k) ?_
  show Wlk p.tables e below (T47.setTop (mkF m 97 #[iv kx, iv (4 : Int32), rv fC, rv lg1, rv lg2, rv lg0, rv lg1, rv lg2, rv b_14, rv b_33, un] [(.ref b_33)])) K
  refine Wlk.of (fun _ k => XS.aload X47.here hx rfl (hb hby at_97) rfl rfl k) ?_
  show Wlk p.tables e below (T47.setTop (mkF m 99 #[iv kx, iv (4 : Int32), rv fC, rv lg1, rv lg2, rv lg0, rv lg1, rv lg2, rv b_14, rv b_33, un] [(.ref lg2), (.ref b_33)])) K
  refine Wlk.of (fun _ k => XS.aload X47.here hx rfl (hb hby at_99) rfl rfl k) ?_
  show Wlk p.tables e below (T47.setTop (mkF m 101 #[iv kx, iv (4 : Int32), rv fC, rv lg1, rv lg2, rv lg0, rv lg1, rv lg2, rv b_14, rv b_33, un] [(.ref lg1), (.ref lg2), (.ref b_33)])) K
  have f50 : Exa Z T47.heap b_33 "com/example/gapweave/gapweave/AggregateFunction$Count" := (p33_1.keep K47q)
  obtain ⟨v51, T51, L51, X51, q51, st51⟩ := Ctr.iface (xi := (⟨"com/example/gapweave/gapweave/AggregateFunction$Accumulator", "add", "(Ljava/lang/Object;Ljava/lang/Object;)V"⟩ : MethodName)) (c_ca1 l Z a0 hw b_33 lg2 lg1 T47.heap n0 (Nat.le_trans Z0 K49.1) f50 p47_0 g_b_33) X47 hx hH rfl hown (wd hw 49 rfl) (wd hw 50 rfl) (wd hw 51 rfl) (wd hw 240 rfl) (wd hw 241 rfl) (wd hw 242 rfl) (wd hw 243 rfl) (wd hw 244 rfl) (wd hw 235 rfl) (wd hw 245 rfl) (by decide) f50 pd_401 (g := (mkF m 101 #[iv kx, iv (4 : Int32), rv fC, rv lg1, rv lg2, rv lg0, rv lg1, rv lg2, rv b_14, rv b_33, un] [(.ref lg1), (.ref lg2), (.ref b_33)])) rfl (by rw [hml]; rfl) (argsL := [(.ref lg2), (.ref lg1)]) (rest := []) rfl rfl rfl (W := 0) (by show 2 * 0 + _ ≤ _; exact Nat.le_of_eq rfl) (by decide) (by decide) (hb hby at_101) (by decide) (by decide)
  obtain ⟨rfl, N51q, K51q, p51_0⟩ := q51
  have N52 := Fr.app N48 N51q
  refine Wlk.of (fun _ k => st51 _ k) ?_
  have K53 : Keep h0 T51.heap [] := K49.trans K51q (allS (Or.inr sz_b_33) all0)
  show Wlk p.tables e below (T51.setTop (mkF m 106 #[iv kx, iv (4 : Int32), rv fC, rv lg1, rv lg2, rv lg0, rv lg1, rv lg2, rv b_14, rv b_33, un] [])) K
  refine Wlk.of (fun _ k => XS.aload X51.here hx rfl (hb hby at_106) rfl rfl k) ?_
  show Wlk p.tables e below (T51.setTop (mkF m 108 #[iv kx, iv (4 : Int32), rv fC, rv lg1, rv lg2, rv lg0, rv lg1, rv lg2, rv b_14, rv b_33, un] [(.ref b_14)])) K
  have f54 : Fld Z T51.heap b_14 "com/example/gapweave/gapweave/AggregateFunction$Count" "count" "J" (.long (2 : Int64)) := (((p26_0.keep K33q nin0).keep K47q (ninS ne35 nin0)).keep K51q (ninS ne35 nin0))
  have f55 : Sta Z T51.heap "java/lang/Long$LongCache" "cache" "[Ljava/lang/Long;" (.ref ca) := (own_staKeep (own_staKeep (own_staKeep (own_staKeep (own_staKeep (own_staKeep S_cache K14q own_all0) K22q (own_allS (NSt.of p14_1) own_all0)) K26q (own_allS (NSt.of f25) own_all0)) K33q own_all0) K47q (own_allS (NSt.of p33_1) own_all0)) K51q (own_allS (NSt.of f50) own_all0))
  have f56 : Arl Z T51.heap ca (.object "java/lang/Long") vsC := (((f38.keep K33q nin0).keep K47q (ninS ne37 nin0)).keep K51q (ninS ne37 nin0))
  have f57 : Exa Z T51.heap b_14 "com/example/gapweave/gapweave/AggregateFunction$Count" := (((f36.keep K33q).keep K47q).keep K51q)
  obtain ⟨v58, T58, L58, X58, q58, st58⟩ := Ctr.iface (xi := (⟨"com/example/gapweave/gapweave/AggregateFunction$Accumulator", "result", "()Ljava/lang/Object;"⟩ : MethodName)) (c_cr l Z a0 hw b_14 ca vsC lg2 T51.heap n0 (Nat.le_trans Z0 K53.1) f54 f55 f56 hC2) X51 hx hH rfl hown (wd hw 77 rfl) (wd hw 78 rfl) (wd hw 79 rfl) (wd hw 248 rfl) (wd hw 249 rfl) (wd hw 250 rfl) (wd hw 251 rfl) (wd hw 244 rfl) (wd hw 235 rfl) (wd hw 252 rfl) (by decide) f57 pd_402 (g := (mkF m 108 #[iv kx, iv (4 : Int32), rv fC, rv lg1, rv lg2, rv lg0, rv lg1, rv lg2, rv b_14, rv b_33, un] [(.ref b_14)])) rfl (by rw [hml]; rfl) (argsL := []) (rest := []) rfl rfl rfl (W := 0) (by show 2 * 0 + _ ≤ _; exact Nat.le_of_eq rfl) (by decide) (by decide) (hb hby at_108) (by decide) (by decide)
  obtain ⟨rfl, N58q, hh58⟩ := q58
  have N59 := Fr.app N52 N58q
  refine Wlk.of (fun _ k => st58 _ k) ?_
  show Wlk p.tables e below (T58.setTop (mkF m 113 #[iv kx, iv (4 : Int32), rv fC, rv lg1, rv lg2, rv lg0, rv lg1, rv lg2, rv b_14, rv b_33, un] [(.ref lg2)])) K
  refine Wlk.of (fun _ k => XS.aload X58.here hx rfl (hb hby at_113) rfl rfl k) ?_
  show Wlk p.tables e below (T58.setTop (mkF m 115 #[iv kx, iv (4 : Int32), rv fC, rv lg1, rv lg2, rv lg0, rv lg1, rv lg2, rv b_14, rv b_33, un] [(.ref b_33), (.ref lg2)])) K
  have f60 : Exa Z T51.heap b_33 "com/example/gapweave/gapweave/AggregateFunction$Count" := (f50.keep K51q)
  obtain ⟨v61, T61, L61, X61, q61, st61⟩ := Ctr.iface (xi := (⟨"com/example/gapweave/gapweave/AggregateFunction$Accumulator", "result", "()Ljava/lang/Object;"⟩ : MethodName)) (c_cr l Z a0 hw b_33 ca vsC lg2 T51.heap n0 (Nat.le_trans Z0 K53.1) p51_0 f55 f56 hC2) X58 hx hH hh58 hown (wd hw 77 rfl) (wd hw 78 rfl) (wd hw 79 rfl) (wd hw 248 rfl) (wd hw 249 rfl) (wd hw 250 rfl) (wd hw 251 rfl) (wd hw 244 rfl) (wd hw 235 rfl) (wd hw 252 rfl) (by decide) f60 pd_402 (g := (mkF m 115 #[iv kx, iv (4 : Int32), rv fC, rv lg1, rv lg2, rv lg0, rv lg1, rv lg2, rv b_14, rv b_33, un] [(.ref b_33), (.ref lg2)])) rfl (by rw [hml]; rfl) (argsL := []) (rest := [(.ref lg2)]) rfl rfl rfl (W := 1) (by show 2 * 0 + _ ≤ _; exact Nat.le_of_eq rfl) (by decide) (by decide) (hb hby at_115) (by decide) (by decide)
  obtain ⟨rfl, N61q, hh61⟩ := q61
  have N62 := Fr.app N59 N61q
  refine Wlk.of (fun _ k => st61 _ k) ?_
  show Wlk p.tables e below (T61.setTop (mkF m 120 #[iv kx, iv (4 : Int32), rv fC, rv lg1, rv lg2, rv lg0, rv lg1, rv lg2, rv b_14, rv b_33, un] [(.ref lg2), (.ref lg2)])) K
  obtain ⟨v63, T63, L63, X63, q63, st63⟩ := Ctr.static (c_seq l Z a0 hw lg2 T51.heap n0 (Nat.le_trans Z0 K53.1) ) X61 hx hH hh61 hown (wd hw 108 rfl) (wd hw 109 rfl) (wd hw 3 rfl) (wd hw 110 rfl) (by decide) pd_403 (g := (mkF m 120 #[iv kx, iv (4 : Int32), rv fC, rv lg1, rv lg2, rv lg0, rv lg1, rv lg2, rv b_14, rv b_33, un] [(.ref lg2), (.ref lg2)])) rfl (by rw [hml]; rfl) (argsL := [(.ref lg2), (.ref lg2)]) (rest := []) rfl rfl rfl (W := 0) (by show 2 * 0 + _ ≤ _; exact Nat.le_of_eq rfl) (by decide) (by decide) (hb hby at_120) (by decide) (by decide)
  obtain ⟨rfl, N63q, hh63⟩ := q63
  have N64 := Fr.app N62 N63q
  refine Wlk.of (fun _ k => st63 _ k) ?_
  show Wlk p.tables e below (T63.setTop (mkF m 123 #[iv kx, iv (4 : Int32), rv fC, rv lg1, rv lg2, rv lg0, rv lg1, rv lg2, rv b_14, rv b_33, un] [(.int (1 : Int32))])) K
  refine Wlk.of (fun _ k => XS.ifYes X63.here hx rfl (pc0 := 123) (pc' := 130) rfl (hb hby at_123) rfl ((if0 _ _).trans (feq (by decide : ¬ ((1 : Int32) = (0 : Int32)))).2) (by decide) (by decide) k) ?_
  show Wlk p.tables e below (T63.setTop (mkF m 130 #[iv kx, iv (4 : Int32), rv fC, rv lg1, rv lg2, rv lg0, rv lg1, rv lg2, rv b_14, rv b_33, un] [])) K
  refine Wlk.of (fun _ k => XS.iconst X63.here hx rfl (hb hby at_130) k) ?_
  show Wlk p.tables e below (T63.setTop (mkF m 131 #[iv kx, iv (4 : Int32), rv fC, rv lg1, rv lg2, rv lg0, rv lg1, rv lg2, rv b_14, rv b_33, un] [(.int (0 : Int32))])) K
  refine Wlk.of (fun _ k => XS.istore X63.here hx rfl (hb hby at_131) rfl (l' := #[iv kx, iv (4 : Int32), rv fC, rv lg1, rv lg2, rv lg0, rv lg1, rv lg2, rv b_14, rv b_33, iv (0 : Int32)]) rfl k) ?_
  show Wlk p.tables e below (T63.setTop (mkF m 133 #[iv kx, iv (4 : Int32), rv fC, rv lg1, rv lg2, rv lg0, rv lg1, rv lg2, rv b_14, rv b_33, iv (0 : Int32)] [])) K
  refine Wlk.of (fun _ k => XS.aloadN X63.here hx rfl (hb hby at_133) rfl rfl k) ?_
  show Wlk p.tables e below (T63.setTop (mkF m 134 #[iv kx, iv (4 : Int32), rv fC, rv lg1, rv lg2, rv lg0, rv lg1, rv lg2, rv b_14, rv b_33, iv (0 : Int32)] [(.ref fC)])) K
  have f65 : Sta Z T51.heap "com/example/gapweave/gapweave/AggregateFunction" "AVG" "Lcom/example/gapweave/gapweave/AggregateFunction;" (.ref fA) := (own_staKeep (own_staKeep (own_staKeep (own_staKeep (own_staKeep (own_staKeep S_AVG K14q own_all0) K22q (own_allS (NSt.of p14_1) own_all0)) K26q (own_allS (NSt.of f25) own_all0)) K33q own_all0) K47q (own_allS (NSt.of p33_1) own_all0)) K51q (own_allS (NSt.of f50) own_all0))
  have f66 : Sta Z T51.heap "com/example/gapweave/gapweave/AggregateFunction" "SUM" "Lcom/example/gapweave/gapweave/AggregateFunction;" (.ref fS) := (own_staKeep (own_staKeep (own_staKeep (own_staKeep (own_staKeep (own_staKeep S_SUM K14q own_all0) K22q (own_allS (NSt.of p14_1) own_all0)) K26q (own_allS (NSt.of f25) own_all0)) K33q own_all0) K47q (own_allS (NSt.of p33_1) own_all0)) K51q (own_allS (NSt.of f50) own_all0))
  have f67 : Sta Z T51.heap "com/example/gapweave/gapweave/AggregateFunction" "MIN" "Lcom/example/gapweave/gapweave/AggregateFunction;" (.ref fM) := (own_staKeep (own_staKeep (own_staKeep (own_staKeep (own_staKeep (own_staKeep S_MIN K14q own_all0) K22q (own_allS (NSt.of p14_1) own_all0)) K26q (own_allS (NSt.of f25) own_all0)) K33q own_all0) K47q (own_allS (NSt.of p33_1) own_all0)) K51q (own_allS (NSt.of f50) own_all0))
  have f68 : Sta Z T51.heap "com/example/gapweave/gapweave/AggregateFunction" "MAX" "Lcom/example/gapweave/gapweave/AggregateFunction;" (.ref fX) := (own_staKeep (own_staKeep (own_staKeep (own_staKeep (own_staKeep (own_staKeep S_MAX K14q own_all0) K22q (own_allS (NSt.of p14_1) own_all0)) K26q (own_allS (NSt.of f25) own_all0)) K33q own_all0) K47q (own_allS (NSt.of p33_1) own_all0)) K51q (own_allS (NSt.of f50) own_all0))
  have f69 : Exa Z T51.heap fC "com/example/gapweave/gapweave/AggregateFunction" := (((f31.keep K33q).keep K47q).keep K51q)
  obtain ⟨v70, T70, L70, X70, q70, st70⟩ := Ctr.virtual (y := (⟨"com/example/gapweave/gapweave/AggregateFunction", "readsValues", "()Z"⟩ : MethodName)) (c_rv4 l Z a0 hw fC fA fS fM fX T51.heap n0 (Nat.le_trans Z0 K53.1) f65 f66 f67 f68 ne_fC_fA ne_fC_fS ne_fC_fM ne_fC_fX) X63 hx hH hh63 hown (wd hw 121 rfl) (wd hw 122 rfl) (notFace_of_selects (args := #[]) (mvT hZ (wd hw 124 rfl))) (wd hw 124 rfl) (wd hw 123 rfl) (wd hw 6 rfl) (wd hw 125 rfl) (by decide) f69 pd_404 (g := (mkF m 134 #[iv kx, iv (4 : Int32), rv fC, rv lg1, rv lg2, rv lg0, rv lg1, rv lg2, rv b_14, rv b_33, iv (0 : Int32)] [(.ref fC)])) rfl (by rw [hml]; rfl) (argsL := []) (rest := []) rfl rfl rfl (W := 0) (by show 2 * 0 + _ ≤ _; exact Nat.le_of_eq rfl) (by decide) (by decide) (hb hby at_134) (by decide) (by decide)
  obtain ⟨rfl, N70q, hh70⟩ := q70
  have N71 := Fr.app N64 N70q
  refine Wlk.of (fun _ k => st70 _ k) ?_
  show Wlk p.tables e below (T70.setTop (mkF m 137 #[iv kx, iv (4 : Int32), rv fC, rv lg1, rv lg2, rv lg0, rv lg1, rv lg2, rv b_14, rv b_33, iv (0 : Int32)] [(.int (0 : Int32))])) K
  refine Wlk.of (fun _ k => XS.iload X70.here hx rfl (hb hby at_137) rfl k) ?_
  show Wlk p.tables e below (T70.setTop (mkF m 139 #[iv kx, iv (4 : Int32), rv fC, rv lg1, rv lg2, rv lg0, rv lg1, rv lg2, rv b_14, rv b_33, iv (0 : Int32)] [(.int (0 : Int32)), (.int (0 : Int32))])) K
  refine Wlk.of (fun _ k => XS.icmpNo X70.here hx rfl (hb hby at_139) rfl (teq (by decide : (0 : Int32) = (0 : Int32))).2 k) ?_
  show Wlk p.tables e below (T70.setTop (mkF m 142 #[iv kx, iv (4 : Int32), rv fC, rv lg1, rv lg2, rv lg0, rv lg1, rv lg2, rv b_14, rv b_33, iv (0 : Int32)] [])) K
  refine Wlk.of (fun _ k => XS.iconst X70.here hx rfl (hb hby at_142) k) ?_
  show Wlk p.tables e below (T70.setTop (mkF m 143 #[iv kx, iv (4 : Int32), rv fC, rv lg1, rv lg2, rv lg0, rv lg1, rv lg2, rv b_14, rv b_33, iv (0 : Int32)] [(.int (1 : Int32))])) K
  refine Wlk.of (fun _ k => XS.goto X70.here hx rfl (pc0 := 143) (pc' := 147) rfl (hb hby at_143) (by decide) (by decide) k) ?_
  show Wlk p.tables e below (T70.setTop (mkF m 147 #[iv kx, iv (4 : Int32), rv fC, rv lg1, rv lg2, rv lg0, rv lg1, rv lg2, rv b_14, rv b_33, iv (0 : Int32)] [(.int (1 : Int32))])) K
  refine hK (some (.int (1 : Int32))) X70 (fun q => by cases q) (fun fs hr => retN X70 hx (t := .boolean) hret (by simp) (hb hby at_147) hr) ?_ (by decide) (by decide)
  rw [show T70.heap = T51.heap from hh70]
  exact ⟨rfl, N71, K53⟩
theorem ef_c_law5 (m : MethodId) (kx : Int32) : entryFrame m #[(.int kx)] maxLocals = mkF m 0 #[iv kx, un, un, un, un, un, un, un, un, un, un] [] := by first | (simp [entryFrame, mkF, argsToLocals, Value.category, maxLocals]; done) | rfl
def Q_c_law5 (Z : State) (kx : Int32) (fF : Addr) (fA : Addr) (fS : Addr) (fM : Addr) (fX : Addr) (i64 : Addr) (ca : Addr) (vsC : (List Value)) (lg0 : Addr) (lg1 : Addr) (lg2 : Addr) (h0 : Heap) (n0 : Nat) (v : Option Value) (h : Heap) (L : List Loc) : Prop := v = (some (.int (1 : Int32))) ∧ Fr n0 L ∧ Keep h0 h []
set_option maxRecDepth 65536 in
set_option maxHeartbeats 40000000 in
theorem c_law5 (l : Launch) (Z : State) (a0 : Array Value) (hw : ∀ d ∈ tables_1, d.before a0 Z = true) (ws : List Jvm.Cond) (kx : Int32) (fF : Addr) (fA : Addr) (fS : Addr) (fM : Addr) (fX : Addr) (i64 : Addr) (ca : Addr) (vsC : (List Value)) (lg0 : Addr) (lg1 : Addr) (lg2 : Addr) (h0 : Heap) (n0 : Nat) (Z0 : n0 ≤ h0.size) (hi : (kx &&& (2147483647 : Int32)) % (7 : Int32) = (5 : Int32)) (S_AVG : Sta Z h0 "com/example/gapweave/gapweave/AggregateFunction" "AVG" "Lcom/example/gapweave/gapweave/AggregateFunction;" (.ref fA)) (S_SUM : Sta Z h0 "com/example/gapweave/gapweave/AggregateFunction" "SUM" "Lcom/example/gapweave/gapweave/AggregateFunction;" (.ref fS)) (S_MIN : Sta Z h0 "com/example/gapweave/gapweave/AggregateFunction" "MIN" "Lcom/example/gapweave/gapweave/AggregateFunction;" (.ref fM)) (S_MAX : Sta Z h0 "com/example/gapweave/gapweave/AggregateFunction" "MAX" "Lcom/example/gapweave/gapweave/AggregateFunction;" (.ref fX)) (S_FIRST_VALUE : Sta Z h0 "com/example/gapweave/gapweave/AggregateFunction" "FIRST_VALUE" "Lcom/example/gapweave/gapweave/AggregateFunction;" (.ref fF)) (E_fF : Exa Z h0 fF "com/example/gapweave/gapweave/AggregateFunction") (F_fF_ordinal : Fld Z h0 fF "java/lang/Enum" "ordinal" "I" (.int (5 : Int32))) (ne_fF_fA : fF ≠ fA) (ne_fF_fS : fF ≠ fS) (ne_fF_fM : fF ≠ fM) (ne_fF_fX : fF ≠ fX) (S_INT64 : Sta Z h0 "com/example/gapweave/gapweave/ColumnType" "INT64" "Lcom/example/gapweave/gapweave/ColumnType;" (.ref i64)) (S_cache : Sta Z h0 "java/lang/Long$LongCache" "cache" "[Ljava/lang/Long;" (.ref ca)) (A_ca : Arl Z h0 ca (.object "java/lang/Long") vsC) (hC0 : vsC[128]? = some (.ref lg0)) (hC1 : vsC[129]? = some (.ref lg1)) (hC2 : vsC[130]? = some (.ref lg2)) (E_lg0 : Exa Z h0 lg0 "java/lang/Long") (F_lg0_value : Fld Z h0 lg0 "java/lang/Long" "value" "J" (.long (0 : Int64))) (E_lg1 : Exa Z h0 lg1 "java/lang/Long") (F_lg1_value : Fld Z h0 lg1 "java/lang/Long" "value" "J" (.long (1 : Int64))) (E_lg2 : Exa Z h0 lg2 "java/lang/Long") (F_lg2_value : Fld Z h0 lg2 "java/lang/Long" "value" "J" (.long (2 : Int64))) :
    Ctr l Z h0 x code maxLocals ret ws room_1 #[(.int kx)] (Q_c_law5 Z kx fF fA fS fM fX i64 ca vsC lg0 lg1 lg2 h0 n0) := by
  refine Ctr.make (plainFor_of_name pn_250) fun p e s m below meth c s₁ K hret hml hx hby hown hnm hnamed hH hZ X0 e0 hK => ?_
  have hown : s.vm.findClass "com/example/gapweave/gapweave/AggregateFunctionReadsValuesPinLaw" = some m.cls := hown
  have hml : c.maxLocals = 11 := hml
  have N0 := Fr.nil n0
  have K0 : Keep h0 h0 [] := Keep.refl _ _
  refine Wlk.of (fun _ k => castTop (ef_c_law5 m kx) k) ?_
  show Wlk p.tables e below (s₁.setTop (mkF m 0 #[iv kx, un, un, un, un, un, un, un, un, un, un] [])) K
  refine Wlk.of (fun _ k => XS.iloadN X0.here hx rfl (hb hby at_0) rfl k) ?_
  show Wlk p.tables e below (s₁.setTop (mkF m 1 #[iv kx, un, un, un, un, un, un, un, un, un, un] [(.int kx)])) K
  refine Wlk.of (fun _ k => X0.ldcInt hx hown (mvT hZ (wd hw 0 rfl)) (g := (mkF m 1 #[iv kx, un, un, un, un, un, un, un, un, un, un] [(.int kx)])) rfl (hb hby at_1) _ k) ?_
  show Wlk p.tables e below (s₁.setTop (mkF m 3 #[iv kx, un, un, un, un, un, un, un, un, un, un] [(.int (2147483647 : Int32)), (.int kx)])) K
  refine Wlk.of (fun _ k => XS.iand X0.here hx rfl (hb hby at_3) rfl k) ?_
  show Wlk p.tables e below (s₁.setTop (mkF m 4 #[iv kx, un, un, un, un, un, un, un, un, un, un] [(.int (kx &&& (2147483647 : Int32)))])) K
  refine Wlk.of (fun _ k => XS.bipush X0.here hx rfl (hb hby at_4) k) ?_
  show Wlk p.tables e below (s₁.setTop (mkF m 6 #[iv kx, un, un, un, un, un, un, un, un, un, un] [(.int (7 : Int32)), (.int (kx &&& (2147483647 : Int32)))])) K
  refine Wlk.of (fun _ k => iremM X0 hx rfl (hb hby at_6) rfl (by decide) k) ?_
  show Wlk p.tables e below (s₁.setTop (mkF m 7 #[iv kx, un, un, un, un, un, un, un, un, un, un] [(.int ((kx &&& (2147483647 : Int32)) % (7 : Int32)))])) K
  rw [hi]
  refine Wlk.of (fun _ k => XS.istoreN X0.here hx rfl (hb hby at_7) rfl (l' := #[iv kx, iv (5 : Int32), un, un, un, un, un, un, un, un, un]) rfl k) ?_
  show Wlk p.tables e below (s₁.setTop (mkF m 8 #[iv kx, iv (5 : Int32), un, un, un, un, un, un, un, un, un] [])) K
  refine Wlk.of (fun _ k => XS.iloadN X0.here hx rfl (hb hby at_8) rfl k) ?_
  show Wlk p.tables e below (s₁.setTop (mkF m 9 #[iv kx, iv (5 : Int32), un, un, un, un, un, un, un, un, un] [(.int (5 : Int32))])) K
  obtain ⟨v1, T1, L1, X1, q1, st1⟩ := Ctr.static (c_pick5 l Z a0 hw fF h0 n0 (Nat.le_trans Z0 K0.1) S_FIRST_VALUE) X0 hx hH e0 hown (wd hw 1 rfl) (wd hw 2 rfl) (wd hw 3 rfl) (wd hw 4 rfl) (by decide) pd_399 (g := (mkF m 9 #[iv kx, iv (5 : Int32), un, un, un, un, un, un, un, un, un] [(.int (5 : Int32))])) rfl (by rw [hml]; rfl) (argsL := [(.int (5 : Int32))]) (rest := []) rfl rfl rfl (W := 0) (by show 2 * 0 + _ ≤ _; exact Nat.le_of_eq rfl) (by decide) (by decide) (hb hby at_9) (by decide) (by decide)
  obtain ⟨rfl, N1q, hh1⟩ := q1
  have N2 := Fr.app N0 N1q
  refine Wlk.of (fun _ k => st1 _ k) ?_
  show Wlk p.tables e below (T1.setTop (mkF m 12 #[iv kx, iv (5 : Int32), un, un, un, un, un, un, un, un, un] [(.ref fF)])) K
  refine Wlk.of (fun _ k => XS.astoreN X1.here hx rfl (hb hby at_12) rfl rfl (l' := #[iv kx, iv (5 : Int32), rv fF, un, un, un, un, un, un, un, un]) rfl k) ?_
  show Wlk p.tables e below (T1.setTop (mkF m 13 #[iv kx, iv (5 : Int32), rv fF, un, un, un, un, un, un, un, un] [])) K
  refine Wlk.of (fun _ k => XS.lconst X1.here hx rfl (hb hby at_13) k) ?_
  show Wlk p.tables e below (T1.setTop (mkF m 14 #[iv kx, iv (5 : Int32), rv fF, un, un, un, un, un, un, un, un] [(.long (1 : Int64))])) K
  obtain ⟨v3, T3, L3, X3, q3, st3⟩ := Ctr.static (c_vo1 l Z a0 hw ca vsC lg1 h0 n0 (Nat.le_trans Z0 K0.1) S_cache A_ca hC1) X1 hx hH hh1 hown (wd hw 8 rfl) (wd hw 9 rfl) (wd hw 10 rfl) (wd hw 11 rfl) (by decide) pd_174 (g := (mkF m 14 #[iv kx, iv (5 : Int32), rv fF, un, un, un, un, un, un, un, un] [(.long (1 : Int64))])) rfl (by rw [hml]; rfl) (argsL := [(.long (1 : Int64))]) (rest := []) rfl rfl rfl (W := 0) (by show 2 * 0 + _ ≤ _; exact Nat.le_of_eq rfl) (by decide) (by decide) (hb hby at_14) (by decide) (by decide)
  obtain ⟨rfl, N3q, hh3⟩ := q3
  have N4 := Fr.app N2 N3q
  refine Wlk.of (fun _ k => st3 _ k) ?_
  show Wlk p.tables e below (T3.setTop (mkF m 17 #[iv kx, iv (5 : Int32), rv fF, un, un, un, un, un, un, un, un] [(.ref lg1)])) K
  refine Wlk.of (fun _ k => XS.astoreN X3.here hx rfl (hb hby at_17) rfl rfl (l' := #[iv kx, iv (5 : Int32), rv fF, rv lg1, un, un, un, un, un, un, un]) rfl k) ?_
  show Wlk p.tables e below (T3.setTop (mkF m 18 #[iv kx, iv (5 : Int32), rv fF, rv lg1, un, un, un, un, un, un, un] [])) K
  refine Wlk.of (fun _ k => X3.ldc2Long hx hown (mvT hZ (wd hw 16 rfl)) (g := (mkF m 18 #[iv kx, iv (5 : Int32), rv fF, rv lg1, un, un, un, un, un, un, un] [])) rfl (hb hby at_18) _ k) ?_
  show Wlk p.tables e below (T3.setTop (mkF m 21 #[iv kx, iv (5 : Int32), rv fF, rv lg1, un, un, un, un, un, un, un] [(.long (2 : Int64))])) K
  obtain ⟨v5, T5, L5, X5, q5, st5⟩ := Ctr.static (c_vo2 l Z a0 hw ca vsC lg2 h0 n0 (Nat.le_trans Z0 K0.1) S_cache A_ca hC2) X3 hx hH hh3 hown (wd hw 8 rfl) (wd hw 9 rfl) (wd hw 10 rfl) (wd hw 11 rfl) (by decide) pd_174 (g := (mkF m 21 #[iv kx, iv (5 : Int32), rv fF, rv lg1, un, un, un, un, un, un, un] [(.long (2 : Int64))])) rfl (by rw [hml]; rfl) (argsL := [(.long (2 : Int64))]) (rest := []) rfl rfl rfl (W := 0) (by show 2 * 0 + _ ≤ _; exact Nat.le_of_eq rfl) (by decide) (by decide) (hb hby at_21) (by decide) (by decide)
  obtain ⟨rfl, N5q, hh5⟩ := q5
  have N6 := Fr.app N4 N5q
  refine Wlk.of (fun _ k => st5 _ k) ?_
  show Wlk p.tables e below (T5.setTop (mkF m 24 #[iv kx, iv (5 : Int32), rv fF, rv lg1, un, un, un, un, un, un, un] [(.ref lg2)])) K
  refine Wlk.of (fun _ k => XS.astore X5.here hx rfl (hb hby at_24) rfl rfl (l' := #[iv kx, iv (5 : Int32), rv fF, rv lg1, rv lg2, un, un, un, un, un, un]) rfl k) ?_
  show Wlk p.tables e below (T5.setTop (mkF m 26 #[iv kx, iv (5 : Int32), rv fF, rv lg1, rv lg2, un, un, un, un, un, un] [])) K
  refine Wlk.of (fun _ k => XS.lconst X5.here hx rfl (hb hby at_26) k) ?_
  show Wlk p.tables e below (T5.setTop (mkF m 27 #[iv kx, iv (5 : Int32), rv fF, rv lg1, rv lg2, un, un, un, un, un, un] [(.long (0 : Int64))])) K
  obtain ⟨v7, T7, L7, X7, q7, st7⟩ := Ctr.static (c_vo0 l Z a0 hw ca vsC lg0 h0 n0 (Nat.le_trans Z0 K0.1) S_cache A_ca hC0) X5 hx hH hh5 hown (wd hw 8 rfl) (wd hw 9 rfl) (wd hw 10 rfl) (wd hw 11 rfl) (by decide) pd_174 (g := (mkF m 27 #[iv kx, iv (5 : Int32), rv fF, rv lg1, rv lg2, un, un, un, un, un, un] [(.long (0 : Int64))])) rfl (by rw [hml]; rfl) (argsL := [(.long (0 : Int64))]) (rest := []) rfl rfl rfl (W := 0) (by show 2 * 0 + _ ≤ _; exact Nat.le_of_eq rfl) (by decide) (by decide) (hb hby at_27) (by decide) (by decide)
  obtain ⟨rfl, N7q, hh7⟩ := q7
  have N8 := Fr.app N6 N7q
  refine Wlk.of (fun _ k => st7 _ k) ?_
  show Wlk p.tables e below (T7.setTop (mkF m 30 #[iv kx, iv (5 : Int32), rv fF, rv lg1, rv lg2, un, un, un, un, un, un] [(.ref lg0)])) K
  refine Wlk.of (fun _ k => XS.astore X7.here hx rfl (hb hby at_30) rfl rfl (l' := #[iv kx, iv (5 : Int32), rv fF, rv lg1, rv lg2, rv lg0, un, un, un, un, un]) rfl k) ?_
  show Wlk p.tables e below (T7.setTop (mkF m 32 #[iv kx, iv (5 : Int32), rv fF, rv lg1, rv lg2, rv lg0, un, un, un, un, un] [])) K
  refine Wlk.of (fun _ k => XS.lconst X7.here hx rfl (hb hby at_32) k) ?_
  show Wlk p.tables e below (T7.setTop (mkF m 33 #[iv kx, iv (5 : Int32), rv fF, rv lg1, rv lg2, rv lg0, un, un, un, un, un] [(.long (1 : Int64))])) K
  obtain ⟨v9, T9, L9, X9, q9, st9⟩ := Ctr.static (c_vo1 l Z a0 hw ca vsC lg1 h0 n0 (Nat.le_trans Z0 K0.1) S_cache A_ca hC1) X7 hx hH hh7 hown (wd hw 8 rfl) (wd hw 9 rfl) (wd hw 10 rfl) (wd hw 11 rfl) (by decide) pd_174 (g := (mkF m 33 #[iv kx, iv (5 : Int32), rv fF, rv lg1, rv lg2, rv lg0, un, un, un, un, un] [(.long (1 : Int64))])) rfl (by rw [hml]; rfl) (argsL := [(.long (1 : Int64))]) (rest := []) rfl rfl rfl (W := 0) (by show 2 * 0 + _ ≤ _; exact Nat.le_of_eq rfl) (by decide) (by decide) (hb hby at_33) (by decide) (by decide)
  obtain ⟨rfl, N9q, hh9⟩ := q9
  have N10 := Fr.app N8 N9q
  refine Wlk.of (fun _ k => st9 _ k) ?_
  show Wlk p.tables e below (T9.setTop (mkF m 36 #[iv kx, iv (5 : Int32), rv fF, rv lg1, rv lg2, rv lg0, un, un, un, un, un] [(.ref lg1)])) K
  refine Wlk.of (fun _ k => XS.astore X9.here hx rfl (hb hby at_36) rfl rfl (l' := #[iv kx, iv (5 : Int32), rv fF, rv lg1, rv lg2, rv lg0, rv lg1, un, un, un, un]) rfl k) ?_
  show Wlk p.tables e below (T9.setTop (mkF m 38 #[iv kx, iv (5 : Int32), rv fF, rv lg1, rv lg2, rv lg0, rv lg1, un, un, un, un] [])) K
  refine Wlk.of (fun _ k => X9.ldc2Long hx hown (mvT hZ (wd hw 16 rfl)) (g := (mkF m 38 #[iv kx, iv (5 : Int32), rv fF, rv lg1, rv lg2, rv lg0, rv lg1, un, un, un, un] [])) rfl (hb hby at_38) _ k) ?_
  show Wlk p.tables e below (T9.setTop (mkF m 41 #[iv kx, iv (5 : Int32), rv fF, rv lg1, rv lg2, rv lg0, rv lg1, un, un, un, un] [(.long (2 : Int64))])) K
  obtain ⟨v11, T11, L11, X11, q11, st11⟩ := Ctr.static (c_vo2 l Z a0 hw ca vsC lg2 h0 n0 (Nat.le_trans Z0 K0.1) S_cache A_ca hC2) X9 hx hH hh9 hown (wd hw 8 rfl) (wd hw 9 rfl) (wd hw 10 rfl) (wd hw 11 rfl) (by decide) pd_174 (g := (mkF m 41 #[iv kx, iv (5 : Int32), rv fF, rv lg1, rv lg2, rv lg0, rv lg1, un, un, un, un] [(.long (2 : Int64))])) rfl (by rw [hml]; rfl) (argsL := [(.long (2 : Int64))]) (rest := []) rfl rfl rfl (W := 0) (by show 2 * 0 + _ ≤ _; exact Nat.le_of_eq rfl) (by decide) (by decide) (hb hby at_41) (by decide) (by decide)
  obtain ⟨rfl, N11q, hh11⟩ := q11
  have N12 := Fr.app N10 N11q
  refine Wlk.of (fun _ k => st11 _ k) ?_
  show Wlk p.tables e below (T11.setTop (mkF m 44 #[iv kx, iv (5 : Int32), rv fF, rv lg1, rv lg2, rv lg0, rv lg1, un, un, un, un] [(.ref lg2)])) K
  refine Wlk.of (fun _ k => XS.astore X11.here hx rfl (hb hby at_44) rfl rfl (l' := #[iv kx, iv (5 : Int32), rv fF, rv lg1, rv lg2, rv lg0, rv lg1, rv lg2, un, un, un]) rfl k) ?_
  show Wlk p.tables e below (T11.setTop (mkF m 46 #[iv kx, iv (5 : Int32), rv fF, rv lg1, rv lg2, rv lg0, rv lg1, rv lg2, un, un, un] [])) K
  refine Wlk.of (fun _ k => XS.aloadN X11.here hx rfl (hb hby at_46) rfl rfl k) ?_
  show Wlk p.tables e below (T11.setTop (mkF m 47 #[iv kx, iv (5 : Int32), rv fF, rv lg1, rv lg2, rv lg0, rv lg1, rv lg2, un, un, un] [(.ref fF)])) K
  obtain ⟨T13, X13, e13, st13⟩ := getS2 X11 hx hZ hown (host := "") (Or.inl (wd hw 17 rfl)) Via.refl hh11 S_INT64 (g := (mkF m 47 #[iv kx, iv (5 : Int32), rv fF, rv lg1, rv lg2, rv lg0, rv lg1, rv lg2, un, un, un] [(.ref fF)])) rfl (hb hby at_47)
  refine Wlk.of (fun _ k => st13 _ k) ?_
  show Wlk p.tables e below (T13.setTop (mkF m 50 #[iv kx, iv (5 : Int32), rv fF, rv lg1, rv lg2, rv lg0, rv lg1, rv lg2, un, un, un] [(.ref i64), (.ref fF)])) K
  obtain ⟨v14, T14, L14, X14, q14, st14⟩ := Ctr.virtual (y := (⟨"com/example/gapweave/gapweave/AggregateFunction", "start", "(Lcom/example/gapweave/gapweave/ColumnType;)Lcom/example/gapweave/gapweave/AggregateFunction$Accumulator;"⟩ : MethodName)) (c_start5 l Z a0 hw fF i64 h0 n0 (Nat.le_trans Z0 K0.1) E_fF F_fF_ordinal) X13 hx hH e13 hown (wd hw 20 rfl) (wd hw 21 rfl) (notFace_of_selects (args := #[]) (mvT hZ (wd hw 23 rfl))) (wd hw 23 rfl) (wd hw 22 rfl) (wd hw 6 rfl) (wd hw 24 rfl) (by decide) E_fF pd_400 (g := (mkF m 50 #[iv kx, iv (5 : Int32), rv fF, rv lg1, rv lg2, rv lg0, rv lg1, rv lg2, un, un, un] [(.ref i64), (.ref fF)])) rfl (by rw [hml]; rfl) (argsL := [(.ref i64)]) (rest := []) rfl rfl rfl (W := 0) (by show 2 * 0 + _ ≤ _; exact Nat.le_of_eq rfl) (by decide) (by decide) (hb hby at_50) (by decide) (by decide)
  obtain ⟨b_14, rfl, N14q, K14q, p14_0, p14_1, p14_2⟩ := q14
  have N15 := Fr.app N12 N14q
  refine Wlk.of (fun _ k => st14 _ k) ?_
  have ne16 : ca ≠ b_14 := Nat.ne_of_lt (Nat.lt_of_lt_of_le A_ca.lt p14_0)
  have ne17 : fF ≠ b_14 := Nat.ne_of_lt (Nat.lt_of_lt_of_le E_fF.lt p14_0)
  have ne18 : lg0 ≠ b_14 := Nat.ne_of_lt (Nat.lt_of_lt_of_le E_lg0.lt p14_0)
  have ne19 : lg1 ≠ b_14 := Nat.ne_of_lt (Nat.lt_of_lt_of_le E_lg1.lt p14_0)
  have ne20 : lg2 ≠ b_14 := Nat.ne_of_lt (Nat.lt_of_lt_of_le E_lg2.lt p14_0)
  have sz_b_14 : h0.size ≤ b_14 := Nat.le_trans K0.1 p14_0
  have g_b_14 : n0 ≤ b_14 := Nat.le_trans Z0 sz_b_14
  have K21 : Keep h0 T14.heap [] := K0.trans K14q all0
  show Wlk p.tables e below (T14.setTop (mkF m 53 #[iv kx, iv (5 : Int32), rv fF, rv lg1, rv lg2, rv lg0, rv lg1, rv lg2, un, un, un] [(.ref b_14)])) K
  refine Wlk.of (fun _ k => XS.astore X14.here hx rfl (hb hby at_53) rfl rfl (l' := #[iv kx, iv (5 : Int32), rv fF, rv lg1, rv lg2, rv lg0, rv lg1, rv lg2, rv b_14, un, un]) rfl k) ?_
  show Wlk p.tables e below (T14.setTop (mkF m 55 #[iv kx, iv (5 : Int32), rv fF, rv lg1, rv lg2, rv lg0, rv lg1, rv lg2, rv b_14, un, un] [])) K
  refine Wlk.of (fun _ k => XS.aload X14.here hx rfl (hb hby at_55) rfl rfl k) ?_
  show Wlk p.tables e below (T14.setTop (mkF m 57 #[iv kx, iv (5 : Int32), rv fF, rv lg1, rv lg2, rv lg0, rv lg1, rv lg2, rv b_14, un, un] [(.ref b_14)])) K
  refine Wlk.of (fun _ k => XS.aloadN X14.here hx rfl (hb hby at_57) rfl rfl k) ?_
  show Wlk p.tables e below (T14.setTop (mkF m 58 #[iv kx, iv (5 : Int32), rv fF, rv lg1, rv lg2, rv lg0, rv lg1, rv lg2, rv b_14, un, un] [(.ref lg1), (.ref b_14)])) K
  refine Wlk.of (fun _ k => XS.aload X14.here hx rfl (hb hby at_58) rfl rfl k) ?_
  show Wlk p.tables e below (T14.setTop (mkF m 60 #[iv kx, iv (5 : Int32), rv fF, rv lg1, rv lg2, rv lg0, rv lg1, rv lg2, rv b_14, un, un] [(.ref lg0), (.ref lg1), (.ref b_14)])) K
  obtain ⟨v22, T22, L22, X22, q22, st22⟩ := Ctr.iface (xi := (⟨"com/example/gapweave/gapweave/AggregateFunction$Accumulator", "add", "(Ljava/lang/Object;Ljava/lang/Object;)V"⟩ : MethodName)) (c_fa0 l Z a0 hw b_14 lg1 lg0 T14.heap n0 (Nat.le_trans Z0 K21.1) p14_1 p14_2 g_b_14) X14 hx hH rfl hown (wd hw 49 rfl) (wd hw 50 rfl) (wd hw 51 rfl) (wd hw 196 rfl) (wd hw 197 rfl) (wd hw 198 rfl) (wd hw 199 rfl) (wd hw 200 rfl) (wd hw 191 rfl) (wd hw 201 rfl) (by decide) p14_1 pd_401 (g := (mkF m 60 #[iv kx, iv (5 : Int32), rv fF, rv lg1, rv lg2, rv lg0, rv lg1, rv lg2, rv b_14, un, un] [(.ref lg0), (.ref lg1), (.ref b_14)])) rfl (by rw [hml]; rfl) (argsL := [(.ref lg1), (.ref lg0)]) (rest := []) rfl rfl rfl (W := 0) (by show 2 * 0 + _ ≤ _; exact Nat.le_of_eq rfl) (by decide) (by decide) (hb hby at_60) (by decide) (by decide)
  obtain ⟨rfl, N22q, K22q, p22_0⟩ := q22
  have N23 := Fr.app N15 N22q
  refine Wlk.of (fun _ k => st22 _ k) ?_
  have K24 : Keep h0 T22.heap [] := K21.trans K22q (allS (Or.inr sz_b_14) all0)
  show Wlk p.tables e below (T22.setTop (mkF m 65 #[iv kx, iv (5 : Int32), rv fF, rv lg1, rv lg2, rv lg0, rv lg1, rv lg2, rv b_14, un, un] [])) K
  refine Wlk.of (fun _ k => XS.aload X22.here hx rfl (hb hby at_65) rfl rfl k) ?_
  show Wlk p.tables e below (T22.setTop (mkF m 67 #[iv kx, iv (5 : Int32), rv fF, rv lg1, rv lg2, rv lg0, rv lg1, rv lg2, rv b_14, un, un] [(.ref b_14)])) K
  refine Wlk.of (fun _ k => XS.aload X22.here hx rfl (hb hby at_67) rfl rfl k) ?_
  show Wlk p.tables e below (T22.setTop (mkF m 69 #[iv kx, iv (5 : Int32), rv fF, rv lg1, rv lg2, rv lg0, rv lg1, rv lg2, rv b_14, un, un] [(.ref lg2), (.ref b_14)])) K
  refine Wlk.of (fun _ k => XS.aload X22.here hx rfl (hb hby at_69) rfl rfl k) ?_
  show Wlk p.tables e below (T22.setTop (mkF m 71 #[iv kx, iv (5 : Int32), rv fF, rv lg1, rv lg2, rv lg0, rv lg1, rv lg2, rv b_14, un, un] [(.ref lg1), (.ref lg2), (.ref b_14)])) K
  have f25 : Exa Z T22.heap b_14 "com/example/gapweave/gapweave/AggregateFunction$First" := (p14_1.keep K22q)
  obtain ⟨v26, T26, L26, X26, q26, st26⟩ := Ctr.iface (xi := (⟨"com/example/gapweave/gapweave/AggregateFunction$Accumulator", "add", "(Ljava/lang/Object;Ljava/lang/Object;)V"⟩ : MethodName)) (c_fa1 l Z a0 hw b_14 lg2 lg1 lg1 T22.heap n0 (Nat.le_trans Z0 K24.1) p22_0) X22 hx hH rfl hown (wd hw 49 rfl) (wd hw 50 rfl) (wd hw 51 rfl) (wd hw 196 rfl) (wd hw 197 rfl) (wd hw 198 rfl) (wd hw 199 rfl) (wd hw 200 rfl) (wd hw 191 rfl) (wd hw 201 rfl) (by decide) f25 pd_401 (g := (mkF m 71 #[iv kx, iv (5 : Int32), rv fF, rv lg1, rv lg2, rv lg0, rv lg1, rv lg2, rv b_14, un, un] [(.ref lg1), (.ref lg2), (.ref b_14)])) rfl (by rw [hml]; rfl) (argsL := [(.ref lg2), (.ref lg1)]) (rest := []) rfl rfl rfl (W := 0) (by show 2 * 0 + _ ≤ _; exact Nat.le_of_eq rfl) (by decide) (by decide) (hb hby at_71) (by decide) (by decide)
  obtain ⟨rfl, N26q, hh26⟩ := q26
  have N27 := Fr.app N23 N26q
  refine Wlk.of (fun _ k => st26 _ k) ?_
  show Wlk p.tables e below (T26.setTop (mkF m 76 #[iv kx, iv (5 : Int32), rv fF, rv lg1, rv lg2, rv lg0, rv lg1, rv lg2, rv b_14, un, un] [])) K
  refine Wlk.of (fun _ k => XS.aloadN X26.here hx rfl (hb hby at_76) rfl rfl k) ?_
  show Wlk p.tables e below (T26.setTop (mkF m 77 #[iv kx, iv (5 : Int32), rv fF, rv lg1, rv lg2, rv lg0, rv lg1, rv lg2, rv b_14, un, un] [(.ref fF)])) K
  have f28 : Sta Z T22.heap "com/example/gapweave/gapweave/ColumnType" "INT64" "Lcom/example/gapweave/gapweave/ColumnType;" (.ref i64) := (own_staKeep (own_staKeep S_INT64 K14q own_all0) K22q (own_allS (NSt.of p14_1) own_all0))
  obtain ⟨T29, X29, e29, st29⟩ := getS2 X26 hx hZ hown (host := "") (Or.inl (wd hw 17 rfl)) Via.refl hh26 f28 (g := (mkF m 77 #[iv kx, iv (5 : Int32), rv fF, rv lg1, rv lg2, rv lg0, rv lg1, rv lg2, rv b_14, un, un] [(.ref fF)])) rfl (hb hby at_77)
  refine Wlk.of (fun _ k => st29 _ k) ?_
  show Wlk p.tables e below (T29.setTop (mkF m 80 #[iv kx, iv (5 : Int32), rv fF, rv lg1, rv lg2, rv lg0, rv lg1, rv lg2, rv b_14, un, un] [(.ref i64), (.ref fF)])) K
  have f30 : Exa Z T22.heap fF "com/example/gapweave/gapweave/AggregateFunction" := ((E_fF.keep K14q).keep K22q)
  have f31 : Fld Z T22.heap fF "java/lang/Enum" "ordinal" "I" (.int (5 : Int32)) := ((F_fF_ordinal.keep K14q nin0).keep K22q (ninS ne17 nin0))
  obtain ⟨v32, T32, L32, X32, q32, st32⟩ := Ctr.virtual (y := (⟨"com/example/gapweave/gapweave/AggregateFunction", "start", "(Lcom/example/gapweave/gapweave/ColumnType;)Lcom/example/gapweave/gapweave/AggregateFunction$Accumulator;"⟩ : MethodName)) (c_start5 l Z a0 hw fF i64 T22.heap n0 (Nat.le_trans Z0 K24.1) f30 f31) X29 hx hH e29 hown (wd hw 20 rfl) (wd hw 21 rfl) (notFace_of_selects (args := #[]) (mvT hZ (wd hw 23 rfl))) (wd hw 23 rfl) (wd hw 22 rfl) (wd hw 6 rfl) (wd hw 24 rfl) (by decide) f30 pd_400 (g := (mkF m 80 #[iv kx, iv (5 : Int32), rv fF, rv lg1, rv lg2, rv lg0, rv lg1, rv lg2, rv b_14, un, un] [(.ref i64), (.ref fF)])) rfl (by rw [hml]; rfl) (argsL := [(.ref i64)]) (rest := []) rfl rfl rfl (W := 0) (by show 2 * 0 + _ ≤ _; exact Nat.le_of_eq rfl) (by decide) (by decide) (hb hby at_80) (by decide) (by decide)
  obtain ⟨b_32, rfl, N32q, K32q, p32_0, p32_1, p32_2⟩ := q32
  have N33 := Fr.app N27 N32q
  refine Wlk.of (fun _ k => st32 _ k) ?_
  have ne34 : b_14 ≠ b_32 := Nat.ne_of_lt (Nat.lt_of_lt_of_le f25.lt p32_0)
  have f36 : Arl Z T22.heap ca (.object "java/lang/Long") vsC := ((A_ca.keep K14q nin0).keep K22q (ninS ne16 nin0))
  have ne35 : ca ≠ b_32 := Nat.ne_of_lt (Nat.lt_of_lt_of_le f36.lt p32_0)
  have ne37 : fF ≠ b_32 := Nat.ne_of_lt (Nat.lt_of_lt_of_le f30.lt p32_0)
  have f39 : Exa Z T22.heap lg0 "java/lang/Long" := ((E_lg0.keep K14q).keep K22q)
  have ne38 : lg0 ≠ b_32 := Nat.ne_of_lt (Nat.lt_of_lt_of_le f39.lt p32_0)
  have f41 : Exa Z T22.heap lg1 "java/lang/Long" := ((E_lg1.keep K14q).keep K22q)
  have ne40 : lg1 ≠ b_32 := Nat.ne_of_lt (Nat.lt_of_lt_of_le f41.lt p32_0)
  have f43 : Exa Z T22.heap lg2 "java/lang/Long" := ((E_lg2.keep K14q).keep K22q)
  have ne42 : lg2 ≠ b_32 := Nat.ne_of_lt (Nat.lt_of_lt_of_le f43.lt p32_0)
  have sz_b_32 : h0.size ≤ b_32 := Nat.le_trans K24.1 p32_0
  have g_b_32 : n0 ≤ b_32 := Nat.le_trans Z0 sz_b_32
  have K44 : Keep h0 T32.heap [] := K24.trans K32q all0
  show Wlk p.tables e below (T32.setTop (mkF m 83 #[iv kx, iv (5 : Int32), rv fF, rv lg1, rv lg2, rv lg0, rv lg1, rv lg2, rv b_14, un, un] [(.ref b_32)])) K
  refine Wlk.of (fun _ k => XS.astore X32.here hx rfl (hb hby at_83) rfl rfl (l' := #[iv kx, iv (5 : Int32), rv fF, rv lg1, rv lg2, rv lg0, rv lg1, rv lg2, rv b_14, rv b_32, un]) rfl k) ?_
  show Wlk p.tables e below (T32.setTop (mkF m 85 #[iv kx, iv (5 : Int32), rv fF, rv lg1, rv lg2, rv lg0, rv lg1, rv lg2, rv b_14, rv b_32, un] [])) K
  refine Wlk.of (fun _ k => XS.aload X32.here hx rfl (hb hby at_85) rfl rfl k) ?_
  show Wlk p.tables e below (T32.setTop (mkF m 87 #[iv kx, iv (5 : Int32), rv fF, rv lg1, rv lg2, rv lg0, rv lg1, rv lg2, rv b_14, rv b_32, un] [(.ref b_32)])) K
  refine Wlk.of (fun _ k => XS.aloadN X32.here hx rfl (hb hby at_87) rfl rfl k) ?_
  show Wlk p.tables e below (T32.setTop (mkF m 88 #[iv kx, iv (5 : Int32), rv fF, rv lg1, rv lg2, rv lg0, rv lg1, rv lg2, rv b_14, rv b_32, un] [(.ref lg1), (.ref b_32)])) K
  refine Wlk.of (fun _ k => XS.aload X32.here hx rfl (hb hby at_88) rfl rfl k) ?_
  show Wlk p.tables e below (T32.setTop (mkF m 90 #[iv kx, iv (5 : Int32), rv fF, rv lg1, rv lg2, rv lg0, rv lg1, rv lg2, rv b_14, rv b_32, un] [(.ref lg2), (.ref lg1), (.ref b_32)])) K
  obtain ⟨v45, T45, L45, X45, q45, st45⟩ := Ctr.iface (xi := (⟨"com/example/gapweave/gapweave/AggregateFunction$Accumulator", "add", "(Ljava/lang/Object;Ljava/lang/Object;)V"⟩ : MethodName)) (c_fa0 l Z a0 hw b_32 lg1 lg2 T32.heap n0 (Nat.le_trans Z0 K44.1) p32_1 p32_2 g_b_32) X32 hx hH rfl hown (wd hw 49 rfl) (wd hw 50 rfl) (wd hw 51 rfl) (wd hw 196 rfl) (wd hw 197 rfl) (wd hw 198 rfl) (wd hw 199 rfl) (wd hw 200 rfl) (wd hw 191 rfl) (wd hw 201 rfl) (by decide) p32_1 pd_401 (g := (mkF m 90 #[iv kx, iv (5 : Int32), rv fF, rv lg1, rv lg2, rv lg0, rv lg1, rv lg2, rv b_14, rv b_32, un] [(.ref lg2), (.ref lg1), (.ref b_32)])) rfl (by rw [hml]; rfl) (argsL := [(.ref lg1), (.ref lg2)]) (rest := []) rfl rfl rfl (W := 0) (by show 2 * 0 + _ ≤ _; exact Nat.le_of_eq rfl) (by decide) (by decide) (hb hby at_90) (by decide) (by decide)
  obtain ⟨rfl, N45q, K45q, p45_0⟩ := q45
  have N46 := Fr.app N33 N45q
  refine Wlk.of (fun _ k => st45 _ k) ?_
  have K47 : Keep h0 T45.heap [] := K44.trans K45q (allS (Or.inr sz_b_32) all0)
  show Wlk p.tables e below (T45.setTop (mkF m 95 #[iv kx, iv (5 : Int32), rv fF, rv lg1, rv lg2, rv lg0, rv lg1, rv lg2, rv b_14, rv b_32, un] [])) K
  refine Wlk.of (fun _ k => XS.aload X45.here hx rfl (hb hby at_95) rfl rfl k) ?_
  show Wlk p.tables e below (T45.setTop (mkF m 97 #[iv kx, iv (5 : Int32), rv fF, rv lg1, rv lg2, rv lg0, rv lg1, rv lg2, rv b_14, rv b_32, un] [(.ref b_32)])) K
  refine Wlk.of (fun _ k => XS.aload X45.here hx rfl (hb hby at_97) rfl rfl k) ?_
  show Wlk p.tables e below (T45.setTop (mkF m 99 #[iv kx, iv (5 : Int32), rv fF, rv lg1, rv lg2, rv lg0, rv lg1, rv lg2, rv b_14, rv b_32, un] [(.ref lg2), (.ref b_32)])) K
  refine Wlk.of (fun _ k => XS.aload X45.here hx rfl (hb hby at_99) rfl rfl k) ?_
  show Wlk p.tables e below (T45.setTop (mkF m 101 #[iv kx, iv (5 : Int32), rv fF, rv lg1, rv lg2, rv lg0, rv lg1, rv lg2, rv b_14, rv b_32, un] [(.ref lg1), (.ref lg2), (.ref b_32)])) K
  have f48 : Exa Z T45.heap b_32 "com/example/gapweave/gapweave/AggregateFunction$First" := (p32_1.keep K45q)
  obtain ⟨v49, T49, L49, X49, q49, st49⟩ := Ctr.iface (xi := (⟨"com/example/gapweave/gapweave/AggregateFunction$Accumulator", "add", "(Ljava/lang/Object;Ljava/lang/Object;)V"⟩ : MethodName)) (c_fa1 l Z a0 hw b_32 lg2 lg1 lg1 T45.heap n0 (Nat.le_trans Z0 K47.1) p45_0) X45 hx hH rfl hown (wd hw 49 rfl) (wd hw 50 rfl) (wd hw 51 rfl) (wd hw 196 rfl) (wd hw 197 rfl) (wd hw 198 rfl) (wd hw 199 rfl) (wd hw 200 rfl) (wd hw 191 rfl) (wd hw 201 rfl) (by decide) f48 pd_401 (g := (mkF m 101 #[iv kx, iv (5 : Int32), rv fF, rv lg1, rv lg2, rv lg0, rv lg1, rv lg2, rv b_14, rv b_32, un] [(.ref lg1), (.ref lg2), (.ref b_32)])) rfl (by rw [hml]; rfl) (argsL := [(.ref lg2), (.ref lg1)]) (rest := []) rfl rfl rfl (W := 0) (by show 2 * 0 + _ ≤ _; exact Nat.le_of_eq rfl) (by decide) (by decide) (hb hby at_101) (by decide) (by decide)
  obtain ⟨rfl, N49q, hh49⟩ := q49
  have N50 := Fr.app N46 N49q
  refine Wlk.of (fun _ k => st49 _ k) ?_
  show Wlk p.tables e below (T49.setTop (mkF m 106 #[iv kx, iv (5 : Int32), rv fF, rv lg1, rv lg2, rv lg0, rv lg1, rv lg2, rv b_14, rv b_32, un] [])) K
  refine Wlk.of (fun _ k => XS.aload X49.here hx rfl (hb hby at_106) rfl rfl k) ?_
  show Wlk p.tables e below (T49.setTop (mkF m 108 #[iv kx, iv (5 : Int32), rv fF, rv lg1, rv lg2, rv lg0, rv lg1, rv lg2, rv b_14, rv b_32, un] [(.ref b_14)])) K
  have f51 : Fld Z T45.heap b_14 "com/example/gapweave/gapweave/AggregateFunction$First" "first" "Ljava/lang/Object;" (.ref lg1) := ((p22_0.keep K32q nin0).keep K45q (ninS ne34 nin0))
  have f52 : Exa Z T45.heap b_14 "com/example/gapweave/gapweave/AggregateFunction$First" := ((f25.keep K32q).keep K45q)
  obtain ⟨v53, T53, L53, X53, q53, st53⟩ := Ctr.iface (xi := (⟨"com/example/gapweave/gapweave/AggregateFunction$Accumulator", "result", "()Ljava/lang/Object;"⟩ : MethodName)) (c_fr l Z a0 hw b_14 lg1 T45.heap n0 (Nat.le_trans Z0 K47.1) f51) X49 hx hH hh49 hown (wd hw 77 rfl) (wd hw 78 rfl) (wd hw 79 rfl) (wd hw 204 rfl) (wd hw 205 rfl) (wd hw 206 rfl) (wd hw 207 rfl) (wd hw 200 rfl) (wd hw 191 rfl) (wd hw 208 rfl) (by decide) f52 pd_402 (g := (mkF m 108 #[iv kx, iv (5 : Int32), rv fF, rv lg1, rv lg2, rv lg0, rv lg1, rv lg2, rv b_14, rv b_32, un] [(.ref b_14)])) rfl (by rw [hml]; rfl) (argsL := []) (rest := []) rfl rfl rfl (W := 0) (by show 2 * 0 + _ ≤ _; exact Nat.le_of_eq rfl) (by decide) (by decide) (hb hby at_108) (by decide) (by decide)
  obtain ⟨rfl, N53q, hh53⟩ := q53
  have N54 := Fr.app N50 N53q
  refine Wlk.of (fun _ k => st53 _ k) ?_
  show Wlk p.tables e below (T53.setTop (mkF m 113 #[iv kx, iv (5 : Int32), rv fF, rv lg1, rv lg2, rv lg0, rv lg1, rv lg2, rv b_14, rv b_32, un] [(.ref lg1)])) K
  refine Wlk.of (fun _ k => XS.aload X53.here hx rfl (hb hby at_113) rfl rfl k) ?_
  show Wlk p.tables e below (T53.setTop (mkF m 115 #[iv kx, iv (5 : Int32), rv fF, rv lg1, rv lg2, rv lg0, rv lg1, rv lg2, rv b_14, rv b_32, un] [(.ref b_32), (.ref lg1)])) K
  obtain ⟨v55, T55, L55, X55, q55, st55⟩ := Ctr.iface (xi := (⟨"com/example/gapweave/gapweave/AggregateFunction$Accumulator", "result", "()Ljava/lang/Object;"⟩ : MethodName)) (c_fr l Z a0 hw b_32 lg1 T45.heap n0 (Nat.le_trans Z0 K47.1) p45_0) X53 hx hH hh53 hown (wd hw 77 rfl) (wd hw 78 rfl) (wd hw 79 rfl) (wd hw 204 rfl) (wd hw 205 rfl) (wd hw 206 rfl) (wd hw 207 rfl) (wd hw 200 rfl) (wd hw 191 rfl) (wd hw 208 rfl) (by decide) f48 pd_402 (g := (mkF m 115 #[iv kx, iv (5 : Int32), rv fF, rv lg1, rv lg2, rv lg0, rv lg1, rv lg2, rv b_14, rv b_32, un] [(.ref b_32), (.ref lg1)])) rfl (by rw [hml]; rfl) (argsL := []) (rest := [(.ref lg1)]) rfl rfl rfl (W := 1) (by show 2 * 0 + _ ≤ _; exact Nat.le_of_eq rfl) (by decide) (by decide) (hb hby at_115) (by decide) (by decide)
  obtain ⟨rfl, N55q, hh55⟩ := q55
  have N56 := Fr.app N54 N55q
  refine Wlk.of (fun _ k => st55 _ k) ?_
  show Wlk p.tables e below (T55.setTop (mkF m 120 #[iv kx, iv (5 : Int32), rv fF, rv lg1, rv lg2, rv lg0, rv lg1, rv lg2, rv b_14, rv b_32, un] [(.ref lg1), (.ref lg1)])) K
  obtain ⟨v57, T57, L57, X57, q57, st57⟩ := Ctr.static (c_seq l Z a0 hw lg1 T45.heap n0 (Nat.le_trans Z0 K47.1) ) X55 hx hH hh55 hown (wd hw 108 rfl) (wd hw 109 rfl) (wd hw 3 rfl) (wd hw 110 rfl) (by decide) pd_403 (g := (mkF m 120 #[iv kx, iv (5 : Int32), rv fF, rv lg1, rv lg2, rv lg0, rv lg1, rv lg2, rv b_14, rv b_32, un] [(.ref lg1), (.ref lg1)])) rfl (by rw [hml]; rfl) (argsL := [(.ref lg1), (.ref lg1)]) (rest := []) rfl rfl rfl (W := 0) (by show 2 * 0 + _ ≤ _; exact Nat.le_of_eq rfl) (by decide) (by decide) (hb hby at_120) (by decide) (by decide)
  obtain ⟨rfl, N57q, hh57⟩ := q57
  have N58 := Fr.app N56 N57q
  refine Wlk.of (fun _ k => st57 _ k) ?_
  show Wlk p.tables e below (T57.setTop (mkF m 123 #[iv kx, iv (5 : Int32), rv fF, rv lg1, rv lg2, rv lg0, rv lg1, rv lg2, rv b_14, rv b_32, un] [(.int (1 : Int32))])) K
  refine Wlk.of (fun _ k => XS.ifYes X57.here hx rfl (pc0 := 123) (pc' := 130) rfl (hb hby at_123) rfl ((if0 _ _).trans (feq (by decide : ¬ ((1 : Int32) = (0 : Int32)))).2) (by decide) (by decide) k) ?_
  show Wlk p.tables e below (T57.setTop (mkF m 130 #[iv kx, iv (5 : Int32), rv fF, rv lg1, rv lg2, rv lg0, rv lg1, rv lg2, rv b_14, rv b_32, un] [])) K
  refine Wlk.of (fun _ k => XS.iconst X57.here hx rfl (hb hby at_130) k) ?_
  show Wlk p.tables e below (T57.setTop (mkF m 131 #[iv kx, iv (5 : Int32), rv fF, rv lg1, rv lg2, rv lg0, rv lg1, rv lg2, rv b_14, rv b_32, un] [(.int (0 : Int32))])) K
  refine Wlk.of (fun _ k => XS.istore X57.here hx rfl (hb hby at_131) rfl (l' := #[iv kx, iv (5 : Int32), rv fF, rv lg1, rv lg2, rv lg0, rv lg1, rv lg2, rv b_14, rv b_32, iv (0 : Int32)]) rfl k) ?_
  show Wlk p.tables e below (T57.setTop (mkF m 133 #[iv kx, iv (5 : Int32), rv fF, rv lg1, rv lg2, rv lg0, rv lg1, rv lg2, rv b_14, rv b_32, iv (0 : Int32)] [])) K
  refine Wlk.of (fun _ k => XS.aloadN X57.here hx rfl (hb hby at_133) rfl rfl k) ?_
  show Wlk p.tables e below (T57.setTop (mkF m 134 #[iv kx, iv (5 : Int32), rv fF, rv lg1, rv lg2, rv lg0, rv lg1, rv lg2, rv b_14, rv b_32, iv (0 : Int32)] [(.ref fF)])) K
  have f59 : Sta Z T45.heap "com/example/gapweave/gapweave/AggregateFunction" "AVG" "Lcom/example/gapweave/gapweave/AggregateFunction;" (.ref fA) := (own_staKeep (own_staKeep (own_staKeep (own_staKeep S_AVG K14q own_all0) K22q (own_allS (NSt.of p14_1) own_all0)) K32q own_all0) K45q (own_allS (NSt.of p32_1) own_all0))
  have f60 : Sta Z T45.heap "com/example/gapweave/gapweave/AggregateFunction" "SUM" "Lcom/example/gapweave/gapweave/AggregateFunction;" (.ref fS) := (own_staKeep (own_staKeep (own_staKeep (own_staKeep S_SUM K14q own_all0) K22q (own_allS (NSt.of p14_1) own_all0)) K32q own_all0) K45q (own_allS (NSt.of p32_1) own_all0))
  have f61 : Sta Z T45.heap "com/example/gapweave/gapweave/AggregateFunction" "MIN" "Lcom/example/gapweave/gapweave/AggregateFunction;" (.ref fM) := (own_staKeep (own_staKeep (own_staKeep (own_staKeep S_MIN K14q own_all0) K22q (own_allS (NSt.of p14_1) own_all0)) K32q own_all0) K45q (own_allS (NSt.of p32_1) own_all0))
  have f62 : Sta Z T45.heap "com/example/gapweave/gapweave/AggregateFunction" "MAX" "Lcom/example/gapweave/gapweave/AggregateFunction;" (.ref fX) := (own_staKeep (own_staKeep (own_staKeep (own_staKeep S_MAX K14q own_all0) K22q (own_allS (NSt.of p14_1) own_all0)) K32q own_all0) K45q (own_allS (NSt.of p32_1) own_all0))
  have f63 : Exa Z T45.heap fF "com/example/gapweave/gapweave/AggregateFunction" := ((f30.keep K32q).keep K45q)
  obtain ⟨v64, T64, L64, X64, q64, st64⟩ := Ctr.virtual (y := (⟨"com/example/gapweave/gapweave/AggregateFunction", "readsValues", "()Z"⟩ : MethodName)) (c_rv5 l Z a0 hw fF fA fS fM fX T45.heap n0 (Nat.le_trans Z0 K47.1) f59 f60 f61 f62 ne_fF_fA ne_fF_fS ne_fF_fM ne_fF_fX) X57 hx hH hh57 hown (wd hw 121 rfl) (wd hw 122 rfl) (notFace_of_selects (args := #[]) (mvT hZ (wd hw 124 rfl))) (wd hw 124 rfl) (wd hw 123 rfl) (wd hw 6 rfl) (wd hw 125 rfl) (by decide) f63 pd_404 (g := (mkF m 134 #[iv kx, iv (5 : Int32), rv fF, rv lg1, rv lg2, rv lg0, rv lg1, rv lg2, rv b_14, rv b_32, iv (0 : Int32)] [(.ref fF)])) rfl (by rw [hml]; rfl) (argsL := []) (rest := []) rfl rfl rfl (W := 0) (by show 2 * 0 + _ ≤ _; exact Nat.le_of_eq rfl) (by decide) (by decide) (hb hby at_134) (by decide) (by decide)
  obtain ⟨rfl, N64q, hh64⟩ := q64
  have N65 := Fr.app N58 N64q
  refine Wlk.of (fun _ k => st64 _ k) ?_
  show Wlk p.tables e below (T64.setTop (mkF m 137 #[iv kx, iv (5 : Int32), rv fF, rv lg1, rv lg2, rv lg0, rv lg1, rv lg2, rv b_14, rv b_32, iv (0 : Int32)] [(.int (0 : Int32))])) K
  refine Wlk.of (fun _ k => XS.iload X64.here hx rfl (hb hby at_137) rfl k) ?_
  show Wlk p.tables e below (T64.setTop (mkF m 139 #[iv kx, iv (5 : Int32), rv fF, rv lg1, rv lg2, rv lg0, rv lg1, rv lg2, rv b_14, rv b_32, iv (0 : Int32)] [(.int (0 : Int32)), (.int (0 : Int32))])) K
  refine Wlk.of (fun _ k => XS.icmpNo X64.here hx rfl (hb hby at_139) rfl (teq (by decide : (0 : Int32) = (0 : Int32))).2 k) ?_
  show Wlk p.tables e below (T64.setTop (mkF m 142 #[iv kx, iv (5 : Int32), rv fF, rv lg1, rv lg2, rv lg0, rv lg1, rv lg2, rv b_14, rv b_32, iv (0 : Int32)] [])) K
  refine Wlk.of (fun _ k => XS.iconst X64.here hx rfl (hb hby at_142) k) ?_
  show Wlk p.tables e below (T64.setTop (mkF m 143 #[iv kx, iv (5 : Int32), rv fF, rv lg1, rv lg2, rv lg0, rv lg1, rv lg2, rv b_14, rv b_32, iv (0 : Int32)] [(.int (1 : Int32))])) K
  refine Wlk.of (fun _ k => XS.goto X64.here hx rfl (pc0 := 143) (pc' := 147) rfl (hb hby at_143) (by decide) (by decide) k) ?_
  show Wlk p.tables e below (T64.setTop (mkF m 147 #[iv kx, iv (5 : Int32), rv fF, rv lg1, rv lg2, rv lg0, rv lg1, rv lg2, rv b_14, rv b_32, iv (0 : Int32)] [(.int (1 : Int32))])) K
  refine hK (some (.int (1 : Int32))) X64 (fun q => by cases q) (fun fs hr => retN X64 hx (t := .boolean) hret (by simp) (hb hby at_147) hr) ?_ (by decide) (by decide)
  rw [show T64.heap = T45.heap from hh64]
  exact ⟨rfl, N65, K47⟩
theorem ef_c_law6 (m : MethodId) (kx : Int32) : entryFrame m #[(.int kx)] maxLocals = mkF m 0 #[iv kx, un, un, un, un, un, un, un, un, un, un] [] := by first | (simp [entryFrame, mkF, argsToLocals, Value.category, maxLocals]; done) | rfl
def Q_c_law6 (Z : State) (kx : Int32) (fL : Addr) (fA : Addr) (fS : Addr) (fM : Addr) (fX : Addr) (i64 : Addr) (ca : Addr) (vsC : (List Value)) (lg0 : Addr) (lg1 : Addr) (lg2 : Addr) (h0 : Heap) (n0 : Nat) (v : Option Value) (h : Heap) (L : List Loc) : Prop := v = (some (.int (1 : Int32))) ∧ Fr n0 L ∧ Keep h0 h []
set_option maxRecDepth 65536 in
set_option maxHeartbeats 40000000 in
theorem c_law6 (l : Launch) (Z : State) (a0 : Array Value) (hw : ∀ d ∈ tables_1, d.before a0 Z = true) (ws : List Jvm.Cond) (kx : Int32) (fL : Addr) (fA : Addr) (fS : Addr) (fM : Addr) (fX : Addr) (i64 : Addr) (ca : Addr) (vsC : (List Value)) (lg0 : Addr) (lg1 : Addr) (lg2 : Addr) (h0 : Heap) (n0 : Nat) (Z0 : n0 ≤ h0.size) (hi : (kx &&& (2147483647 : Int32)) % (7 : Int32) = (6 : Int32)) (S_AVG : Sta Z h0 "com/example/gapweave/gapweave/AggregateFunction" "AVG" "Lcom/example/gapweave/gapweave/AggregateFunction;" (.ref fA)) (S_SUM : Sta Z h0 "com/example/gapweave/gapweave/AggregateFunction" "SUM" "Lcom/example/gapweave/gapweave/AggregateFunction;" (.ref fS)) (S_MIN : Sta Z h0 "com/example/gapweave/gapweave/AggregateFunction" "MIN" "Lcom/example/gapweave/gapweave/AggregateFunction;" (.ref fM)) (S_MAX : Sta Z h0 "com/example/gapweave/gapweave/AggregateFunction" "MAX" "Lcom/example/gapweave/gapweave/AggregateFunction;" (.ref fX)) (S_LAST_VALUE : Sta Z h0 "com/example/gapweave/gapweave/AggregateFunction" "LAST_VALUE" "Lcom/example/gapweave/gapweave/AggregateFunction;" (.ref fL)) (E_fL : Exa Z h0 fL "com/example/gapweave/gapweave/AggregateFunction") (F_fL_ordinal : Fld Z h0 fL "java/lang/Enum" "ordinal" "I" (.int (6 : Int32))) (ne_fL_fA : fL ≠ fA) (ne_fL_fS : fL ≠ fS) (ne_fL_fM : fL ≠ fM) (ne_fL_fX : fL ≠ fX) (S_INT64 : Sta Z h0 "com/example/gapweave/gapweave/ColumnType" "INT64" "Lcom/example/gapweave/gapweave/ColumnType;" (.ref i64)) (S_cache : Sta Z h0 "java/lang/Long$LongCache" "cache" "[Ljava/lang/Long;" (.ref ca)) (A_ca : Arl Z h0 ca (.object "java/lang/Long") vsC) (hC0 : vsC[128]? = some (.ref lg0)) (hC1 : vsC[129]? = some (.ref lg1)) (hC2 : vsC[130]? = some (.ref lg2)) (E_lg0 : Exa Z h0 lg0 "java/lang/Long") (F_lg0_value : Fld Z h0 lg0 "java/lang/Long" "value" "J" (.long (0 : Int64))) (E_lg1 : Exa Z h0 lg1 "java/lang/Long") (F_lg1_value : Fld Z h0 lg1 "java/lang/Long" "value" "J" (.long (1 : Int64))) (E_lg2 : Exa Z h0 lg2 "java/lang/Long") (F_lg2_value : Fld Z h0 lg2 "java/lang/Long" "value" "J" (.long (2 : Int64))) :
    Ctr l Z h0 x code maxLocals ret ws room_1 #[(.int kx)] (Q_c_law6 Z kx fL fA fS fM fX i64 ca vsC lg0 lg1 lg2 h0 n0) := by
  refine Ctr.make (plainFor_of_name pn_250) fun p e s m below meth c s₁ K hret hml hx hby hown hnm hnamed hH hZ X0 e0 hK => ?_
  have hown : s.vm.findClass "com/example/gapweave/gapweave/AggregateFunctionReadsValuesPinLaw" = some m.cls := hown
  have hml : c.maxLocals = 11 := hml
  have N0 := Fr.nil n0
  have K0 : Keep h0 h0 [] := Keep.refl _ _
  refine Wlk.of (fun _ k => castTop (ef_c_law6 m kx) k) ?_
  show Wlk p.tables e below (s₁.setTop (mkF m 0 #[iv kx, un, un, un, un, un, un, un, un, un, un] [])) K
  refine Wlk.of (fun _ k => XS.iloadN X0.here hx rfl (hb hby at_0) rfl k) ?_
  show Wlk p.tables e below (s₁.setTop (mkF m 1 #[iv kx, un, un, un, un, un, un, un, un, un, un] [(.int kx)])) K
  refine Wlk.of (fun _ k => X0.ldcInt hx hown (mvT hZ (wd hw 0 rfl)) (g := (mkF m 1 #[iv kx, un, un, un, un, un, un, un, un, un, un] [(.int kx)])) rfl (hb hby at_1) _ k) ?_
  show Wlk p.tables e below (s₁.setTop (mkF m 3 #[iv kx, un, un, un, un, un, un, un, un, un, un] [(.int (2147483647 : Int32)), (.int kx)])) K
  refine Wlk.of (fun _ k => XS.iand X0.here hx rfl (hb hby at_3) rfl k) ?_
  show Wlk p.tables e below (s₁.setTop (mkF m 4 #[iv kx, un, un, un, un, un, un, un, un, un, un] [(.int (kx &&& (2147483647 : Int32)))])) K
  refine Wlk.of (fun _ k => XS.bipush X0.here hx rfl (hb hby at_4) k) ?_
  show Wlk p.tables e below (s₁.setTop (mkF m 6 #[iv kx, un, un, un, un, un, un, un, un, un, un] [(.int (7 : Int32)), (.int (kx &&& (2147483647 : Int32)))])) K
  refine Wlk.of (fun _ k => iremM X0 hx rfl (hb hby at_6) rfl (by decide) k) ?_
  show Wlk p.tables e below (s₁.setTop (mkF m 7 #[iv kx, un, un, un, un, un, un, un, un, un, un] [(.int ((kx &&& (2147483647 : Int32)) % (7 : Int32)))])) K
  rw [hi]
  refine Wlk.of (fun _ k => XS.istoreN X0.here hx rfl (hb hby at_7) rfl (l' := #[iv kx, iv (6 : Int32), un, un, un, un, un, un, un, un, un]) rfl k) ?_
  show Wlk p.tables e below (s₁.setTop (mkF m 8 #[iv kx, iv (6 : Int32), un, un, un, un, un, un, un, un, un] [])) K
  refine Wlk.of (fun _ k => XS.iloadN X0.here hx rfl (hb hby at_8) rfl k) ?_
  show Wlk p.tables e below (s₁.setTop (mkF m 9 #[iv kx, iv (6 : Int32), un, un, un, un, un, un, un, un, un] [(.int (6 : Int32))])) K
  obtain ⟨v1, T1, L1, X1, q1, st1⟩ := Ctr.static (c_pick6 l Z a0 hw fL h0 n0 (Nat.le_trans Z0 K0.1) S_LAST_VALUE) X0 hx hH e0 hown (wd hw 1 rfl) (wd hw 2 rfl) (wd hw 3 rfl) (wd hw 4 rfl) (by decide) pd_399 (g := (mkF m 9 #[iv kx, iv (6 : Int32), un, un, un, un, un, un, un, un, un] [(.int (6 : Int32))])) rfl (by rw [hml]; rfl) (argsL := [(.int (6 : Int32))]) (rest := []) rfl rfl rfl (W := 0) (by show 2 * 0 + _ ≤ _; exact Nat.le_of_eq rfl) (by decide) (by decide) (hb hby at_9) (by decide) (by decide)
  obtain ⟨rfl, N1q, hh1⟩ := q1
  have N2 := Fr.app N0 N1q
  refine Wlk.of (fun _ k => st1 _ k) ?_
  show Wlk p.tables e below (T1.setTop (mkF m 12 #[iv kx, iv (6 : Int32), un, un, un, un, un, un, un, un, un] [(.ref fL)])) K
  refine Wlk.of (fun _ k => XS.astoreN X1.here hx rfl (hb hby at_12) rfl rfl (l' := #[iv kx, iv (6 : Int32), rv fL, un, un, un, un, un, un, un, un]) rfl k) ?_
  show Wlk p.tables e below (T1.setTop (mkF m 13 #[iv kx, iv (6 : Int32), rv fL, un, un, un, un, un, un, un, un] [])) K
  refine Wlk.of (fun _ k => XS.lconst X1.here hx rfl (hb hby at_13) k) ?_
  show Wlk p.tables e below (T1.setTop (mkF m 14 #[iv kx, iv (6 : Int32), rv fL, un, un, un, un, un, un, un, un] [(.long (1 : Int64))])) K
  obtain ⟨v3, T3, L3, X3, q3, st3⟩ := Ctr.static (c_vo1 l Z a0 hw ca vsC lg1 h0 n0 (Nat.le_trans Z0 K0.1) S_cache A_ca hC1) X1 hx hH hh1 hown (wd hw 8 rfl) (wd hw 9 rfl) (wd hw 10 rfl) (wd hw 11 rfl) (by decide) pd_174 (g := (mkF m 14 #[iv kx, iv (6 : Int32), rv fL, un, un, un, un, un, un, un, un] [(.long (1 : Int64))])) rfl (by rw [hml]; rfl) (argsL := [(.long (1 : Int64))]) (rest := []) rfl rfl rfl (W := 0) (by show 2 * 0 + _ ≤ _; exact Nat.le_of_eq rfl) (by decide) (by decide) (hb hby at_14) (by decide) (by decide)
  obtain ⟨rfl, N3q, hh3⟩ := q3
  have N4 := Fr.app N2 N3q
  refine Wlk.of (fun _ k => st3 _ k) ?_
  show Wlk p.tables e below (T3.setTop (mkF m 17 #[iv kx, iv (6 : Int32), rv fL, un, un, un, un, un, un, un, un] [(.ref lg1)])) K
  refine Wlk.of (fun _ k => XS.astoreN X3.here hx rfl (hb hby at_17) rfl rfl (l' := #[iv kx, iv (6 : Int32), rv fL, rv lg1, un, un, un, un, un, un, un]) rfl k) ?_
  show Wlk p.tables e below (T3.setTop (mkF m 18 #[iv kx, iv (6 : Int32), rv fL, rv lg1, un, un, un, un, un, un, un] [])) K
  refine Wlk.of (fun _ k => X3.ldc2Long hx hown (mvT hZ (wd hw 16 rfl)) (g := (mkF m 18 #[iv kx, iv (6 : Int32), rv fL, rv lg1, un, un, un, un, un, un, un] [])) rfl (hb hby at_18) _ k) ?_
  show Wlk p.tables e below (T3.setTop (mkF m 21 #[iv kx, iv (6 : Int32), rv fL, rv lg1, un, un, un, un, un, un, un] [(.long (2 : Int64))])) K
  obtain ⟨v5, T5, L5, X5, q5, st5⟩ := Ctr.static (c_vo2 l Z a0 hw ca vsC lg2 h0 n0 (Nat.le_trans Z0 K0.1) S_cache A_ca hC2) X3 hx hH hh3 hown (wd hw 8 rfl) (wd hw 9 rfl) (wd hw 10 rfl) (wd hw 11 rfl) (by decide) pd_174 (g := (mkF m 21 #[iv kx, iv (6 : Int32), rv fL, rv lg1, un, un, un, un, un, un, un] [(.long (2 : Int64))])) rfl (by rw [hml]; rfl) (argsL := [(.long (2 : Int64))]) (rest := []) rfl rfl rfl (W := 0) (by show 2 * 0 + _ ≤ _; exact Nat.le_of_eq rfl) (by decide) (by decide) (hb hby at_21) (by decide) (by decide)
  obtain ⟨rfl, N5q, hh5⟩ := q5
  have N6 := Fr.app N4 N5q
  refine Wlk.of (fun _ k => st5 _ k) ?_
  show Wlk p.tables e below (T5.setTop (mkF m 24 #[iv kx, iv (6 : Int32), rv fL, rv lg1, un, un, un, un, un, un, un] [(.ref lg2)])) K
  refine Wlk.of (fun _ k => XS.astore X5.here hx rfl (hb hby at_24) rfl rfl (l' := #[iv kx, iv (6 : Int32), rv fL, rv lg1, rv lg2, un, un, un, un, un, un]) rfl k) ?_
  show Wlk p.tables e below (T5.setTop (mkF m 26 #[iv kx, iv (6 : Int32), rv fL, rv lg1, rv lg2, un, un, un, un, un, un] [])) K
  refine Wlk.of (fun _ k => XS.lconst X5.here hx rfl (hb hby at_26) k) ?_
  show Wlk p.tables e below (T5.setTop (mkF m 27 #[iv kx, iv (6 : Int32), rv fL, rv lg1, rv lg2, un, un, un, un, un, un] [(.long (0 : Int64))])) K
  obtain ⟨v7, T7, L7, X7, q7, st7⟩ := Ctr.static (c_vo0 l Z a0 hw ca vsC lg0 h0 n0 (Nat.le_trans Z0 K0.1) S_cache A_ca hC0) X5 hx hH hh5 hown (wd hw 8 rfl) (wd hw 9 rfl) (wd hw 10 rfl) (wd hw 11 rfl) (by decide) pd_174 (g := (mkF m 27 #[iv kx, iv (6 : Int32), rv fL, rv lg1, rv lg2, un, un, un, un, un, un] [(.long (0 : Int64))])) rfl (by rw [hml]; rfl) (argsL := [(.long (0 : Int64))]) (rest := []) rfl rfl rfl (W := 0) (by show 2 * 0 + _ ≤ _; exact Nat.le_of_eq rfl) (by decide) (by decide) (hb hby at_27) (by decide) (by decide)
  obtain ⟨rfl, N7q, hh7⟩ := q7
  have N8 := Fr.app N6 N7q
  refine Wlk.of (fun _ k => st7 _ k) ?_
  show Wlk p.tables e below (T7.setTop (mkF m 30 #[iv kx, iv (6 : Int32), rv fL, rv lg1, rv lg2, un, un, un, un, un, un] [(.ref lg0)])) K
  refine Wlk.of (fun _ k => XS.astore X7.here hx rfl (hb hby at_30) rfl rfl (l' := #[iv kx, iv (6 : Int32), rv fL, rv lg1, rv lg2, rv lg0, un, un, un, un, un]) rfl k) ?_
  show Wlk p.tables e below (T7.setTop (mkF m 32 #[iv kx, iv (6 : Int32), rv fL, rv lg1, rv lg2, rv lg0, un, un, un, un, un] [])) K
  refine Wlk.of (fun _ k => XS.lconst X7.here hx rfl (hb hby at_32) k) ?_
  show Wlk p.tables e below (T7.setTop (mkF m 33 #[iv kx, iv (6 : Int32), rv fL, rv lg1, rv lg2, rv lg0, un, un, un, un, un] [(.long (1 : Int64))])) K
  obtain ⟨v9, T9, L9, X9, q9, st9⟩ := Ctr.static (c_vo1 l Z a0 hw ca vsC lg1 h0 n0 (Nat.le_trans Z0 K0.1) S_cache A_ca hC1) X7 hx hH hh7 hown (wd hw 8 rfl) (wd hw 9 rfl) (wd hw 10 rfl) (wd hw 11 rfl) (by decide) pd_174 (g := (mkF m 33 #[iv kx, iv (6 : Int32), rv fL, rv lg1, rv lg2, rv lg0, un, un, un, un, un] [(.long (1 : Int64))])) rfl (by rw [hml]; rfl) (argsL := [(.long (1 : Int64))]) (rest := []) rfl rfl rfl (W := 0) (by show 2 * 0 + _ ≤ _; exact Nat.le_of_eq rfl) (by decide) (by decide) (hb hby at_33) (by decide) (by decide)
  obtain ⟨rfl, N9q, hh9⟩ := q9
  have N10 := Fr.app N8 N9q
  refine Wlk.of (fun _ k => st9 _ k) ?_
  show Wlk p.tables e below (T9.setTop (mkF m 36 #[iv kx, iv (6 : Int32), rv fL, rv lg1, rv lg2, rv lg0, un, un, un, un, un] [(.ref lg1)])) K
  refine Wlk.of (fun _ k => XS.astore X9.here hx rfl (hb hby at_36) rfl rfl (l' := #[iv kx, iv (6 : Int32), rv fL, rv lg1, rv lg2, rv lg0, rv lg1, un, un, un, un]) rfl k) ?_
  show Wlk p.tables e below (T9.setTop (mkF m 38 #[iv kx, iv (6 : Int32), rv fL, rv lg1, rv lg2, rv lg0, rv lg1, un, un, un, un] [])) K
  refine Wlk.of (fun _ k => X9.ldc2Long hx hown (mvT hZ (wd hw 16 rfl)) (g := (mkF m 38 #[iv kx, iv (6 : Int32), rv fL, rv lg1, rv lg2, rv lg0, rv lg1, un, un, un, un] [])) rfl (hb hby at_38) _ k) ?_
  show Wlk p.tables e below (T9.setTop (mkF m 41 #[iv kx, iv (6 : Int32), rv fL, rv lg1, rv lg2, rv lg0, rv lg1, un, un, un, un] [(.long (2 : Int64))])) K
  obtain ⟨v11, T11, L11, X11, q11, st11⟩ := Ctr.static (c_vo2 l Z a0 hw ca vsC lg2 h0 n0 (Nat.le_trans Z0 K0.1) S_cache A_ca hC2) X9 hx hH hh9 hown (wd hw 8 rfl) (wd hw 9 rfl) (wd hw 10 rfl) (wd hw 11 rfl) (by decide) pd_174 (g := (mkF m 41 #[iv kx, iv (6 : Int32), rv fL, rv lg1, rv lg2, rv lg0, rv lg1, un, un, un, un] [(.long (2 : Int64))])) rfl (by rw [hml]; rfl) (argsL := [(.long (2 : Int64))]) (rest := []) rfl rfl rfl (W := 0) (by show 2 * 0 + _ ≤ _; exact Nat.le_of_eq rfl) (by decide) (by decide) (hb hby at_41) (by decide) (by decide)
  obtain ⟨rfl, N11q, hh11⟩ := q11
  have N12 := Fr.app N10 N11q
  refine Wlk.of (fun _ k => st11 _ k) ?_
  show Wlk p.tables e below (T11.setTop (mkF m 44 #[iv kx, iv (6 : Int32), rv fL, rv lg1, rv lg2, rv lg0, rv lg1, un, un, un, un] [(.ref lg2)])) K
  refine Wlk.of (fun _ k => XS.astore X11.here hx rfl (hb hby at_44) rfl rfl (l' := #[iv kx, iv (6 : Int32), rv fL, rv lg1, rv lg2, rv lg0, rv lg1, rv lg2, un, un, un]) rfl k) ?_
  show Wlk p.tables e below (T11.setTop (mkF m 46 #[iv kx, iv (6 : Int32), rv fL, rv lg1, rv lg2, rv lg0, rv lg1, rv lg2, un, un, un] [])) K
  refine Wlk.of (fun _ k => XS.aloadN X11.here hx rfl (hb hby at_46) rfl rfl k) ?_
  show Wlk p.tables e below (T11.setTop (mkF m 47 #[iv kx, iv (6 : Int32), rv fL, rv lg1, rv lg2, rv lg0, rv lg1, rv lg2, un, un, un] [(.ref fL)])) K
  obtain ⟨T13, X13, e13, st13⟩ := getS2 X11 hx hZ hown (host := "") (Or.inl (wd hw 17 rfl)) Via.refl hh11 S_INT64 (g := (mkF m 47 #[iv kx, iv (6 : Int32), rv fL, rv lg1, rv lg2, rv lg0, rv lg1, rv lg2, un, un, un] [(.ref fL)])) rfl (hb hby at_47)
  refine Wlk.of (fun _ k => st13 _ k) ?_
  show Wlk p.tables e below (T13.setTop (mkF m 50 #[iv kx, iv (6 : Int32), rv fL, rv lg1, rv lg2, rv lg0, rv lg1, rv lg2, un, un, un] [(.ref i64), (.ref fL)])) K
  obtain ⟨v14, T14, L14, X14, q14, st14⟩ := Ctr.virtual (y := (⟨"com/example/gapweave/gapweave/AggregateFunction", "start", "(Lcom/example/gapweave/gapweave/ColumnType;)Lcom/example/gapweave/gapweave/AggregateFunction$Accumulator;"⟩ : MethodName)) (c_start6 l Z a0 hw fL i64 h0 n0 (Nat.le_trans Z0 K0.1) E_fL F_fL_ordinal) X13 hx hH e13 hown (wd hw 20 rfl) (wd hw 21 rfl) (notFace_of_selects (args := #[]) (mvT hZ (wd hw 23 rfl))) (wd hw 23 rfl) (wd hw 22 rfl) (wd hw 6 rfl) (wd hw 24 rfl) (by decide) E_fL pd_400 (g := (mkF m 50 #[iv kx, iv (6 : Int32), rv fL, rv lg1, rv lg2, rv lg0, rv lg1, rv lg2, un, un, un] [(.ref i64), (.ref fL)])) rfl (by rw [hml]; rfl) (argsL := [(.ref i64)]) (rest := []) rfl rfl rfl (W := 0) (by show 2 * 0 + _ ≤ _; exact Nat.le_of_eq rfl) (by decide) (by decide) (hb hby at_50) (by decide) (by decide)
  obtain ⟨b_14, rfl, N14q, K14q, p14_0, p14_1, p14_2⟩ := q14
  have N15 := Fr.app N12 N14q
  refine Wlk.of (fun _ k => st14 _ k) ?_
  have ne16 : ca ≠ b_14 := Nat.ne_of_lt (Nat.lt_of_lt_of_le A_ca.lt p14_0)
  have ne17 : fL ≠ b_14 := Nat.ne_of_lt (Nat.lt_of_lt_of_le E_fL.lt p14_0)
  have ne18 : lg0 ≠ b_14 := Nat.ne_of_lt (Nat.lt_of_lt_of_le E_lg0.lt p14_0)
  have ne19 : lg1 ≠ b_14 := Nat.ne_of_lt (Nat.lt_of_lt_of_le E_lg1.lt p14_0)
  have ne20 : lg2 ≠ b_14 := Nat.ne_of_lt (Nat.lt_of_lt_of_le E_lg2.lt p14_0)
  have sz_b_14 : h0.size ≤ b_14 := Nat.le_trans K0.1 p14_0
  have g_b_14 : n0 ≤ b_14 := Nat.le_trans Z0 sz_b_14
  have K21 : Keep h0 T14.heap [] := K0.trans K14q all0
  show Wlk p.tables e below (T14.setTop (mkF m 53 #[iv kx, iv (6 : Int32), rv fL, rv lg1, rv lg2, rv lg0, rv lg1, rv lg2, un, un, un] [(.ref b_14)])) K
  refine Wlk.of (fun _ k => XS.astore X14.here hx rfl (hb hby at_53) rfl rfl (l' := #[iv kx, iv (6 : Int32), rv fL, rv lg1, rv lg2, rv lg0, rv lg1, rv lg2, rv b_14, un, un]) rfl k) ?_
  show Wlk p.tables e below (T14.setTop (mkF m 55 #[iv kx, iv (6 : Int32), rv fL, rv lg1, rv lg2, rv lg0, rv lg1, rv lg2, rv b_14, un, un] [])) K
  refine Wlk.of (fun _ k => XS.aload X14.here hx rfl (hb hby at_55) rfl rfl k) ?_
  show Wlk p.tables e below (T14.setTop (mkF m 57 #[iv kx, iv (6 : Int32), rv fL, rv lg1, rv lg2, rv lg0, rv lg1, rv lg2, rv b_14, un, un] [(.ref b_14)])) K
  refine Wlk.of (fun _ k => XS.aloadN X14.here hx rfl (hb hby at_57) rfl rfl k) ?_
  show Wlk p.tables e below (T14.setTop (mkF m 58 #[iv kx, iv (6 : Int32), rv fL, rv lg1, rv lg2, rv lg0, rv lg1, rv lg2, rv b_14, un, un] [(.ref lg1), (.ref b_14)])) K
  refine Wlk.of (fun _ k => XS.aload X14.here hx rfl (hb hby at_58) rfl rfl k) ?_
  show Wlk p.tables e below (T14.setTop (mkF m 60 #[iv kx, iv (6 : Int32), rv fL, rv lg1, rv lg2, rv lg0, rv lg1, rv lg2, rv b_14, un, un] [(.ref lg0), (.ref lg1), (.ref b_14)])) K
  obtain ⟨v22, T22, L22, X22, q22, st22⟩ := Ctr.iface (xi := (⟨"com/example/gapweave/gapweave/AggregateFunction$Accumulator", "add", "(Ljava/lang/Object;Ljava/lang/Object;)V"⟩ : MethodName)) (c_lad0 l Z a0 hw b_14 lg1 lg0 T14.heap n0 (Nat.le_trans Z0 K21.1) p14_1 p14_2 g_b_14) X14 hx hH rfl hown (wd hw 49 rfl) (wd hw 50 rfl) (wd hw 51 rfl) (wd hw 218 rfl) (wd hw 219 rfl) (wd hw 220 rfl) (wd hw 221 rfl) (wd hw 222 rfl) (wd hw 213 rfl) (wd hw 223 rfl) (by decide) p14_1 pd_401 (g := (mkF m 60 #[iv kx, iv (6 : Int32), rv fL, rv lg1, rv lg2, rv lg0, rv lg1, rv lg2, rv b_14, un, un] [(.ref lg0), (.ref lg1), (.ref b_14)])) rfl (by rw [hml]; rfl) (argsL := [(.ref lg1), (.ref lg0)]) (rest := []) rfl rfl rfl (W := 0) (by show 2 * 0 + _ ≤ _; exact Nat.le_of_eq rfl) (by decide) (by decide) (hb hby at_60) (by decide) (by decide)
  obtain ⟨rfl, N22q, K22q, p22_0⟩ := q22
  have N23 := Fr.app N15 N22q
  refine Wlk.of (fun _ k => st22 _ k) ?_
  have K24 : Keep h0 T22.heap [] := K21.trans K22q (allS (Or.inr sz_b_14) all0)
  show Wlk p.tables e below (T22.setTop (mkF m 65 #[iv kx, iv (6 : Int32), rv fL, rv lg1, rv lg2, rv lg0, rv lg1, rv lg2, rv b_14, un, un] [])) K
  refine Wlk.of (fun _ k => XS.aload X22.here hx rfl (hb hby at_65) rfl rfl k) ?_
  show Wlk p.tables e below (T22.setTop (mkF m 67 #[iv kx, iv (6 : Int32), rv fL, rv lg1, rv lg2, rv lg0, rv lg1, rv lg2, rv b_14, un, un] [(.ref b_14)])) K
  refine Wlk.of (fun _ k => XS.aload X22.here hx rfl (hb hby at_67) rfl rfl k) ?_
  show Wlk p.tables e below (T22.setTop (mkF m 69 #[iv kx, iv (6 : Int32), rv fL, rv lg1, rv lg2, rv lg0, rv lg1, rv lg2, rv b_14, un, un] [(.ref lg2), (.ref b_14)])) K
  refine Wlk.of (fun _ k => XS.aload X22.here hx rfl (hb hby at_69) rfl rfl k) ?_
  show Wlk p.tables e below (T22.setTop (mkF m 71 #[iv kx, iv (6 : Int32), rv fL, rv lg1, rv lg2, rv lg0, rv lg1, rv lg2, rv b_14, un, un] [(.ref lg1), (.ref lg2), (.ref b_14)])) K
  have f25 : Exa Z T22.heap b_14 "com/example/gapweave/gapweave/AggregateFunction$Last" := (p14_1.keep K22q)
  obtain ⟨v26, T26, L26, X26, q26, st26⟩ := Ctr.iface (xi := (⟨"com/example/gapweave/gapweave/AggregateFunction$Accumulator", "add", "(Ljava/lang/Object;Ljava/lang/Object;)V"⟩ : MethodName)) (c_lad1 l Z a0 hw b_14 lg2 lg1 lg1 T22.heap n0 (Nat.le_trans Z0 K24.1) f25 p22_0 g_b_14) X22 hx hH rfl hown (wd hw 49 rfl) (wd hw 50 rfl) (wd hw 51 rfl) (wd hw 218 rfl) (wd hw 219 rfl) (wd hw 220 rfl) (wd hw 221 rfl) (wd hw 222 rfl) (wd hw 213 rfl) (wd hw 223 rfl) (by decide) f25 pd_401 (g := (mkF m 71 #[iv kx, iv (6 : Int32), rv fL, rv lg1, rv lg2, rv lg0, rv lg1, rv lg2, rv b_14, un, un] [(.ref lg1), (.ref lg2), (.ref b_14)])) rfl (by rw [hml]; rfl) (argsL := [(.ref lg2), (.ref lg1)]) (rest := []) rfl rfl rfl (W := 0) (by show 2 * 0 + _ ≤ _; exact Nat.le_of_eq rfl) (by decide) (by decide) (hb hby at_71) (by decide) (by decide)
  obtain ⟨rfl, N26q, K26q, p26_0⟩ := q26
  have N27 := Fr.app N23 N26q
  refine Wlk.of (fun _ k => st26 _ k) ?_
  have K28 : Keep h0 T26.heap [] := K24.trans K26q (allS (Or.inr sz_b_14) all0)
  show Wlk p.tables e below (T26.setTop (mkF m 76 #[iv kx, iv (6 : Int32), rv fL, rv lg1, rv lg2, rv lg0, rv lg1, rv lg2, rv b_14, un, un] [])) K
  refine Wlk.of (fun _ k => XS.aloadN X26.here hx rfl (hb hby at_76) rfl rfl k) ?_
  show Wlk p.tables e below (T26.setTop (mkF m 77 #[iv kx, iv (6 : Int32), rv fL, rv lg1, rv lg2, rv lg0, rv lg1, rv lg2, rv b_14, un, un] [(.ref fL)])) K
  have f29 : Sta Z T26.heap "com/example/gapweave/gapweave/ColumnType" "INT64" "Lcom/example/gapweave/gapweave/ColumnType;" (.ref i64) := (own_staKeep (own_staKeep (own_staKeep S_INT64 K14q own_all0) K22q (own_allS (NSt.of p14_1) own_all0)) K26q (own_allS (NSt.of f25) own_all0))
  obtain ⟨T30, X30, e30, st30⟩ := getS2 X26 hx hZ hown (host := "") (Or.inl (wd hw 17 rfl)) Via.refl rfl f29 (g := (mkF m 77 #[iv kx, iv (6 : Int32), rv fL, rv lg1, rv lg2, rv lg0, rv lg1, rv lg2, rv b_14, un, un] [(.ref fL)])) rfl (hb hby at_77)
  refine Wlk.of (fun _ k => st30 _ k) ?_
  show Wlk p.tables e below (T30.setTop (mkF m 80 #[iv kx, iv (6 : Int32), rv fL, rv lg1, rv lg2, rv lg0, rv lg1, rv lg2, rv b_14, un, un] [(.ref i64), (.ref fL)])) K
  have f31 : Exa Z T26.heap fL "com/example/gapweave/gapweave/AggregateFunction" := (((E_fL.keep K14q).keep K22q).keep K26q)
  have f32 : Fld Z T26.heap fL "java/lang/Enum" "ordinal" "I" (.int (6 : Int32)) := (((F_fL_ordinal.keep K14q nin0).keep K22q (ninS ne17 nin0)).keep K26q (ninS ne17 nin0))
  obtain ⟨v33, T33, L33, X33, q33, st33⟩ := Ctr.virtual (y := (⟨"com/example/gapweave/gapweave/AggregateFunction", "start", "(Lcom/example/gapweave/gapweave/ColumnType;)Lcom/example/gapweave/gapweave/AggregateFunction$Accumulator;"⟩ : MethodName)) (c_start6 l Z a0 hw fL i64 T26.heap n0 (Nat.le_trans Z0 K28.1) f31 f32) X30 hx hH e30 hown (wd hw 20 rfl) (wd hw 21 rfl) (notFace_of_selects (args := #[]) (mvT hZ (wd hw 23 rfl))) (wd hw 23 rfl) (wd hw 22 rfl) (wd hw 6 rfl) (wd hw 24 rfl) (by decide) f31 pd_400 (g := (mkF m 80 #[iv kx, iv (6 : Int32), rv fL, rv lg1, rv lg2, rv lg0, rv lg1, rv lg2, rv b_14, un, un] [(.ref i64), (.ref fL)])) rfl (by rw [hml]; rfl) (argsL := [(.ref i64)]) (rest := []) rfl rfl rfl (W := 0) (by show 2 * 0 + _ ≤ _; exact Nat.le_of_eq rfl) (by decide) (by decide) (hb hby at_80) (by decide) (by decide)
  obtain ⟨b_33, rfl, N33q, K33q, p33_0, p33_1, p33_2⟩ := q33
  have N34 := Fr.app N27 N33q
  refine Wlk.of (fun _ k => st33 _ k) ?_
  have f36 : Exa Z T26.heap b_14 "com/example/gapweave/gapweave/AggregateFunction$Last" := (f25.keep K26q)
  have ne35 : b_14 ≠ b_33 := Nat.ne_of_lt (Nat.lt_of_lt_of_le f36.lt p33_0)
  have f38 : Arl Z T26.heap ca (.object "java/lang/Long") vsC := (((A_ca.keep K14q nin0).keep K22q (ninS ne16 nin0)).keep K26q (ninS ne16 nin0))
  have ne37 : ca ≠ b_33 := Nat.ne_of_lt (Nat.lt_of_lt_of_le f38.lt p33_0)
  have ne39 : fL ≠ b_33 := Nat.ne_of_lt (Nat.lt_of_lt_of_le f31.lt p33_0)
  have f41 : Exa Z T26.heap lg0 "java/lang/Long" := (((E_lg0.keep K14q).keep K22q).keep K26q)
  have ne40 : lg0 ≠ b_33 := Nat.ne_of_lt (Nat.lt_of_lt_of_le f41.lt p33_0)
  have f43 : Exa Z T26.heap lg1 "java/lang/Long" := (((E_lg1.keep K14q).keep K22q).keep K26q)
  have ne42 : lg1 ≠ b_33 := Nat.ne_of_lt (Nat.lt_of_lt_of_le f43.lt p33_0)
  have f45 : Exa Z T26.heap lg2 "java/lang/Long" := (((E_lg2.keep K14q).keep K22q).keep K26q)
  have ne44 : lg2 ≠ b_33 := Nat.ne_of_lt (Nat.lt_of_lt_of_le f45.lt p33_0)
  have sz_b_33 : h0.size ≤ b_33 := Nat.le_trans K28.1 p33_0
  have g_b_33 : n0 ≤ b_33 := Nat.le_trans Z0 sz_b_33
  have K46 : Keep h0 T33.heap [] := K28.trans K33q all0
  show Wlk p.tables e below (T33.setTop (mkF m 83 #[iv kx, iv (6 : Int32), rv fL, rv lg1, rv lg2, rv lg0, rv lg1, rv lg2, rv b_14, un, un] [(.ref b_33)])) K
  refine Wlk.of (fun _ k => XS.astore X33.here hx rfl (hb hby at_83) rfl rfl (l' := #[iv kx, iv (6 : Int32), rv fL, rv lg1, rv lg2, rv lg0, rv lg1, rv lg2, rv b_14, rv b_33, un]) rfl k) ?_
  show Wlk p.tables e below (T33.setTop (mkF m 85 #[iv kx, iv (6 : Int32), rv fL, rv lg1, rv lg2, rv lg0, rv lg1, rv lg2, rv b_14, rv b_33, un] [])) K
  refine Wlk.of (fun _ k => XS.aload X33.here hx rfl (hb hby at_85) rfl rfl k) ?_
  show Wlk p.tables e below (T33.setTop (mkF m 87 #[iv kx, iv (6 : Int32), rv fL, rv lg1, rv lg2, rv lg0, rv lg1, rv lg2, rv b_14, rv b_33, un] [(.ref b_33)])) K
  refine Wlk.of (fun _ k => XS.aloadN X33.here hx rfl (hb hby at_87) rfl rfl k) ?_
  show Wlk p.tables e below (T33.setTop (mkF m 88 #[iv kx, iv (6 : Int32), rv fL, rv lg1, rv lg2, rv lg0, rv lg1, rv lg2, rv b_14, rv b_33, un] [(.ref lg1), (.ref b_33)])) K
  refine Wlk.of (fun _ k => XS.aload X33.here hx rfl (hb hby at_88) rfl rfl k) ?_
  show Wlk p.tables e below (T33.setTop (mkF m 90 #[iv kx, iv (6 : Int32), rv fL, rv lg1, rv lg2, rv lg0, rv lg1, rv lg2, rv b_14, rv b_33, un] [(.ref lg2), (.ref lg1), (.ref b_33)])) K
  obtain ⟨v47, T47, L47, X47, q47, st47⟩ := Ctr.iface (xi := (⟨"com/example/gapweave/gapweave/AggregateFunction$Accumulator", "add", "(Ljava/lang/Object;Ljava/lang/Object;)V"⟩ : MethodName)) (c_lad0 l Z a0 hw b_33 lg1 lg2 T33.heap n0 (Nat.le_trans Z0 K46.1) p33_1 p33_2 g_b_33) X33 hx hH rfl hown (wd hw 49 rfl) (wd hw 50 rfl) (wd hw 51 rfl) (wd hw 218 rfl) (wd hw 219 rfl) (wd hw 220 rfl) (wd hw 221 rfl) (wd hw 222 rfl) (wd hw 213 rfl) (wd hw 223 rfl) (by decide) p33_1 pd_401 (g := (mkF m 90 #[iv kx, iv (6 : Int32), rv fL, rv lg1, rv lg2, rv lg0, rv lg1, rv lg2, rv b_14, rv b_33, un] [(.ref lg2), (.ref lg1), (.ref b_33)])) rfl (by rw [hml]; rfl) (argsL := [(.ref lg1), (.ref lg2)]) (rest := []) rfl rfl rfl (W := 0) (by show 2 * 0 + _ ≤ _; exact Nat.le_of_eq rfl) (by decide) (by decide) (hb hby at_90) (by decide) (by decide)
  obtain ⟨rfl, N47q, K47q, p47_0⟩ := q47
  have N48 := Fr.app N34 N47q
  refine Wlk.of (fun _ k => st47 _ k) ?_
  have K49 : Keep h0 T47.heap [] := K46.trans K47q (allS (Or.inr sz_b_33) all0)
  show Wlk p.tables e below (T47.setTop (mkF m 95 #[iv kx, iv (6 : Int32), rv fL, rv lg1, rv lg2, rv lg0, rv lg1, rv lg2, rv b_14, rv b_33, un] [])) K
  refine Wlk.of (fun _ k => XS.aload X47.here hx rfl (hb hby at_95) rfl rfl k) ?_
  show Wlk p.tables e below (T47.setTop (mkF m 97 #[iv kx, iv (6 : Int32), rv fL, rv lg1, rv lg2, rv lg0, rv lg1, rv lg2, rv b_14, rv b_33, un] [(.ref b_33)])) K
  refine Wlk.of (fun _ k => XS.aload X47.here hx rfl (hb hby at_97) rfl rfl k) ?_
  show Wlk p.tables e below (T47.setTop (mkF m 99 #[iv kx, iv (6 : Int32), rv fL, rv lg1, rv lg2, rv lg0, rv lg1, rv lg2, rv b_14, rv b_33, un] [(.ref lg2), (.ref b_33)])) K
  refine Wlk.of (fun _ k => XS.aload X47.here hx rfl (hb hby at_99) rfl rfl k) ?_
  show Wlk p.tables e below (T47.setTop (mkF m 101 #[iv kx, iv (6 : Int32), rv fL, rv lg1, rv lg2, rv lg0, rv lg1, rv lg2, rv b_14, rv b_33, un] [(.ref lg1), (.ref lg2), (.ref b_33)])) K
  have f50 : Exa Z T47.heap b_33 "com/example/gapweave/gapweave/AggregateFunction$Last" := (p33_1.keep K47q)
  obtain ⟨v51, T51, L51, X51, q51, st51⟩ := Ctr.iface (xi := (⟨"com/example/gapweave/gapweave/AggregateFunction$Accumulator", "add", "(Ljava/lang/Object;Ljava/lang/Object;)V"⟩ : MethodName)) (c_lad1 l Z a0 hw b_33 lg2 lg1 lg1 T47.heap n0 (Nat.le_trans Z0 K49.1) f50 p47_0 g_b_33) X47 hx hH rfl hown (wd hw 49 rfl) (wd hw 50 rfl) (wd hw 51 rfl) (wd hw 218 rfl) (wd hw 219 rfl) (wd hw 220 rfl) (wd hw 221 rfl) (wd hw 222 rfl) (wd hw 213 rfl) (wd hw 223 rfl) (by decide) f50 pd_401 (g := (mkF m 101 #[iv kx, iv (6 : Int32), rv fL, rv lg1, rv lg2, rv lg0, rv lg1, rv lg2, rv b_14, rv b_33, un] [(.ref lg1), (.ref lg2), (.ref b_33)])) rfl (by rw [hml]; rfl) (argsL := [(.ref lg2), (.ref lg1)]) (rest := []) rfl rfl rfl (W := 0) (by show 2 * 0 + _ ≤ _; exact Nat.le_of_eq rfl) (by decide) (by decide) (hb hby at_101) (by decide) (by decide)
  obtain ⟨rfl, N51q, K51q, p51_0⟩ := q51
  have N52 := Fr.app N48 N51q
  refine Wlk.of (fun _ k => st51 _ k) ?_
  have K53 : Keep h0 T51.heap [] := K49.trans K51q (allS (Or.inr sz_b_33) all0)
  show Wlk p.tables e below (T51.setTop (mkF m 106 #[iv kx, iv (6 : Int32), rv fL, rv lg1, rv lg2, rv lg0, rv lg1, rv lg2, rv b_14, rv b_33, un] [])) K
  refine Wlk.of (fun _ k => XS.aload X51.here hx rfl (hb hby at_106) rfl rfl k) ?_
  show Wlk p.tables e below (T51.setTop (mkF m 108 #[iv kx, iv (6 : Int32), rv fL, rv lg1, rv lg2, rv lg0, rv lg1, rv lg2, rv b_14, rv b_33, un] [(.ref b_14)])) K
  have f54 : Fld Z T51.heap b_14 "com/example/gapweave/gapweave/AggregateFunction$Last" "last" "Ljava/lang/Object;" (.ref lg2) := (((p26_0.keep K33q nin0).keep K47q (ninS ne35 nin0)).keep K51q (ninS ne35 nin0))
  have f55 : Exa Z T51.heap b_14 "com/example/gapweave/gapweave/AggregateFunction$Last" := (((f36.keep K33q).keep K47q).keep K51q)
  obtain ⟨v56, T56, L56, X56, q56, st56⟩ := Ctr.iface (xi := (⟨"com/example/gapweave/gapweave/AggregateFunction$Accumulator", "result", "()Ljava/lang/Object;"⟩ : MethodName)) (c_lr l Z a0 hw b_14 lg2 T51.heap n0 (Nat.le_trans Z0 K53.1) f54) X51 hx hH rfl hown (wd hw 77 rfl) (wd hw 78 rfl) (wd hw 79 rfl) (wd hw 226 rfl) (wd hw 227 rfl) (wd hw 228 rfl) (wd hw 229 rfl) (wd hw 222 rfl) (wd hw 213 rfl) (wd hw 230 rfl) (by decide) f55 pd_402 (g := (mkF m 108 #[iv kx, iv (6 : Int32), rv fL, rv lg1, rv lg2, rv lg0, rv lg1, rv lg2, rv b_14, rv b_33, un] [(.ref b_14)])) rfl (by rw [hml]; rfl) (argsL := []) (rest := []) rfl rfl rfl (W := 0) (by show 2 * 0 + _ ≤ _; exact Nat.le_of_eq rfl) (by decide) (by decide) (hb hby at_108) (by decide) (by decide)
  obtain ⟨rfl, N56q, hh56⟩ := q56
  have N57 := Fr.app N52 N56q
  refine Wlk.of (fun _ k => st56 _ k) ?_
  show Wlk p.tables e below (T56.setTop (mkF m 113 #[iv kx, iv (6 : Int32), rv fL, rv lg1, rv lg2, rv lg0, rv lg1, rv lg2, rv b_14, rv b_33, un] [(.ref lg2)])) K
  refine Wlk.of (fun _ k => XS.aload X56.here hx rfl (hb hby at_113) rfl rfl k) ?_
  show Wlk p.tables e below (T56.setTop (mkF m 115 #[iv kx, iv (6 : Int32), rv fL, rv lg1, rv lg2, rv lg0, rv lg1, rv lg2, rv b_14, rv b_33, un] [(.ref b_33), (.ref lg2)])) K
  have f58 : Exa Z T51.heap b_33 "com/example/gapweave/gapweave/AggregateFunction$Last" := (f50.keep K51q)
  obtain ⟨v59, T59, L59, X59, q59, st59⟩ := Ctr.iface (xi := (⟨"com/example/gapweave/gapweave/AggregateFunction$Accumulator", "result", "()Ljava/lang/Object;"⟩ : MethodName)) (c_lr l Z a0 hw b_33 lg2 T51.heap n0 (Nat.le_trans Z0 K53.1) p51_0) X56 hx hH hh56 hown (wd hw 77 rfl) (wd hw 78 rfl) (wd hw 79 rfl) (wd hw 226 rfl) (wd hw 227 rfl) (wd hw 228 rfl) (wd hw 229 rfl) (wd hw 222 rfl) (wd hw 213 rfl) (wd hw 230 rfl) (by decide) f58 pd_402 (g := (mkF m 115 #[iv kx, iv (6 : Int32), rv fL, rv lg1, rv lg2, rv lg0, rv lg1, rv lg2, rv b_14, rv b_33, un] [(.ref b_33), (.ref lg2)])) rfl (by rw [hml]; rfl) (argsL := []) (rest := [(.ref lg2)]) rfl rfl rfl (W := 1) (by show 2 * 0 + _ ≤ _; exact Nat.le_of_eq rfl) (by decide) (by decide) (hb hby at_115) (by decide) (by decide)
  obtain ⟨rfl, N59q, hh59⟩ := q59
  have N60 := Fr.app N57 N59q
  refine Wlk.of (fun _ k => st59 _ k) ?_
  show Wlk p.tables e below (T59.setTop (mkF m 120 #[iv kx, iv (6 : Int32), rv fL, rv lg1, rv lg2, rv lg0, rv lg1, rv lg2, rv b_14, rv b_33, un] [(.ref lg2), (.ref lg2)])) K
  obtain ⟨v61, T61, L61, X61, q61, st61⟩ := Ctr.static (c_seq l Z a0 hw lg2 T51.heap n0 (Nat.le_trans Z0 K53.1) ) X59 hx hH hh59 hown (wd hw 108 rfl) (wd hw 109 rfl) (wd hw 3 rfl) (wd hw 110 rfl) (by decide) pd_403 (g := (mkF m 120 #[iv kx, iv (6 : Int32), rv fL, rv lg1, rv lg2, rv lg0, rv lg1, rv lg2, rv b_14, rv b_33, un] [(.ref lg2), (.ref lg2)])) rfl (by rw [hml]; rfl) (argsL := [(.ref lg2), (.ref lg2)]) (rest := []) rfl rfl rfl (W := 0) (by show 2 * 0 + _ ≤ _; exact Nat.le_of_eq rfl) (by decide) (by decide) (hb hby at_120) (by decide) (by decide)
  obtain ⟨rfl, N61q, hh61⟩ := q61
  have N62 := Fr.app N60 N61q
  refine Wlk.of (fun _ k => st61 _ k) ?_
  show Wlk p.tables e below (T61.setTop (mkF m 123 #[iv kx, iv (6 : Int32), rv fL, rv lg1, rv lg2, rv lg0, rv lg1, rv lg2, rv b_14, rv b_33, un] [(.int (1 : Int32))])) K
  refine Wlk.of (fun _ k => XS.ifYes X61.here hx rfl (pc0 := 123) (pc' := 130) rfl (hb hby at_123) rfl ((if0 _ _).trans (feq (by decide : ¬ ((1 : Int32) = (0 : Int32)))).2) (by decide) (by decide) k) ?_
  show Wlk p.tables e below (T61.setTop (mkF m 130 #[iv kx, iv (6 : Int32), rv fL, rv lg1, rv lg2, rv lg0, rv lg1, rv lg2, rv b_14, rv b_33, un] [])) K
  refine Wlk.of (fun _ k => XS.iconst X61.here hx rfl (hb hby at_130) k) ?_
  show Wlk p.tables e below (T61.setTop (mkF m 131 #[iv kx, iv (6 : Int32), rv fL, rv lg1, rv lg2, rv lg0, rv lg1, rv lg2, rv b_14, rv b_33, un] [(.int (0 : Int32))])) K
  refine Wlk.of (fun _ k => XS.istore X61.here hx rfl (hb hby at_131) rfl (l' := #[iv kx, iv (6 : Int32), rv fL, rv lg1, rv lg2, rv lg0, rv lg1, rv lg2, rv b_14, rv b_33, iv (0 : Int32)]) rfl k) ?_
  show Wlk p.tables e below (T61.setTop (mkF m 133 #[iv kx, iv (6 : Int32), rv fL, rv lg1, rv lg2, rv lg0, rv lg1, rv lg2, rv b_14, rv b_33, iv (0 : Int32)] [])) K
  refine Wlk.of (fun _ k => XS.aloadN X61.here hx rfl (hb hby at_133) rfl rfl k) ?_
  show Wlk p.tables e below (T61.setTop (mkF m 134 #[iv kx, iv (6 : Int32), rv fL, rv lg1, rv lg2, rv lg0, rv lg1, rv lg2, rv b_14, rv b_33, iv (0 : Int32)] [(.ref fL)])) K
  have f63 : Sta Z T51.heap "com/example/gapweave/gapweave/AggregateFunction" "AVG" "Lcom/example/gapweave/gapweave/AggregateFunction;" (.ref fA) := (own_staKeep (own_staKeep (own_staKeep (own_staKeep (own_staKeep (own_staKeep S_AVG K14q own_all0) K22q (own_allS (NSt.of p14_1) own_all0)) K26q (own_allS (NSt.of f25) own_all0)) K33q own_all0) K47q (own_allS (NSt.of p33_1) own_all0)) K51q (own_allS (NSt.of f50) own_all0))
  have f64 : Sta Z T51.heap "com/example/gapweave/gapweave/AggregateFunction" "SUM" "Lcom/example/gapweave/gapweave/AggregateFunction;" (.ref fS) := (own_staKeep (own_staKeep (own_staKeep (own_staKeep (own_staKeep (own_staKeep S_SUM K14q own_all0) K22q (own_allS (NSt.of p14_1) own_all0)) K26q (own_allS (NSt.of f25) own_all0)) K33q own_all0) K47q (own_allS (NSt.of p33_1) own_all0)) K51q (own_allS (NSt.of f50) own_all0))
  have f65 : Sta Z T51.heap "com/example/gapweave/gapweave/AggregateFunction" "MIN" "Lcom/example/gapweave/gapweave/AggregateFunction;" (.ref fM) := (own_staKeep (own_staKeep (own_staKeep (own_staKeep (own_staKeep (own_staKeep S_MIN K14q own_all0) K22q (own_allS (NSt.of p14_1) own_all0)) K26q (own_allS (NSt.of f25) own_all0)) K33q own_all0) K47q (own_allS (NSt.of p33_1) own_all0)) K51q (own_allS (NSt.of f50) own_all0))
  have f66 : Sta Z T51.heap "com/example/gapweave/gapweave/AggregateFunction" "MAX" "Lcom/example/gapweave/gapweave/AggregateFunction;" (.ref fX) := (own_staKeep (own_staKeep (own_staKeep (own_staKeep (own_staKeep (own_staKeep S_MAX K14q own_all0) K22q (own_allS (NSt.of p14_1) own_all0)) K26q (own_allS (NSt.of f25) own_all0)) K33q own_all0) K47q (own_allS (NSt.of p33_1) own_all0)) K51q (own_allS (NSt.of f50) own_all0))
  have f67 : Exa Z T51.heap fL "com/example/gapweave/gapweave/AggregateFunction" := (((f31.keep K33q).keep K47q).keep K51q)
  obtain ⟨v68, T68, L68, X68, q68, st68⟩ := Ctr.virtual (y := (⟨"com/example/gapweave/gapweave/AggregateFunction", "readsValues", "()Z"⟩ : MethodName)) (c_rv6 l Z a0 hw fL fA fS fM fX T51.heap n0 (Nat.le_trans Z0 K53.1) f63 f64 f65 f66 ne_fL_fA ne_fL_fS ne_fL_fM ne_fL_fX) X61 hx hH hh61 hown (wd hw 121 rfl) (wd hw 122 rfl) (notFace_of_selects (args := #[]) (mvT hZ (wd hw 124 rfl))) (wd hw 124 rfl) (wd hw 123 rfl) (wd hw 6 rfl) (wd hw 125 rfl) (by decide) f67 pd_404 (g := (mkF m 134 #[iv kx, iv (6 : Int32), rv fL, rv lg1, rv lg2, rv lg0, rv lg1, rv lg2, rv b_14, rv b_33, iv (0 : Int32)] [(.ref fL)])) rfl (by rw [hml]; rfl) (argsL := []) (rest := []) rfl rfl rfl (W := 0) (by show 2 * 0 + _ ≤ _; exact Nat.le_of_eq rfl) (by decide) (by decide) (hb hby at_134) (by decide) (by decide)
  obtain ⟨rfl, N68q, hh68⟩ := q68
  have N69 := Fr.app N62 N68q
  refine Wlk.of (fun _ k => st68 _ k) ?_
  show Wlk p.tables e below (T68.setTop (mkF m 137 #[iv kx, iv (6 : Int32), rv fL, rv lg1, rv lg2, rv lg0, rv lg1, rv lg2, rv b_14, rv b_33, iv (0 : Int32)] [(.int (0 : Int32))])) K
  refine Wlk.of (fun _ k => XS.iload X68.here hx rfl (hb hby at_137) rfl k) ?_
  show Wlk p.tables e below (T68.setTop (mkF m 139 #[iv kx, iv (6 : Int32), rv fL, rv lg1, rv lg2, rv lg0, rv lg1, rv lg2, rv b_14, rv b_33, iv (0 : Int32)] [(.int (0 : Int32)), (.int (0 : Int32))])) K
  refine Wlk.of (fun _ k => XS.icmpNo X68.here hx rfl (hb hby at_139) rfl (teq (by decide : (0 : Int32) = (0 : Int32))).2 k) ?_
  show Wlk p.tables e below (T68.setTop (mkF m 142 #[iv kx, iv (6 : Int32), rv fL, rv lg1, rv lg2, rv lg0, rv lg1, rv lg2, rv b_14, rv b_33, iv (0 : Int32)] [])) K
  refine Wlk.of (fun _ k => XS.iconst X68.here hx rfl (hb hby at_142) k) ?_
  show Wlk p.tables e below (T68.setTop (mkF m 143 #[iv kx, iv (6 : Int32), rv fL, rv lg1, rv lg2, rv lg0, rv lg1, rv lg2, rv b_14, rv b_33, iv (0 : Int32)] [(.int (1 : Int32))])) K
  refine Wlk.of (fun _ k => XS.goto X68.here hx rfl (pc0 := 143) (pc' := 147) rfl (hb hby at_143) (by decide) (by decide) k) ?_
  show Wlk p.tables e below (T68.setTop (mkF m 147 #[iv kx, iv (6 : Int32), rv fL, rv lg1, rv lg2, rv lg0, rv lg1, rv lg2, rv b_14, rv b_33, iv (0 : Int32)] [(.int (1 : Int32))])) K
  refine hK (some (.int (1 : Int32))) X68 (fun q => by cases q) (fun fs hr => retN X68 hx (t := .boolean) hret (by simp) (hb hby at_147) hr) ?_ (by decide) (by decide)
  rw [show T68.heap = T51.heap from hh68]
  exact ⟨rfl, N69, K53⟩
def Q_law (h0 : Heap) (n0 : Nat) (v : Option Value) (h : Heap) (L : List Loc) : Prop := v = (some (.int (1 : Int32))) ∧ Fr n0 L ∧ Keep h0 h []
theorem own_law (l : Launch) (Z : State) (a0 : Array Value) (hw : ∀ d ∈ tables_1, d.before a0 Z = true) (ws : List Jvm.Cond) (kx : Int32) (fA : Addr) (fS : Addr) (fM : Addr) (fX : Addr) (fC : Addr) (fF : Addr) (fL : Addr) (i64 : Addr) (i32 : Addr) (sm : Addr) (la : Addr) (vsS : (List Value)) (cK : ClassId) (ca : Addr) (vsC : (List Value)) (lg0 : Addr) (lg1 : Addr) (lg2 : Addr) (lg3 : Addr) (h0 : Heap) (n0 : Nat) (Z0 : n0 ≤ h0.size) (S_AVG : Sta Z h0 "com/example/gapweave/gapweave/AggregateFunction" "AVG" "Lcom/example/gapweave/gapweave/AggregateFunction;" (.ref fA)) (S_SUM : Sta Z h0 "com/example/gapweave/gapweave/AggregateFunction" "SUM" "Lcom/example/gapweave/gapweave/AggregateFunction;" (.ref fS)) (S_MIN : Sta Z h0 "com/example/gapweave/gapweave/AggregateFunction" "MIN" "Lcom/example/gapweave/gapweave/AggregateFunction;" (.ref fM)) (S_MAX : Sta Z h0 "com/example/gapweave/gapweave/AggregateFunction" "MAX" "Lcom/example/gapweave/gapweave/AggregateFunction;" (.ref fX)) (S_COUNT : Sta Z h0 "com/example/gapweave/gapweave/AggregateFunction" "COUNT" "Lcom/example/gapweave/gapweave/AggregateFunction;" (.ref fC)) (S_FIRST_VALUE : Sta Z h0 "com/example/gapweave/gapweave/AggregateFunction" "FIRST_VALUE" "Lcom/example/gapweave/gapweave/AggregateFunction;" (.ref fF)) (S_LAST_VALUE : Sta Z h0 "com/example/gapweave/gapweave/AggregateFunction" "LAST_VALUE" "Lcom/example/gapweave/gapweave/AggregateFunction;" (.ref fL)) (E_fA : Exa Z h0 fA "com/example/gapweave/gapweave/AggregateFunction") (F_fA_ordinal : Fld Z h0 fA "java/lang/Enum" "ordinal" "I" (.int (0 : Int32))) (E_fS : Exa Z h0 fS "com/example/gapweave/gapweave/AggregateFunction") (F_fS_ordinal : Fld Z h0 fS "java/lang/Enum" "ordinal" "I" (.int (1 : Int32))) (E_fM : Exa Z h0 fM "com/example/gapweave/gapweave/AggregateFunction") (F_fM_ordinal : Fld Z h0 fM "java/lang/Enum" "ordinal" "I" (.int (2 : Int32))) (E_fX : Exa Z h0 fX "com/example/gapweave/gapweave/AggregateFunction") (F_fX_ordinal : Fld Z h0 fX "java/lang/Enum" "ordinal" "I" (.int (3 : Int32))) (E_fC : Exa Z h0 fC "com/example/gapweave/gapweave/AggregateFunction") (F_fC_ordinal : Fld Z h0 fC "java/lang/Enum" "ordinal" "I" (.int (4 : Int32))) (E_fF : Exa Z h0 fF "com/example/gapweave/gapweave/AggregateFunction") (F_fF_ordinal : Fld Z h0 fF "java/lang/Enum" "ordinal" "I" (.int (5 : Int32))) (E_fL : Exa Z h0 fL "com/example/gapweave/gapweave/AggregateFunction") (F_fL_ordinal : Fld Z h0 fL "java/lang/Enum" "ordinal" "I" (.int (6 : Int32))) (ne_fS_fA : fS ≠ fA) (ne_fM_fA : fM ≠ fA) (ne_fM_fS : fM ≠ fS) (ne_fX_fA : fX ≠ fA) (ne_fX_fS : fX ≠ fS) (ne_fX_fM : fX ≠ fM) (ne_fC_fA : fC ≠ fA) (ne_fC_fS : fC ≠ fS) (ne_fC_fM : fC ≠ fM) (ne_fC_fX : fC ≠ fX) (ne_fF_fA : fF ≠ fA) (ne_fF_fS : fF ≠ fS) (ne_fF_fM : fF ≠ fM) (ne_fF_fX : fF ≠ fX) (ne_fL_fA : fL ≠ fA) (ne_fL_fS : fL ≠ fS) (ne_fL_fM : fL ≠ fM) (ne_fL_fX : fL ≠ fX) (S_INT64 : Sta Z h0 "com/example/gapweave/gapweave/ColumnType" "INT64" "Lcom/example/gapweave/gapweave/ColumnType;" (.ref i64)) (S_INT32 : Sta Z h0 "com/example/gapweave/gapweave/ColumnType" "INT32" "Lcom/example/gapweave/gapweave/ColumnType;" (.ref i32)) (ne_i64_i32 : i64 ≠ i32) (E_i64 : Exa Z h0 i64 "com/example/gapweave/gapweave/ColumnType") (F_i64_ordinal : Fld Z h0 i64 "java/lang/Enum" "ordinal" "I" (.int (2 : Int32))) (S__SwitchMap_com_example_gapweave_gapweave_ColumnType : Sta Z h0 "com/example/gapweave/gapweave/AggregateFunction$1" "$SwitchMap$com$example$gapweave$gapweave$ColumnType" "[I" (.ref sm)) (A_sm : Arl Z h0 sm .int vsS) (hS2 : vsS[2]? = some (.int (2 : Int32))) (hsite : Site Z (⟨"com/example/gapweave/gapweave/AggregateFunction", "order", "(Lcom/example/gapweave/gapweave/ColumnType;)Ljava/util/Comparator;"⟩ : MethodName) 48 la) (hmade : Jvm.LamKit.Made Z "com/example/gapweave/gapweave/AggregateFunction" own_sg cK) (Fn_la : Fn h0 la cK) (S_cache : Sta Z h0 "java/lang/Long$LongCache" "cache" "[Ljava/lang/Long;" (.ref ca)) (A_ca : Arl Z h0 ca (.object "java/lang/Long") vsC) (hC0 : vsC[128]? = some (.ref lg0)) (hC1 : vsC[129]? = some (.ref lg1)) (hC2 : vsC[130]? = some (.ref lg2)) (hC3 : vsC[131]? = some (.ref lg3)) (E_lg0 : Exa Z h0 lg0 "java/lang/Long") (F_lg0_value : Fld Z h0 lg0 "java/lang/Long" "value" "J" (.long (0 : Int64))) (E_lg1 : Exa Z h0 lg1 "java/lang/Long") (F_lg1_value : Fld Z h0 lg1 "java/lang/Long" "value" "J" (.long (1 : Int64))) (E_lg2 : Exa Z h0 lg2 "java/lang/Long") (F_lg2_value : Fld Z h0 lg2 "java/lang/Long" "value" "J" (.long (2 : Int64))) (E_lg3 : Exa Z h0 lg3 "java/lang/Long") (F_lg3_value : Fld Z h0 lg3 "java/lang/Long" "value" "J" (.long (3 : Int64))) (ne_lg1_lg3 : lg1 ≠ lg3) (ne_lg1_lg2 : lg1 ≠ lg2) :
    Ctr l Z h0 x code maxLocals ret ws room_1 #[(.int kx)] (Q_law h0 n0) := by
  rcases own_cases kx with hi | hi | hi | hi | hi | hi | hi
  · exact c_law0 l Z a0 hw ws kx fA i64 ca vsC lg0 lg1 lg2 i32 h0 n0 Z0 hi S_AVG E_fA F_fA_ordinal S_INT64 S_cache A_ca hC0 hC1 hC2 E_lg0 F_lg0_value E_lg1 F_lg1_value E_lg2 F_lg2_value S_INT32 ne_i64_i32
  · exact c_law1 l Z a0 hw ws kx fS fA i64 ca vsC lg0 lg1 lg2 lg3 i32 h0 n0 Z0 hi S_AVG S_SUM E_fS F_fS_ordinal ne_fS_fA S_INT64 S_cache A_ca hC0 hC1 hC2 hC3 E_lg0 F_lg0_value E_lg1 F_lg1_value E_lg2 F_lg2_value E_lg3 F_lg3_value S_INT32 ne_i64_i32 ne_lg1_lg3
  · exact c_law2 l Z a0 hw ws kx fM fA fS i64 ca vsC lg0 lg1 lg2 sm la vsS cK h0 n0 Z0 hi S_AVG S_SUM S_MIN E_fM F_fM_ordinal ne_fM_fA ne_fM_fS S_INT64 S_cache A_ca hC0 hC1 hC2 E_lg0 F_lg0_value E_lg1 F_lg1_value E_lg2 F_lg2_value S__SwitchMap_com_example_gapweave_gapweave_ColumnType A_sm hS2 E_i64 F_i64_ordinal hsite hmade Fn_la ne_lg1_lg2
  · exact c_law3 l Z a0 hw ws kx fX fA fS fM i64 ca vsC lg0 lg1 lg2 sm la vsS cK h0 n0 Z0 hi S_AVG S_SUM S_MIN S_MAX E_fX F_fX_ordinal ne_fX_fA ne_fX_fS ne_fX_fM S_INT64 S_cache A_ca hC0 hC1 hC2 E_lg0 F_lg0_value E_lg1 F_lg1_value E_lg2 F_lg2_value S__SwitchMap_com_example_gapweave_gapweave_ColumnType A_sm hS2 E_i64 F_i64_ordinal hsite hmade Fn_la ne_lg1_lg2
  · exact c_law4 l Z a0 hw ws kx fC fA fS fM fX i64 ca vsC lg0 lg1 lg2 h0 n0 Z0 hi S_AVG S_SUM S_MIN S_MAX S_COUNT E_fC F_fC_ordinal ne_fC_fA ne_fC_fS ne_fC_fM ne_fC_fX S_INT64 S_cache A_ca hC0 hC1 hC2 E_lg0 F_lg0_value E_lg1 F_lg1_value E_lg2 F_lg2_value
  · exact c_law5 l Z a0 hw ws kx fF fA fS fM fX i64 ca vsC lg0 lg1 lg2 h0 n0 Z0 hi S_AVG S_SUM S_MIN S_MAX S_FIRST_VALUE E_fF F_fF_ordinal ne_fF_fA ne_fF_fS ne_fF_fM ne_fF_fX S_INT64 S_cache A_ca hC0 hC1 hC2 E_lg0 F_lg0_value E_lg1 F_lg1_value E_lg2 F_lg2_value
  · exact c_law6 l Z a0 hw ws kx fL fA fS fM fX i64 ca vsC lg0 lg1 lg2 h0 n0 Z0 hi S_AVG S_SUM S_MIN S_MAX S_LAST_VALUE E_fL F_fL_ordinal ne_fL_fA ne_fL_fS ne_fL_fM ne_fL_fX S_INT64 S_cache A_ca hC0 hC1 hC2 E_lg0 F_lg0_value E_lg1 F_lg1_value E_lg2 F_lg2_value

theorem own_or {args : Array Value} {s : State} {idx : List Nat} {a b : Jvm.Cond} (h1 : a.value args s none s idx = some false) (h : (Jvm.Cond.or a b).value args s none s idx = some true) : b.value args s none s idx = some true := by
  simpa [Cond.value, h1] using h
theorem own_arr {args : Array Value} {s : State} {t : Term} {ty : FieldType} {z : Int32} {n : Nat} (hz : z.toInt = n) (hl : (Jvm.Cond.eq (.length t) (.int z)).value args s none s [] = some true) (ha : (Jvm.Cond.arrayOf t ty).value args s none s [] = some true) :
    ∃ (a : Addr) (c : Cell), t.eval args s none [] s = some (.ref a) ∧ Arr s s.heap a c ty ∧ c.slots.size < 2 ^ 31 ∧ c.slots.size = n := by
  have hlen := eqv_i (y := z) rfl hl
  obtain ⟨a, ev⟩ := len_v hlen
  obtain ⟨c, A⟩ := Arr.start ev ha
  have lt := Jvm.Free.SBG.length_lt ev (A.fin (Vm.Alike.refl _)) hlen
  have e : c.slots.size.toInt32 = z := Value.int.inj (Option.some.inj ((len_f ev (A.fin (Vm.Alike.refl _)) lt).symm.trans hlen))
  refine ⟨a, c, ev, A, lt, ?_⟩
  have := len_toInt lt
  rw [e, hz] at this; omega
theorem own_sub {args : Array Value} {s : State} {j : Int32} (hj : ¬ j < 0) : (Term.sub (.index 0) (.int 128)).eval args s none [j.toNatClampNeg] s = some (.int (j - 128)) := by
  have h : (Term.index 0).eval args s none [j.toNatClampNeg] s = some (.int j) := idx_at hj
  generalize Term.index 0 = t at h
  simp [Term.eval, h]
theorem own_box {args : Array Value} {s : State} {C n d : String} {ca : Addr} {c : Cell} (ev : (Term.static C n d).eval args s none [] s = some (.ref ca)) (A : Arr s s.heap ca c (.object "java/lang/Long")) (lt : c.slots.size < 2 ^ 31) (sz : c.slots.size = 256)
    (h : (Jvm.Cond.all (.static C n d) (.and (.exactly (.elem (.static C n d) (.index 0)) "java/lang/Long") (.eq (.field (.elem (.static C n d) (.index 0)) "java/lang/Long" "value" "J") (.op1 .i2l (.sub (.index 0) (.int 128)))))).value args s none s [] = some true) (j : Int32) (i : Nat) (hi : j.toNatClampNeg = i) (hj : ¬ j < 0) (hl : i < 256) :
    ∃ b : Addr, c.slots.toList[i]? = some (.ref b) ∧ Exa s s.heap b "java/lang/Long" ∧ Fld s s.heap b "java/lang/Long" "value" "J" (.long (j - 128).toInt64) := by
  have B := Bxs.start (z := 256) (val := fun j => .long (j - 128).toInt64) (fun idx => (show (Term.static C n d).eval args s none idx s = some (.ref ca) from ev)) A lt (by rw [sz]; rfl) (by decide) h (fun X j nn q => eqv_l (i2l_at (own_sub nn)) q)
  obtain ⟨b, h1, h2, h3⟩ := B.2.2.2 j (by rintro (q | q); exact hj q; omega)
  exact ⟨b, by rw [Array.getElem?_toList, ← hi]; exact h1, h2, h3⟩
theorem own_fw {s t : State} {o : Outcome} {L : List Loc} {k n : Nat} (h : FrameEnd s o t L k n) : FramedW s o t L k n := ⟨h.1, h.2.1.wide, h.2.1.no_new_pair _, h.2.2⟩
set_option maxRecDepth 65536 in
set_option maxHeartbeats 40000000 in
theorem comes_1 {Post : Tables → Env → Array Value → State → Outcome → State → Prop} (hpost : ∀ tb e args s v u, (limb_1_1.after args s (.returned v) u = true ∧ limb_1_2.after args s (.returned v) u = true ∧ True) → FrameEnd s (.returned v) u (Jvm.fieldLocs frame_1_writes args s ++ Jvm.arrayLocs frame_1_arrays args s ++ Jvm.staticLocs frame_1_statics s) 16 128 → Post tb e args s (.returned v) u) :
    ArmFor flags0 classFile x code maxLocals ret World_1 tables_1 room_1 Calls_1 rest_1 Pre_1 Post := by
  intro l hfl _ _ p e ha hc hk s m args below hf hA hF happ hP
  obtain ⟨hcalls, hrest, hpre⟩ := hP
  obtain ⟨-, -, -, hnamed, -, -, -, hat⟩ := (Spec.applies_iff hf).mp happ
  obtain ⟨hg, hn⟩ := and_e (Cond.before_iff.mp (show (Jvm.Cond.and given_1 narrow_1).before args s = true from hpre))
  obtain ⟨g1, g2⟩ := and_e hg
  obtain ⟨w0, rfl⟩ : ∃ w0 : Value, args = #[w0] := by
    have hs : args.size = 1 := by simpa [Cond.value, given_1] using g1
    obtain ⟨L⟩ := args
    match L, hs with
    | [w0], _ => exact ⟨w0, rfl⟩
  have hw := fun d (hd : d ∈ tables_1) => atoms_spec (ws := Jvm.Cond.code x code maxLocals ret :: tables_1) hat d (List.mem_cons_of_mem _ hd)
  have hfit : Fit s := fun {y c} hc i hi => by
    obtain ⟨ha, rfl⟩ := Array.getElem?_eq_some_iff.mp hc
    have q := List.all_eq_true.mp ((Array.all_eq_true_iff_forall_mem.mp hF) _ (Array.getElem_mem ha)) i (List.mem_range.mpr hi)
    simpa [Array.getElem?_eq_getElem hi] using q
  obtain ⟨hsets, hown0⟩ := atoms_of _ (rest_1_c_eq ▸ (show rest_1_c.before _ s = true from hrest))
  have hr0 := Cond.before_iff.mp hown0
  obtain ⟨i0, ei0⟩ := is_v g2
  obtain rfl : w0 = (.int i0) := Option.some.inj ei0
  obtain ⟨b0, c0⟩ := and_e hn
  obtain ⟨b1, c1⟩ := and_e c0
  obtain ⟨b2, c2⟩ := and_e c1
  obtain ⟨b3, c3⟩ := and_e c2
  obtain ⟨b4, c4⟩ := and_e c3
  obtain ⟨b5, c5⟩ := and_e c4
  obtain ⟨b6, c6⟩ := and_e c5
  obtain ⟨b7, c7⟩ := and_e c6
  obtain ⟨b8, c8⟩ := and_e c7
  obtain ⟨b9, c9⟩ := and_e c8
  obtain ⟨b10, c10⟩ := and_e c9
  obtain ⟨b11, c11⟩ := and_e c10
  obtain ⟨b12, c12⟩ := and_e c11
  obtain ⟨b13, c13⟩ := and_e c12
  obtain ⟨b14, c14⟩ := and_e c13
  obtain ⟨b15, c15⟩ := and_e c14
  obtain ⟨b16, c16⟩ := and_e c15
  obtain ⟨b17, c17⟩ := and_e c16
  obtain ⟨b18, c18⟩ := and_e c17
  obtain ⟨b19, c19⟩ := and_e c18
  obtain ⟨b20, c20⟩ := and_e c19
  obtain ⟨b21, c21⟩ := and_e c20
  obtain ⟨b22, c22⟩ := and_e c21
  obtain ⟨b23, c23⟩ := and_e c22
  obtain ⟨b24, c24⟩ := and_e c23
  obtain ⟨fA, v_fA⟩ := exa_v b0
  have S_AVG : Sta s s.heap "com/example/gapweave/gapweave/AggregateFunction" "AVG" "Lcom/example/gapweave/gapweave/AggregateFunction;" (.ref fA) := Sta.start v_fA (Or.inr ⟨(wd hw 6 rfl), (wd hw 7 rfl)⟩)
  have E_fA : Exa s s.heap fA "com/example/gapweave/gapweave/AggregateFunction" := Exa.start v_fA b0
  have F_fA_ordinal : Fld s s.heap fA "java/lang/Enum" "ordinal" "I" (.int (0 : Int32)) := Fld.start ((fld_at v_fA).symm.trans (eqv_i rfl b2))
  obtain ⟨fS, v_fS⟩ := exa_v b10
  have S_SUM : Sta s s.heap "com/example/gapweave/gapweave/AggregateFunction" "SUM" "Lcom/example/gapweave/gapweave/AggregateFunction;" (.ref fS) := Sta.start v_fS (Or.inr ⟨(wd hw 6 rfl), (wd hw 183 rfl)⟩)
  have E_fS : Exa s s.heap fS "com/example/gapweave/gapweave/AggregateFunction" := Exa.start v_fS b10
  have F_fS_ordinal : Fld s s.heap fS "java/lang/Enum" "ordinal" "I" (.int (1 : Int32)) := Fld.start ((fld_at v_fS).symm.trans (eqv_i rfl b11))
  obtain ⟨fM, v_fM⟩ := exa_v b12
  have S_MIN : Sta s s.heap "com/example/gapweave/gapweave/AggregateFunction" "MIN" "Lcom/example/gapweave/gapweave/AggregateFunction;" (.ref fM) := Sta.start v_fM (Or.inr ⟨(wd hw 6 rfl), (wd hw 185 rfl)⟩)
  have E_fM : Exa s s.heap fM "com/example/gapweave/gapweave/AggregateFunction" := Exa.start v_fM b12
  have F_fM_ordinal : Fld s s.heap fM "java/lang/Enum" "ordinal" "I" (.int (2 : Int32)) := Fld.start ((fld_at v_fM).symm.trans (eqv_i rfl b13))
  obtain ⟨fX, v_fX⟩ := exa_v b6
  have S_MAX : Sta s s.heap "com/example/gapweave/gapweave/AggregateFunction" "MAX" "Lcom/example/gapweave/gapweave/AggregateFunction;" (.ref fX) := Sta.start v_fX (Or.inr ⟨(wd hw 6 rfl), (wd hw 128 rfl)⟩)
  have E_fX : Exa s s.heap fX "com/example/gapweave/gapweave/AggregateFunction" := Exa.start v_fX b6
  have F_fX_ordinal : Fld s s.heap fX "java/lang/Enum" "ordinal" "I" (.int (3 : Int32)) := Fld.start ((fld_at v_fX).symm.trans (eqv_i rfl b7))
  obtain ⟨fC, v_fC⟩ := exa_v b18
  have S_COUNT : Sta s s.heap "com/example/gapweave/gapweave/AggregateFunction" "COUNT" "Lcom/example/gapweave/gapweave/AggregateFunction;" (.ref fC) := Sta.start v_fC (Or.inr ⟨(wd hw 6 rfl), (wd hw 232 rfl)⟩)
  have E_fC : Exa s s.heap fC "com/example/gapweave/gapweave/AggregateFunction" := Exa.start v_fC b18
  have F_fC_ordinal : Fld s s.heap fC "java/lang/Enum" "ordinal" "I" (.int (4 : Int32)) := Fld.start ((fld_at v_fC).symm.trans (eqv_i rfl b19))
  obtain ⟨fF, v_fF⟩ := exa_v b14
  have S_FIRST_VALUE : Sta s s.heap "com/example/gapweave/gapweave/AggregateFunction" "FIRST_VALUE" "Lcom/example/gapweave/gapweave/AggregateFunction;" (.ref fF) := Sta.start v_fF (Or.inr ⟨(wd hw 6 rfl), (wd hw 188 rfl)⟩)
  have E_fF : Exa s s.heap fF "com/example/gapweave/gapweave/AggregateFunction" := Exa.start v_fF b14
  have F_fF_ordinal : Fld s s.heap fF "java/lang/Enum" "ordinal" "I" (.int (5 : Int32)) := Fld.start ((fld_at v_fF).symm.trans (eqv_i rfl b15))
  obtain ⟨fL, v_fL⟩ := exa_v b16
  have S_LAST_VALUE : Sta s s.heap "com/example/gapweave/gapweave/AggregateFunction" "LAST_VALUE" "Lcom/example/gapweave/gapweave/AggregateFunction;" (.ref fL) := Sta.start v_fL (Or.inr ⟨(wd hw 6 rfl), (wd hw 210 rfl)⟩)
  have E_fL : Exa s s.heap fL "com/example/gapweave/gapweave/AggregateFunction" := Exa.start v_fL b16
  have F_fL_ordinal : Fld s s.heap fL "java/lang/Enum" "ordinal" "I" (.int (6 : Int32)) := Fld.start ((fld_at v_fL).symm.trans (eqv_i rfl b17))
  obtain ⟨i64, v_i64⟩ := exa_v b1
  have S_INT64 : Sta s s.heap "com/example/gapweave/gapweave/ColumnType" "INT64" "Lcom/example/gapweave/gapweave/ColumnType;" (.ref i64) := Sta.start v_i64 (Or.inr ⟨(wd hw 18 rfl), (wd hw 19 rfl)⟩)
  have E_i64 : Exa s s.heap i64 "com/example/gapweave/gapweave/ColumnType" := Exa.start v_i64 b1
  have F_i64_ordinal : Fld s s.heap i64 "java/lang/Enum" "ordinal" "I" (.int (2 : Int32)) := Fld.start ((fld_at v_i64).symm.trans (eqv_i rfl b4))
  obtain ⟨i32, v_i32⟩ := exa_v b3
  have S_INT32 : Sta s s.heap "com/example/gapweave/gapweave/ColumnType" "INT32" "Lcom/example/gapweave/gapweave/ColumnType;" (.ref i32) := Sta.start v_i32 (Or.inr ⟨(wd hw 18 rfl), (wd hw 38 rfl)⟩)
  have E_i32 : Exa s s.heap i32 "com/example/gapweave/gapweave/ColumnType" := Exa.start v_i32 b3
  have F_i32_ordinal : Fld s s.heap i32 "java/lang/Enum" "ordinal" "I" (.int (1 : Int32)) := Fld.start ((fld_at v_i32).symm.trans (eqv_i rfl b5))
  have ne_fS_fA : fS ≠ fA := own_neI F_fS_ordinal F_fA_ordinal (by decide)
  have ne_fM_fA : fM ≠ fA := own_neI F_fM_ordinal F_fA_ordinal (by decide)
  have ne_fM_fS : fM ≠ fS := own_neI F_fM_ordinal F_fS_ordinal (by decide)
  have ne_fX_fA : fX ≠ fA := own_neI F_fX_ordinal F_fA_ordinal (by decide)
  have ne_fX_fS : fX ≠ fS := own_neI F_fX_ordinal F_fS_ordinal (by decide)
  have ne_fX_fM : fX ≠ fM := own_neI F_fX_ordinal F_fM_ordinal (by decide)
  have ne_fC_fA : fC ≠ fA := own_neI F_fC_ordinal F_fA_ordinal (by decide)
  have ne_fC_fS : fC ≠ fS := own_neI F_fC_ordinal F_fS_ordinal (by decide)
  have ne_fC_fM : fC ≠ fM := own_neI F_fC_ordinal F_fM_ordinal (by decide)
  have ne_fC_fX : fC ≠ fX := own_neI F_fC_ordinal F_fX_ordinal (by decide)
  have ne_fF_fA : fF ≠ fA := own_neI F_fF_ordinal F_fA_ordinal (by decide)
  have ne_fF_fS : fF ≠ fS := own_neI F_fF_ordinal F_fS_ordinal (by decide)
  have ne_fF_fM : fF ≠ fM := own_neI F_fF_ordinal F_fM_ordinal (by decide)
  have ne_fF_fX : fF ≠ fX := own_neI F_fF_ordinal F_fX_ordinal (by decide)
  have ne_fL_fA : fL ≠ fA := own_neI F_fL_ordinal F_fA_ordinal (by decide)
  have ne_fL_fS : fL ≠ fS := own_neI F_fL_ordinal F_fS_ordinal (by decide)
  have ne_fL_fM : fL ≠ fM := own_neI F_fL_ordinal F_fM_ordinal (by decide)
  have ne_fL_fX : fL ≠ fX := own_neI F_fL_ordinal F_fX_ordinal (by decide)
  have ne_i64_i32 : i64 ≠ i32 := own_neI F_i64_ordinal F_i32_ordinal (by decide)
  obtain ⟨sm, cS, v_sm, aS, lS, zS⟩ := own_arr (n := 10) rfl b9 b8
  have S__SwitchMap_com_example_gapweave_gapweave_ColumnType : Sta s s.heap "com/example/gapweave/gapweave/AggregateFunction$1" "$SwitchMap$com$example$gapweave$gapweave$ColumnType" "[I" (.ref sm) := Sta.start v_sm (Or.inr ⟨(wd hw 136 rfl), (wd hw 137 rfl)⟩)
  have A_sm : Arl s s.heap sm .int cS.slots.toList := ⟨cS, aS, rfl, by simpa using lS⟩
  have hS2 : cS.slots.toList[2]? = some (.int (2 : Int32)) := by
    have q := own_or (Cond.le_ints (x := 5) (y := 2) rfl rfl) (Cond.all_elim v_sm (aS.fin (Vm.Alike.refl _)) b20 2 (by omega))
    have q2 := eqv_i (y := 2) rfl q
    rw [elem_f (show (Jvm.Term.static "com/example/gapweave/gapweave/AggregateFunction$1" "$SwitchMap$com$example$gapweave$gapweave$ColumnType" "[I").eval _ s none [2] s = some (.ref sm) from v_sm) (j := 2) rfl (aS.fin (Vm.Alike.refl _)) (by decide)] at q2
    rw [Array.getElem?_toList]; exact q2
  obtain ⟨la, cK, hsite, Fn_la, hmade⟩ := siteOf (wd hw 142 rfl) rfl
  obtain ⟨ca, cC, v_ca, aC, lC, zC⟩ := own_arr (n := 256) rfl (Cond.before_iff.mp (hsets _ (List.mem_of_getElem? (i := 4) rfl))) (Cond.before_iff.mp (hsets _ (List.mem_of_getElem? (i := 2) rfl)))
  have S_cache : Sta s s.heap "java/lang/Long$LongCache" "cache" "[Ljava/lang/Long;" (.ref ca) := Sta.start v_ca (Or.inl (hsets _ (List.mem_of_getElem? (i := 1) rfl)))
  have A_ca : Arl s s.heap ca (.object "java/lang/Long") cC.slots.toList := ⟨cC, aC, rfl, by simpa using lC⟩
  obtain ⟨lg0, hC0, E_lg0, F_lg0_value⟩ := own_box v_ca aC lC zC (Cond.before_iff.mp (hsets _ (List.mem_of_getElem? (i := 5) rfl))) (128 : Int32) 128 (by decide) (by decide) (by decide)
  have F_lg0_value : Fld s s.heap lg0 "java/lang/Long" "value" "J" (.long (0 : Int64)) := F_lg0_value
  obtain ⟨lg1, hC1, E_lg1, F_lg1_value⟩ := own_box v_ca aC lC zC (Cond.before_iff.mp (hsets _ (List.mem_of_getElem? (i := 5) rfl))) (129 : Int32) 129 (by decide) (by decide) (by decide)
  have F_lg1_value : Fld s s.heap lg1 "java/lang/Long" "value" "J" (.long (1 : Int64)) := F_lg1_value
  obtain ⟨lg2, hC2, E_lg2, F_lg2_value⟩ := own_box v_ca aC lC zC (Cond.before_iff.mp (hsets _ (List.mem_of_getElem? (i := 5) rfl))) (130 : Int32) 130 (by decide) (by decide) (by decide)
  have F_lg2_value : Fld s s.heap lg2 "java/lang/Long" "value" "J" (.long (2 : Int64)) := F_lg2_value
  obtain ⟨lg3, hC3, E_lg3, F_lg3_value⟩ := own_box v_ca aC lC zC (Cond.before_iff.mp (hsets _ (List.mem_of_getElem? (i := 5) rfl))) (131 : Int32) 131 (by decide) (by decide) (by decide)
  have F_lg3_value : Fld s s.heap lg3 "java/lang/Long" "value" "J" (.long (3 : Int64)) := F_lg3_value
  have ne_lg1_lg3 : lg1 ≠ lg3 := own_neJ F_lg1_value F_lg3_value (by decide)
  have ne_lg1_lg2 : lg1 ≠ lg2 := own_neJ F_lg1_value F_lg2_value (by decide)
  obtain ⟨n, o, h1, h2, h3, _, L, rfl, ⟨rfl, N, -⟩, hq⟩ := own_law l s _ hw tables_1 i0 fA fS fM fX fC fF fL i64 i32 sm la cS.slots.toList cK ca cC.slots.toList lg0 lg1 lg2 lg3 s.heap s.heap.size (Nat.le_refl _) S_AVG S_SUM S_MIN S_MAX S_COUNT S_FIRST_VALUE S_LAST_VALUE E_fA F_fA_ordinal E_fS F_fS_ordinal E_fM F_fM_ordinal E_fX F_fX_ordinal E_fC F_fC_ordinal E_fF F_fF_ordinal E_fL F_fL_ordinal ne_fS_fA ne_fM_fA ne_fM_fS ne_fX_fA ne_fX_fS ne_fX_fM ne_fC_fA ne_fC_fS ne_fC_fM ne_fC_fX ne_fF_fA ne_fF_fS ne_fF_fM ne_fF_fX ne_fL_fA ne_fL_fS ne_fL_fM ne_fL_fX S_INT64 S_INT32 ne_i64_i32 E_i64 F_i64_ordinal S__SwitchMap_com_example_gapweave_gapweave_ColumnType A_sm hS2 hsite hmade Fn_la S_cache A_ca hC0 hC1 hC2 hC3 E_lg0 F_lg0_value E_lg1 F_lg1_value E_lg2 F_lg2_value E_lg3 F_lg3_value ne_lg1_lg3 ne_lg1_lg2 p e ha hc hk s m _ below hf ((Spec.applies_iff_loose hf).mp happ).1 ⟨rfl, State.WarmedH.refl s, rfl⟩ trivial
  refine ⟨n, _, h1, h2, h3, hpost _ _ _ _ _ _ ⟨Cond.after_iff.mpr rfl, Cond.after_iff.mpr (eq_i res_at (Term.int_eval (1)) rfl), trivial⟩ ⟨hq.1, hq.2.1, (hq.2.2.sift fun y hy => Or.inr (N y hy)).mono (by decide) (by decide)⟩⟩
theorem main_1_1 : Claimed_1_1 := comes_1 fun _ _ _ _ _ _ h hF => ⟨h.1, own_fw hF⟩
theorem main_1_2 : Claimed_1_2 := comes_1 fun _ _ _ _ _ _ h hF => ⟨h.2.1, own_fw hF⟩
end Jvm.Pilot.@@N@@
namespace Jvm.Pilot.@@N@@
open Jvm Jvm.ClassFile Sem Op Lib Jvm.Free Jvm.Stand Jvm.Pilot.@@N@@.Jvm.D
/-! MADE BY PROGRAM (witnessworld.py) out of the Statement's table words and the real class files: 30 classes; the members and pool entries that the words name. The judged class is class 1, her method 1. -/
namespace start1
open Jvm.ClassFile
def u (s : String) : CpInfo := .utf8 (stringToUtf16 s)
/-- a pool by its gaps: so many unusable entries, then the entry; so many at the end -/
def gap : Nat → List CpInfo → List CpInfo
  | 0, r => r
  | n + 1, r => .unusable :: gap n r
def poolList (es : List (Nat × CpInfo)) (last : Nat) : List CpInfo := es.foldr (fun e r => gap e.1 (e.2 :: r)) (gap last [])
def pool (es : List (Nat × CpInfo)) (last : Nat) : Array CpInfo := ⟨poolList es last⟩
def fileOf (pool : Array CpInfo) (this : Nat) (attrs : Array Attribute := #[]) (ms : Array MethodInfo := #[]) (fl : Nat := 33) (sup : Nat := 0) (ifs : Array Nat := #[]) (fds : Array FieldInfo := #[]) : ClassFile where
  minorVersion := 0
  majorVersion := 65
  constantPool := pool
  accessFlags := fl
  thisClass := this
  superClass := sup
  interfaces := ifs
  fields := fds
  methods := ms
  attributes := attrs
def plain (name : String) (sup : Option ClassId) : Class where
  name := name
  kind := .ordinary
  loader := none
  accessFlags := 33
  super := sup
  interfaces := #[]
  cf := none
  fields := #[]
  methods := #[]
  instanceTypes := #[]
  staticTypes := #[]
  resolved := #[]
  callSites := []
  init := .initialized
  statics := none
  mirror := none

def pool0 : Array CpInfo := pool [(5, u "<init>"), (0, u "()V"), (1, .class_ 10), (1, u "java/lang/Object")] 113

def k0c0 : Code := { maxStack := 0, maxLocals := 1, code := object_method_1_code, exceptionTable := #[], attributes := #[] }
def k0m0 : Method := { name := "<init>", desc := "()V", sig := { parameters := [], returnType := none }, accessFlags := 1, code := some k0c0 }
/-- java/lang/Object -/
def k0 : Class := { plain "java/lang/Object" none with
  accessFlags := 33
  interfaces := #[]
  cf := some (fileOf pool0 8 #[] #[{ accessFlags := 1, nameIndex := 5, descriptorIndex := 6, attributes := #[] }] 33 0 #[] #[])
  fields := #[]
  methods := #[k0m0]
  instanceTypes := #[]
  staticTypes := #[]
  resolved := Array.replicate 124 none
  statics := none }

def pool1 : Array CpInfo := pool [(2, .class_ 4), (1, u "java/lang/Object"), (0, u "<init>"), (0, u "()V"), (0, .integer 2147483647), (0, .methodref 9 10), (0, .class_ 11), (0, .nameAndType 12 13), (0, u "com/example/gapweave/gapweave/AggregateFunctionReadsValuesPinLaw"), (0, u "pick"), (0, u "(I)Lcom/example/gapweave/gapweave/AggregateFunction;"), (0, .methodref 15 16), (0, .class_ 17), (0, .nameAndType 18 19), (0, u "java/lang/Long"), (0, u "valueOf"), (0, u "(J)Ljava/lang/Long;"), (0, .long 2), (1, .fieldref 23 24), (0, .class_ 25), (0, .nameAndType 26 27), (0, u "com/example/gapweave/gapweave/ColumnType"), (0, u "INT64"), (0, u "Lcom/example/gapweave/gapweave/ColumnType;"), (0, .methodref 29 30), (0, .class_ 31), (0, .nameAndType 32 33), (0, u "com/example/gapweave/gapweave/AggregateFunction"), (0, u "start"), (0, u "(Lcom/example/gapweave/gapweave/ColumnType;)Lcom/example/gapweave/gapweave/AggregateFunction$Accumulator;"), (0, .interfaceMethodref 35 36), (0, .class_ 37), (0, .nameAndType 38 39), (0, u "com/example/gapweave/gapweave/AggregateFunction$Accumulator"), (0, u "add"), (0, u "(Ljava/lang/Object;Ljava/lang/Object;)V"), (0, .interfaceMethodref 35 41), (0, .nameAndType 42 43), (0, u "result"), (0, u "()Ljava/lang/Object;"), (0, .methodref 9 45), (0, .nameAndType 46 47), (0, u "same"), (0, u "(Ljava/lang/Object;Ljava/lang/Object;)Z"), (0, .methodref 29 49), (0, .nameAndType 50 51), (0, u "readsValues"), (0, u "()Z"), (0, .fieldref 29 53), (0, .nameAndType 54 55), (0, u "AVG"), (0, u "Lcom/example/gapweave/gapweave/AggregateFunction;"), (0, .fieldref 29 57), (0, .nameAndType 58 55), (0, u "SUM"), (0, .fieldref 29 60), (0, .nameAndType 61 55), (0, u "MIN"), (0, .fieldref 29 63), (0, .nameAndType 64 55), (0, u "MAX"), (0, .fieldref 29 66), (0, .nameAndType 67 55), (0, u "COUNT"), (0, .fieldref 29 69), (0, .nameAndType 70 55), (0, u "FIRST_VALUE"), (0, .fieldref 29 72), (0, .nameAndType 73 55), (0, u "LAST_VALUE"), (0, .methodref 15 75), (0, .nameAndType 76 77), (0, u "longValue"), (0, u "()J"), (0, .class_ 79), (0, u "java/lang/Double"), (0, .methodref 78 81), (0, .nameAndType 82 83), (0, u "doubleValue"), (0, u "()D"), (2, u "law"), (0, u "(I)Z")] 5

def k1m0 : Method := { name := "<init>", desc := "()V", sig := { parameters := [], returnType := none }, accessFlags := 1, code := none }
def k1c1 : Code := { maxStack := 3, maxLocals := 11, code := code, exceptionTable := #[], attributes := #[] }
def k1m1 : Method := { name := "law", desc := "(I)Z", sig := { parameters := [.int], returnType := some .boolean }, accessFlags := 9, code := some k1c1 }
def k1c2 : Code := { maxStack := 2, maxLocals := 1, code := method_3_code, exceptionTable := #[], attributes := #[] }
def k1m2 : Method := { name := "pick", desc := "(I)Lcom/example/gapweave/gapweave/AggregateFunction;", sig := { parameters := [.int], returnType := some (.object "com/example/gapweave/gapweave/AggregateFunction") }, accessFlags := 10, code := some k1c2 }
def k1c3 : Code := { maxStack := 4, maxLocals := 2, code := method_4_code, exceptionTable := #[], attributes := #[] }
def k1m3 : Method := { name := "same", desc := "(Ljava/lang/Object;Ljava/lang/Object;)Z", sig := { parameters := [(.object "java/lang/Object"), (.object "java/lang/Object")], returnType := some .boolean }, accessFlags := 10, code := some k1c3 }
/-- com/example/gapweave/gapweave/AggregateFunctionReadsValuesPinLaw -/
def k1 : Class := { plain "com/example/gapweave/gapweave/AggregateFunctionReadsValuesPinLaw" (some 0) with
  accessFlags := 49
  interfaces := #[]
  cf := some (fileOf pool1 9 #[] #[{ accessFlags := 1, nameIndex := 5, descriptorIndex := 6, attributes := #[] }, { accessFlags := 9, nameIndex := 86, descriptorIndex := 87, attributes := #[] }, { accessFlags := 10, nameIndex := 12, descriptorIndex := 13, attributes := #[] }, { accessFlags := 10, nameIndex := 46, descriptorIndex := 47, attributes := #[] }] 49 2 #[] #[])
  fields := #[]
  methods := #[k1m0, k1m1, k1m2, k1m3]
  instanceTypes := #[]
  staticTypes := #[]
  resolved := Array.replicate 93 none
  statics := none }

def pool2 : Array CpInfo := pool [(1, .class_ 2), (0, u "java/lang/constant/Constable"), (0, .class_ 4), (0, u "java/lang/Object")] 6

/-- java/lang/constant/Constable -/
def k2 : Class := { plain "java/lang/constant/Constable" (some 0) with
  accessFlags := 1537
  interfaces := #[]
  cf := some (fileOf pool2 1 #[] #[] 1537 3 #[] #[])
  fields := #[]
  methods := #[]
  instanceTypes := #[]
  staticTypes := #[]
  resolved := Array.replicate 11 none
  statics := none }

def pool3 : Array CpInfo := pool [(1, .class_ 2), (0, u "java/lang/Comparable"), (0, .class_ 4), (0, u "java/lang/Object")] 7

/-- java/lang/Comparable -/
def k3 : Class := { plain "java/lang/Comparable" (some 0) with
  accessFlags := 1537
  interfaces := #[]
  cf := some (fileOf pool3 1 #[] #[] 1537 3 #[] #[])
  fields := #[]
  methods := #[]
  instanceTypes := #[]
  staticTypes := #[]
  resolved := Array.replicate 12 none
  statics := none }

def pool4 : Array CpInfo := pool [(1, .class_ 2), (0, u "java/io/Serializable"), (0, .class_ 4), (0, u "java/lang/Object")] 2

/-- java/io/Serializable -/
def k4 : Class := { plain "java/io/Serializable" (some 0) with
  accessFlags := 1537
  interfaces := #[]
  cf := some (fileOf pool4 1 #[] #[] 1537 3 #[] #[])
  fields := #[]
  methods := #[]
  instanceTypes := #[]
  staticTypes := #[]
  resolved := Array.replicate 7 none
  statics := none }

def pool5 : Array CpInfo := pool [(2, .class_ 4), (1, u "java/lang/Enum"), (0, u "name"), (0, u "Ljava/lang/String;"), (0, .fieldref 2 8), (0, .nameAndType 9 10), (0, u "ordinal"), (0, u "I"), (1, .class_ 14), (1, u "java/lang/Object"), (4, u "hash"), (86, .class_ 108), (1, u "java/lang/Enum$EnumDesc"), (2, .class_ 112), (0, u "java/lang/constant/Constable"), (0, .class_ 114), (0, u "java/lang/Comparable"), (0, .class_ 116), (0, u "java/io/Serializable"), (9, u "()I")] 77

def k5c0 : Code := { maxStack := 1, maxLocals := 1, code := jdk_37_method_2_code, exceptionTable := #[], attributes := #[] }
def k5m0 : Method := { name := "ordinal", desc := "()I", sig := { parameters := [], returnType := some .int }, accessFlags := 17, code := some k5c0 }
/-- java/lang/Enum -/
def k5 : Class := { plain "java/lang/Enum" (some 0) with
  accessFlags := 1057
  interfaces := #[2, 3, 4]
  cf := some (fileOf pool5 2 #[.nestMembers #[106]] #[{ accessFlags := 17, nameIndex := 9, descriptorIndex := 126, attributes := #[] }] 1057 12 #[111, 113, 115] #[{ accessFlags := 18, nameIndex := 5, descriptorIndex := 6, attributes := #[] }, { accessFlags := 18, nameIndex := 9, descriptorIndex := 10, attributes := #[] }, { accessFlags := 2, nameIndex := 19, descriptorIndex := 10, attributes := #[] }])
  fields := #[{ name := "name", type := (.object "java/lang/String"), accessFlags := 18, slot := 0, constantValue := 0 }, { name := "ordinal", type := .int, accessFlags := 18, slot := 1, constantValue := 0 }, { name := "hash", type := .int, accessFlags := 2, slot := 2, constantValue := 0 }]
  methods := #[k5m0]
  instanceTypes := #[(.object "java/lang/String"), .int, .int]
  staticTypes := #[]
  resolved := Array.replicate 204 none
  statics := none }

def pool6 : Array CpInfo := pool [(1, .class_ 2), (0, u "com/example/gapweave/gapweave/AggregateFunction"), (0, .fieldref 1 4), (0, .nameAndType 5 6), (0, u "AVG"), (0, u "Lcom/example/gapweave/gapweave/AggregateFunction;"), (0, .fieldref 1 8), (0, .nameAndType 9 6), (0, u "SUM"), (0, .fieldref 1 11), (0, .nameAndType 12 6), (0, u "MIN"), (0, .fieldref 1 14), (0, .nameAndType 15 6), (0, u "MAX"), (2, u "COUNT"), (2, u "FIRST_VALUE"), (2, u "LAST_VALUE"), (2, u "$VALUES"), (0, u "[Lcom/example/gapweave/gapweave/AggregateFunction;"), (6, .class_ 37), (1, u "java/lang/Enum"), (4, u "<init>"), (42, .methodref 1 86), (0, .nameAndType 87 88), (0, u "ordinal"), (0, u "()I"), (7, u "NUMBERS"), (0, u "Ljava/util/Set;"), (2, u "ORDERED"), (0, .class_ 102), (0, u "com/example/gapweave/gapweave/ColumnType"), (31, u "Lcom/example/gapweave/gapweave/ColumnType;"), (0, .methodref 1 136), (0, .nameAndType 137 138), (0, u "isIntegral"), (0, u "(Lcom/example/gapweave/gapweave/ColumnType;)Z"), (0, .fieldref 101 140), (0, .nameAndType 141 134), (0, u "INT64"), (0, .class_ 143), (0, u "com/example/gapweave/gapweave/AggregateFunction$IntegerMean"), (0, .methodref 142 145), (0, .nameAndType 42 146), (0, u "()V"), (0, .class_ 148), (0, u "com/example/gapweave/gapweave/AggregateFunction$DecimalMean"), (1, .class_ 151), (0, u "com/example/gapweave/gapweave/AggregateFunction$IntegerSum"), (0, .methodref 150 145), (0, .class_ 154), (0, u "com/example/gapweave/gapweave/AggregateFunction$DecimalSum"), (1, .class_ 157), (0, u "com/example/gapweave/gapweave/AggregateFunction$Extreme"), (0, .methodref 1 159), (0, .nameAndType 160 161), (0, u "order"), (0, u "(Lcom/example/gapweave/gapweave/ColumnType;)Ljava/util/Comparator;"), (0, .methodref 156 163), (0, .nameAndType 42 164), (0, u "(Ljava/util/Comparator;I)V"), (0, .class_ 166), (0, u "com/example/gapweave/gapweave/AggregateFunction$Count"), (0, .methodref 165 145), (0, .class_ 169), (0, u "com/example/gapweave/gapweave/AggregateFunction$First"), (0, .methodref 168 145), (0, .class_ 172), (0, u "com/example/gapweave/gapweave/AggregateFunction$Last"), (0, .methodref 171 145), (0, .fieldref 101 175), (0, .nameAndType 176 134), (0, u "INT32"), (12, u "()Z"), (4, .fieldref 195 196), (0, .class_ 197), (0, .nameAndType 198 199), (0, u "com/example/gapweave/gapweave/AggregateFunction$1"), (0, u "$SwitchMap$com$example$gapweave$gapweave$ColumnType"), (0, u "[I"), (0, .methodref 101 86), (0, .invokeDynamic 2 202), (0, .nameAndType 203 204), (0, u "compare"), (0, u "()Ljava/util/Comparator;"), (23, .class_ 229), (0, u "java/lang/Number"), (9, .methodref 228 240), (0, .nameAndType 241 242), (0, u "longValue"), (0, u "()J"), (0, .methodref 244 245), (0, .class_ 246), (0, .nameAndType 203 247), (0, u "java/lang/Long"), (0, u "(JJ)I"), (37, u "readsValues"), (0, u "start"), (0, u "(Lcom/example/gapweave/gapweave/ColumnType;)Lcom/example/gapweave/gapweave/AggregateFunction$Accumulator;"), (0, .class_ 289), (0, u "com/example/gapweave/gapweave/AggregateFunction$Accumulator"), (7, u "(Ljava/lang/Object;Ljava/lang/Object;)I"), (2, u "lambda$order$0"), (10, .methodType 297), (0, .methodHandle 6 313), (0, .methodref 1 314), (0, .nameAndType 300 297), (17, .methodHandle 6 333), (0, .methodref 334 335), (0, .class_ 336), (0, .nameAndType 337 338), (0, u "java/lang/invoke/LambdaMetafactory"), (0, u "metafactory"), (0, u "(Ljava/lang/invoke/MethodHandles$Lookup;Ljava/lang/String;Ljava/lang/invoke/MethodType;Ljava/lang/invoke/MethodType;Ljava/lang/invoke/MethodHandle;Ljava/lang/invoke/MethodType;)Ljava/lang/invoke/CallSite;")] 15

def k6c0 : Code := { maxStack := 2, maxLocals := 1, code := prog_1_method_7_code, exceptionTable := #[], attributes := #[] }
def k6m0 : Method := { name := "readsValues", desc := "()Z", sig := { parameters := [], returnType := some .boolean }, accessFlags := 0, code := some k6c0 }
def k6c1 : Code := { maxStack := 4, maxLocals := 2, code := prog_1_method_8_code, exceptionTable := #[], attributes := #[] }
def k6m1 : Method := { name := "start", desc := "(Lcom/example/gapweave/gapweave/ColumnType;)Lcom/example/gapweave/gapweave/AggregateFunction$Accumulator;", sig := { parameters := [(.object "com/example/gapweave/gapweave/ColumnType")], returnType := some (.object "com/example/gapweave/gapweave/AggregateFunction$Accumulator") }, accessFlags := 0, code := some k6c1 }
def k6c2 : Code := { maxStack := 2, maxLocals := 1, code := prog_1_method_9_code, exceptionTable := #[], attributes := #[] }
def k6m2 : Method := { name := "isIntegral", desc := "(Lcom/example/gapweave/gapweave/ColumnType;)Z", sig := { parameters := [(.object "com/example/gapweave/gapweave/ColumnType")], returnType := some .boolean }, accessFlags := 10, code := some k6c2 }
def k6c3 : Code := { maxStack := 3, maxLocals := 1, code := prog_1_method_11_code, exceptionTable := #[], attributes := #[] }
def k6m3 : Method := { name := "order", desc := "(Lcom/example/gapweave/gapweave/ColumnType;)Ljava/util/Comparator;", sig := { parameters := [(.object "com/example/gapweave/gapweave/ColumnType")], returnType := some (.object "java/util/Comparator") }, accessFlags := 10, code := some k6c3 }
def k6c4 : Code := { maxStack := 4, maxLocals := 2, code := prog_1_method_15_code, exceptionTable := #[], attributes := #[] }
def k6m4 : Method := { name := "lambda$order$0", desc := "(Ljava/lang/Object;Ljava/lang/Object;)I", sig := { parameters := [(.object "java/lang/Object"), (.object "java/lang/Object")], returnType := some .int }, accessFlags := 4106, code := some k6c4 }
/-- com/example/gapweave/gapweave/AggregateFunction -/
def k6 : Class := { plain "com/example/gapweave/gapweave/AggregateFunction" (some 5) with
  accessFlags := 16432
  interfaces := #[]
  cf := some (fileOf pool6 1 #[.nestMembers #[195, 142, 147, 153, 150, 156, 171, 168, 165, 288], .bootstrapMethods #[⟨0, #[]⟩, ⟨0, #[]⟩, ⟨332, #[311, 312, 311]⟩, ⟨0, #[]⟩, ⟨0, #[]⟩, ⟨0, #[]⟩, ⟨0, #[]⟩]] #[{ accessFlags := 0, nameIndex := 285, descriptorIndex := 189, attributes := #[] }, { accessFlags := 0, nameIndex := 286, descriptorIndex := 287, attributes := #[] }, { accessFlags := 10, nameIndex := 137, descriptorIndex := 138, attributes := #[] }, { accessFlags := 10, nameIndex := 160, descriptorIndex := 161, attributes := #[] }, { accessFlags := 4106, nameIndex := 300, descriptorIndex := 297, attributes := #[] }] 16432 35 #[] #[{ accessFlags := 16409, nameIndex := 5, descriptorIndex := 6, attributes := #[] }, { accessFlags := 16409, nameIndex := 9, descriptorIndex := 6, attributes := #[] }, { accessFlags := 16409, nameIndex := 12, descriptorIndex := 6, attributes := #[] }, { accessFlags := 16409, nameIndex := 15, descriptorIndex := 6, attributes := #[] }, { accessFlags := 16409, nameIndex := 18, descriptorIndex := 6, attributes := #[] }, { accessFlags := 16409, nameIndex := 21, descriptorIndex := 6, attributes := #[] }, { accessFlags := 16409, nameIndex := 24, descriptorIndex := 6, attributes := #[] }, { accessFlags := 26, nameIndex := 96, descriptorIndex := 97, attributes := #[] }, { accessFlags := 26, nameIndex := 100, descriptorIndex := 97, attributes := #[] }, { accessFlags := 4122, nameIndex := 27, descriptorIndex := 28, attributes := #[] }])
  fields := #[{ name := "AVG", type := (.object "com/example/gapweave/gapweave/AggregateFunction"), accessFlags := 16409, slot := 0, constantValue := 0 }, { name := "SUM", type := (.object "com/example/gapweave/gapweave/AggregateFunction"), accessFlags := 16409, slot := 1, constantValue := 0 }, { name := "MIN", type := (.object "com/example/gapweave/gapweave/AggregateFunction"), accessFlags := 16409, slot := 2, constantValue := 0 }, { name := "MAX", type := (.object "com/example/gapweave/gapweave/AggregateFunction"), accessFlags := 16409, slot := 3, constantValue := 0 }, { name := "COUNT", type := (.object "com/example/gapweave/gapweave/AggregateFunction"), accessFlags := 16409, slot := 4, constantValue := 0 }, { name := "FIRST_VALUE", type := (.object "com/example/gapweave/gapweave/AggregateFunction"), accessFlags := 16409, slot := 5, constantValue := 0 }, { name := "LAST_VALUE", type := (.object "com/example/gapweave/gapweave/AggregateFunction"), accessFlags := 16409, slot := 6, constantValue := 0 }, { name := "NUMBERS", type := (.object "java/util/Set"), accessFlags := 26, slot := 7, constantValue := 0 }, { name := "ORDERED", type := (.object "java/util/Set"), accessFlags := 26, slot := 8, constantValue := 0 }, { name := "$VALUES", type := (.array (.object "com/example/gapweave/gapweave/AggregateFunction")), accessFlags := 4122, slot := 9, constantValue := 0 }]
  methods := #[k6m0, k6m1, k6m2, k6m3, k6m4]
  instanceTypes := #[(.object "java/lang/String"), .int, .int]
  staticTypes := #[(.object "com/example/gapweave/gapweave/AggregateFunction"), (.object "com/example/gapweave/gapweave/AggregateFunction"), (.object "com/example/gapweave/gapweave/AggregateFunction"), (.object "com/example/gapweave/gapweave/AggregateFunction"), (.object "com/example/gapweave/gapweave/AggregateFunction"), (.object "com/example/gapweave/gapweave/AggregateFunction"), (.object "com/example/gapweave/gapweave/AggregateFunction"), (.object "java/util/Set"), (.object "java/util/Set"), (.array (.object "com/example/gapweave/gapweave/AggregateFunction"))]
  resolved := ((((((((((Array.replicate 354 none |>.setIfInBounds 142 (some (.cls 13))) |>.setIfInBounds 144 (some (.method ⟨13, 0⟩))) |>.setIfInBounds 150 (some (.cls 22))) |>.setIfInBounds 152 (some (.method ⟨22, 0⟩))) |>.setIfInBounds 165 (some (.cls 21))) |>.setIfInBounds 167 (some (.method ⟨21, 0⟩))) |>.setIfInBounds 168 (some (.cls 19))) |>.setIfInBounds 170 (some (.method ⟨19, 0⟩))) |>.setIfInBounds 171 (some (.cls 20))) |>.setIfInBounds 173 (some (.method ⟨20, 0⟩)))
  callSites := [(3, 48, .constant 4)]
  statics := some 0 }

def pool7 : Array CpInfo := pool [(1, .methodref 2 3), (0, .class_ 4), (0, .nameAndType 5 6), (0, u "java/lang/Object"), (0, u "<init>"), (0, u "()V"), (1, .class_ 10), (1, u "java/lang/Number"), (2, .class_ 14), (0, u "java/io/Serializable"), (0, u "serialVersionUID"), (0, u "J"), (8, u "longValue"), (0, u "()J")] 10

def k7c0 : Code := { maxStack := 1, maxLocals := 1, code := jdk_18_method_1_code, exceptionTable := #[], attributes := #[] }
def k7m0 : Method := { name := "<init>", desc := "()V", sig := { parameters := [], returnType := none }, accessFlags := 1, code := some k7c0 }
def k7m1 : Method := { name := "longValue", desc := "()J", sig := { parameters := [], returnType := some .long }, accessFlags := 1025, code := none }
/-- java/lang/Number -/
def k7 : Class := { plain "java/lang/Number" (some 0) with
  accessFlags := 1057
  interfaces := #[4]
  cf := some (fileOf pool7 8 #[] #[{ accessFlags := 1, nameIndex := 5, descriptorIndex := 6, attributes := #[] }, { accessFlags := 1025, nameIndex := 25, descriptorIndex := 26, attributes := #[] }] 1057 2 #[13] #[{ accessFlags := 26, nameIndex := 15, descriptorIndex := 16, attributes := #[] }])
  fields := #[{ name := "serialVersionUID", type := .long, accessFlags := 26, slot := 0, constantValue := 0 }]
  methods := #[k7m0, k7m1]
  instanceTypes := #[]
  staticTypes := #[.long]
  resolved := Array.replicate 37 none
  statics := none }

def pool8 : Array CpInfo := pool [(1, .class_ 2), (0, u "java/lang/constant/ConstantDesc"), (0, .class_ 4), (0, u "java/lang/Object")] 32

/-- java/lang/constant/ConstantDesc -/
def k8 : Class := { plain "java/lang/constant/ConstantDesc" (some 0) with
  accessFlags := 1537
  interfaces := #[]
  cf := some (fileOf pool8 1 #[] #[] 1537 3 #[] #[])
  fields := #[]
  methods := #[]
  instanceTypes := #[]
  staticTypes := #[]
  resolved := Array.replicate 37 none
  statics := none }

def pool9 : Array CpInfo := pool [(1, .class_ 2), (0, u "java/lang/Long"), (82, u "valueOf"), (143, u "(J)Ljava/lang/Long;"), (0, .long 18446744073709551488), (1, .long 127), (1, .fieldref 235 236), (0, .class_ 237), (0, .nameAndType 238 239), (0, u "java/lang/Long$LongCache"), (0, u "cache"), (0, u "[Ljava/lang/Long;"), (31, .class_ 272), (0, u "java/lang/Number"), (0, .fieldref 1 274), (0, .nameAndType 275 276), (0, u "value"), (0, u "J"), (5, u "longValue"), (0, u "()J"), (20, u "compare"), (0, u "(JJ)I"), (55, u "TYPE"), (0, u "Ljava/lang/Class;"), (0, .class_ 364), (0, u "java/lang/Comparable"), (0, .class_ 366), (0, u "java/lang/constant/Constable"), (0, .class_ 368), (0, u "java/lang/constant/ConstantDesc"), (0, u "MIN_VALUE"), (1, u "MAX_VALUE"), (4, u "SIZE"), (0, u "I"), (1, u "BYTES"), (1, u "serialVersionUID")] 142

def k9c0 : Code := { maxStack := 4, maxLocals := 3, code := jdk_35_method_24_code, exceptionTable := #[], attributes := #[] }
def k9m0 : Method := { name := "valueOf", desc := "(J)Ljava/lang/Long;", sig := { parameters := [.long], returnType := some (.object "java/lang/Long") }, accessFlags := 9, code := some k9c0 }
def k9c1 : Code := { maxStack := 2, maxLocals := 1, code := jdk_35_method_31_code, exceptionTable := #[], attributes := #[] }
def k9m1 : Method := { name := "longValue", desc := "()J", sig := { parameters := [], returnType := some .long }, accessFlags := 1, code := some k9c1 }
def k9c2 : Code := { maxStack := 4, maxLocals := 4, code := jdk_35_method_42_code, exceptionTable := #[], attributes := #[] }
def k9m2 : Method := { name := "compare", desc := "(JJ)I", sig := { parameters := [.long, .long], returnType := some .int }, accessFlags := 9, code := some k9c2 }
/-- java/lang/Long -/
def k9 : Class := { plain "java/lang/Long" (some 7) with
  accessFlags := 49
  interfaces := #[3, 2, 8]
  cf := some (fileOf pool9 1 #[.nestMembers #[235]] #[{ accessFlags := 9, nameIndex := 85, descriptorIndex := 229, attributes := #[] }, { accessFlags := 1, nameIndex := 282, descriptorIndex := 283, attributes := #[] }, { accessFlags := 9, nameIndex := 304, descriptorIndex := 305, attributes := #[] }] 49 271 #[363, 365, 367] #[{ accessFlags := 25, nameIndex := 369, descriptorIndex := 276, attributes := #[] }, { accessFlags := 25, nameIndex := 371, descriptorIndex := 276, attributes := #[] }, { accessFlags := 25, nameIndex := 361, descriptorIndex := 362, attributes := #[] }, { accessFlags := 18, nameIndex := 275, descriptorIndex := 276, attributes := #[] }, { accessFlags := 25, nameIndex := 376, descriptorIndex := 377, attributes := #[] }, { accessFlags := 25, nameIndex := 379, descriptorIndex := 377, attributes := #[] }, { accessFlags := 26, nameIndex := 381, descriptorIndex := 276, attributes := #[] }])
  fields := #[{ name := "MIN_VALUE", type := .long, accessFlags := 25, slot := 0, constantValue := 0 }, { name := "MAX_VALUE", type := .long, accessFlags := 25, slot := 1, constantValue := 0 }, { name := "TYPE", type := (.object "java/lang/Class"), accessFlags := 25, slot := 2, constantValue := 0 }, { name := "value", type := .long, accessFlags := 18, slot := 0, constantValue := 0 }, { name := "SIZE", type := .int, accessFlags := 25, slot := 3, constantValue := 0 }, { name := "BYTES", type := .int, accessFlags := 25, slot := 4, constantValue := 0 }, { name := "serialVersionUID", type := .long, accessFlags := 26, slot := 5, constantValue := 0 }]
  methods := #[k9m0, k9m1, k9m2]
  instanceTypes := #[.long]
  staticTypes := #[.long, .long, (.object "java/lang/Class"), .int, .int, .long]
  resolved := Array.replicate 524 none
  statics := none }

def pool10 : Array CpInfo := pool [(2, .class_ 4), (1, u "java/lang/Object"), (0, u "<init>"), (0, u "()V"), (0, .class_ 8), (0, u "java/lang/Long"), (7, .class_ 18), (1, u "java/lang/Long$LongCache"), (0, u "$assertionsDisabled"), (0, u "Z"), (8, u "archivedCache"), (0, u "[Ljava/lang/Long;"), (7, u "cache")] 24

def k10m0 : Method := { name := "<init>", desc := "()V", sig := { parameters := [], returnType := none }, accessFlags := 2, code := none }
/-- java/lang/Long$LongCache -/
def k10 : Class := { plain "java/lang/Long$LongCache" (some 0) with
  accessFlags := 48
  interfaces := #[]
  cf := some (fileOf pool10 16 #[.nestHost 7] #[{ accessFlags := 2, nameIndex := 5, descriptorIndex := 6, attributes := #[] }] 48 2 #[] #[{ accessFlags := 24, nameIndex := 38, descriptorIndex := 30, attributes := #[] }, { accessFlags := 8, nameIndex := 29, descriptorIndex := 30, attributes := #[] }, { accessFlags := 4120, nameIndex := 19, descriptorIndex := 20, attributes := #[] }])
  fields := #[{ name := "cache", type := (.array (.object "java/lang/Long")), accessFlags := 24, slot := 0, constantValue := 0 }, { name := "archivedCache", type := (.array (.object "java/lang/Long")), accessFlags := 8, slot := 1, constantValue := 0 }, { name := "$assertionsDisabled", type := .boolean, accessFlags := 4120, slot := 2, constantValue := 0 }]
  methods := #[k10m0]
  instanceTypes := #[]
  staticTypes := #[(.array (.object "java/lang/Long")), (.array (.object "java/lang/Long")), .boolean]
  resolved := Array.replicate 63 none
  statics := some 1 }

def pool11 : Array CpInfo := pool [(1, .class_ 2), (0, u "com/example/gapweave/gapweave/ColumnType"), (2, u "BOOLEAN"), (0, u "Lcom/example/gapweave/gapweave/ColumnType;"), (2, u "INT32"), (2, u "INT64"), (2, u "FLOAT"), (2, u "DOUBLE"), (2, u "TEXT"), (2, u "STRING"), (2, u "BLOB"), (2, u "TIMESTAMP"), (2, u "DATE"), (2, u "$VALUES"), (0, u "[Lcom/example/gapweave/gapweave/ColumnType;"), (6, .class_ 46), (1, u "java/lang/Enum"), (14, u "valueClasses"), (0, u "Ljava/util/List;")] 175

/-- com/example/gapweave/gapweave/ColumnType -/
def k11 : Class := { plain "com/example/gapweave/gapweave/ColumnType" (some 5) with
  accessFlags := 16433
  interfaces := #[]
  cf := some (fileOf pool11 1 #[] #[] 16433 44 #[] #[{ accessFlags := 16409, nameIndex := 5, descriptorIndex := 6, attributes := #[] }, { accessFlags := 16409, nameIndex := 9, descriptorIndex := 6, attributes := #[] }, { accessFlags := 16409, nameIndex := 12, descriptorIndex := 6, attributes := #[] }, { accessFlags := 16409, nameIndex := 15, descriptorIndex := 6, attributes := #[] }, { accessFlags := 16409, nameIndex := 18, descriptorIndex := 6, attributes := #[] }, { accessFlags := 16409, nameIndex := 21, descriptorIndex := 6, attributes := #[] }, { accessFlags := 16409, nameIndex := 24, descriptorIndex := 6, attributes := #[] }, { accessFlags := 16409, nameIndex := 27, descriptorIndex := 6, attributes := #[] }, { accessFlags := 16409, nameIndex := 30, descriptorIndex := 6, attributes := #[] }, { accessFlags := 16409, nameIndex := 33, descriptorIndex := 6, attributes := #[] }, { accessFlags := 18, nameIndex := 61, descriptorIndex := 62, attributes := #[] }, { accessFlags := 4122, nameIndex := 36, descriptorIndex := 37, attributes := #[] }])
  fields := #[{ name := "BOOLEAN", type := (.object "com/example/gapweave/gapweave/ColumnType"), accessFlags := 16409, slot := 0, constantValue := 0 }, { name := "INT32", type := (.object "com/example/gapweave/gapweave/ColumnType"), accessFlags := 16409, slot := 1, constantValue := 0 }, { name := "INT64", type := (.object "com/example/gapweave/gapweave/ColumnType"), accessFlags := 16409, slot := 2, constantValue := 0 }, { name := "FLOAT", type := (.object "com/example/gapweave/gapweave/ColumnType"), accessFlags := 16409, slot := 3, constantValue := 0 }, { name := "DOUBLE", type := (.object "com/example/gapweave/gapweave/ColumnType"), accessFlags := 16409, slot := 4, constantValue := 0 }, { name := "TEXT", type := (.object "com/example/gapweave/gapweave/ColumnType"), accessFlags := 16409, slot := 5, constantValue := 0 }, { name := "STRING", type := (.object "com/example/gapweave/gapweave/ColumnType"), accessFlags := 16409, slot := 6, constantValue := 0 }, { name := "BLOB", type := (.object "com/example/gapweave/gapweave/ColumnType"), accessFlags := 16409, slot := 7, constantValue := 0 }, { name := "TIMESTAMP", type := (.object "com/example/gapweave/gapweave/ColumnType"), accessFlags := 16409, slot := 8, constantValue := 0 }, { name := "DATE", type := (.object "com/example/gapweave/gapweave/ColumnType"), accessFlags := 16409, slot := 9, constantValue := 0 }, { name := "valueClasses", type := (.object "java/util/List"), accessFlags := 18, slot := 3, constantValue := 0 }, { name := "$VALUES", type := (.array (.object "com/example/gapweave/gapweave/ColumnType")), accessFlags := 4122, slot := 10, constantValue := 0 }]
  methods := #[]
  instanceTypes := #[(.object "java/lang/String"), .int, .int, (.object "java/util/List")]
  staticTypes := #[(.object "com/example/gapweave/gapweave/ColumnType"), (.object "com/example/gapweave/gapweave/ColumnType"), (.object "com/example/gapweave/gapweave/ColumnType"), (.object "com/example/gapweave/gapweave/ColumnType"), (.object "com/example/gapweave/gapweave/ColumnType"), (.object "com/example/gapweave/gapweave/ColumnType"), (.object "com/example/gapweave/gapweave/ColumnType"), (.object "com/example/gapweave/gapweave/ColumnType"), (.object "com/example/gapweave/gapweave/ColumnType"), (.object "com/example/gapweave/gapweave/ColumnType"), (.array (.object "com/example/gapweave/gapweave/ColumnType"))]
  resolved := Array.replicate 238 none
  statics := some 2 }

def pool12 : Array CpInfo := pool [(1, .class_ 2), (0, u "com/example/gapweave/gapweave/AggregateFunction$Accumulator"), (0, .class_ 4), (0, u "java/lang/Object"), (0, u "add"), (0, u "(Ljava/lang/Object;Ljava/lang/Object;)V"), (0, u "result"), (0, u "()Ljava/lang/Object;"), (3, .class_ 13), (0, u "com/example/gapweave/gapweave/AggregateFunction")] 2

def k12m0 : Method := { name := "add", desc := "(Ljava/lang/Object;Ljava/lang/Object;)V", sig := { parameters := [(.object "java/lang/Object"), (.object "java/lang/Object")], returnType := none }, accessFlags := 1025, code := none }
def k12m1 : Method := { name := "result", desc := "()Ljava/lang/Object;", sig := { parameters := [], returnType := some (.object "java/lang/Object") }, accessFlags := 1025, code := none }
/-- com/example/gapweave/gapweave/AggregateFunction$Accumulator -/
def k12 : Class := { plain "com/example/gapweave/gapweave/AggregateFunction$Accumulator" (some 0) with
  accessFlags := 1536
  interfaces := #[]
  cf := some (fileOf pool12 1 #[.nestHost 12] #[{ accessFlags := 1025, nameIndex := 5, descriptorIndex := 6, attributes := #[] }, { accessFlags := 1025, nameIndex := 7, descriptorIndex := 8, attributes := #[] }] 1536 3 #[] #[])
  fields := #[]
  methods := #[k12m0, k12m1]
  instanceTypes := #[]
  staticTypes := #[]
  resolved := Array.replicate 16 none
  statics := none }

def pool13 : Array CpInfo := pool [(1, .methodref 2 3), (0, .class_ 4), (0, .nameAndType 5 6), (0, u "java/lang/Object"), (0, u "<init>"), (0, u "()V"), (0, .class_ 8), (0, u "java/lang/Number"), (0, .methodref 7 10), (0, .nameAndType 11 12), (0, u "longValue"), (0, u "()J"), (0, .fieldref 14 15), (0, .class_ 16), (0, .nameAndType 17 18), (0, u "com/example/gapweave/gapweave/AggregateFunction$IntegerMean"), (0, u "count"), (0, u "J"), (0, .fieldref 14 20), (0, .nameAndType 21 22), (0, u "bigSum"), (0, u "Ljava/math/BigInteger;"), (0, .fieldref 14 24), (0, .nameAndType 25 18), (0, u "sum"), (0, .methodref 27 28), (0, .class_ 29), (0, .nameAndType 30 31), (0, u "java/lang/Math"), (0, u "addExact"), (0, u "(JJ)J"), (6, u "valueOf"), (3, u "add"), (1, .methodref 27 45), (0, .nameAndType 46 47), (0, u "abs"), (0, u "(J)J"), (0, .long 9007199254740992), (1, .methodref 51 52), (0, .class_ 53), (0, .nameAndType 38 54), (0, u "java/lang/Double"), (0, u "(D)Ljava/lang/Double;"), (22, .class_ 78), (0, u "com/example/gapweave/gapweave/AggregateFunction$Accumulator"), (0, u "EXACT_IN_DOUBLE"), (3, u "(Ljava/lang/Object;Ljava/lang/Object;)V"), (1, u "result"), (0, u "()Ljava/lang/Object;"), (3, .class_ 91), (0, u "com/example/gapweave/gapweave/AggregateFunction")] 3

def k13c0 : Code := { maxStack := 1, maxLocals := 1, code := prog_9_method_1_code, exceptionTable := #[], attributes := #[] }
def k13m0 : Method := { name := "<init>", desc := "()V", sig := { parameters := [], returnType := none }, accessFlags := 2, code := some k13c0 }
def k13c1 : Code := { maxStack := 5, maxLocals := 6, code := prog_9_method_2_code, exceptionTable := #[{ startPc := 25, endPc := 37, handlerPc := 38, catchType := 32 }], attributes := #[] }
def k13m1 : Method := { name := "add", desc := "(Ljava/lang/Object;Ljava/lang/Object;)V", sig := { parameters := [(.object "java/lang/Object"), (.object "java/lang/Object")], returnType := none }, accessFlags := 1, code := some k13c1 }
def k13c2 : Code := { maxStack := 4, maxLocals := 2, code := prog_9_method_3_code, exceptionTable := #[], attributes := #[] }
def k13m2 : Method := { name := "result", desc := "()Ljava/lang/Object;", sig := { parameters := [], returnType := some (.object "java/lang/Object") }, accessFlags := 1, code := some k13c2 }
/-- com/example/gapweave/gapweave/AggregateFunction$IntegerMean -/
def k13 : Class := { plain "com/example/gapweave/gapweave/AggregateFunction$IntegerMean" (some 0) with
  accessFlags := 48
  interfaces := #[12]
  cf := some (fileOf pool13 14 #[.nestHost 90] #[{ accessFlags := 2, nameIndex := 5, descriptorIndex := 6, attributes := #[] }, { accessFlags := 1, nameIndex := 42, descriptorIndex := 83, attributes := #[] }, { accessFlags := 1, nameIndex := 85, descriptorIndex := 86, attributes := #[] }] 48 2 #[77] #[{ accessFlags := 26, nameIndex := 79, descriptorIndex := 18, attributes := #[] }, { accessFlags := 2, nameIndex := 25, descriptorIndex := 18, attributes := #[] }, { accessFlags := 2, nameIndex := 21, descriptorIndex := 22, attributes := #[] }, { accessFlags := 2, nameIndex := 17, descriptorIndex := 18, attributes := #[] }])
  fields := #[{ name := "EXACT_IN_DOUBLE", type := .long, accessFlags := 26, slot := 0, constantValue := 0 }, { name := "sum", type := .long, accessFlags := 2, slot := 0, constantValue := 0 }, { name := "bigSum", type := (.object "java/math/BigInteger"), accessFlags := 2, slot := 1, constantValue := 0 }, { name := "count", type := .long, accessFlags := 2, slot := 2, constantValue := 0 }]
  methods := #[k13m0, k13m1, k13m2]
  instanceTypes := #[.long, (.object "java/math/BigInteger"), .long]
  staticTypes := #[.long]
  resolved := Array.replicate 95 none
  statics := none }

def pool14 : Array CpInfo := pool [(1, .class_ 2), (0, u "java/lang/Math"), (1, .class_ 6), (1, u "java/lang/Object"), (0, u "<init>"), (0, u "()V"), (89, .class_ 100), (1, u "java/lang/Math$RandomNumberGeneratorHolder"), (20, u "(JJ)J"), (2, u "abs"), (0, u "(J)J"), (46, u "negativeZeroFloatBits"), (0, u "J"), (2, u "negativeZeroDoubleBits"), (68, u "$assertionsDisabled"), (0, u "Z"), (91, u "twoToTheDoubleScaleDown"), (0, u "D"), (4, u "twoToTheDoubleScaleUp"), (9, u "E"), (3, u "PI"), (2, u "TAU"), (2, u "DEGREES_TO_RADIANS"), (0, u "RADIANS_TO_DEGREES"), (27, u "addExact")] 66

def k14m0 : Method := { name := "<init>", desc := "()V", sig := { parameters := [], returnType := none }, accessFlags := 2, code := none }
def k14c1 : Code := { maxStack := 6, maxLocals := 6, code := jdk_29_method_25_code, exceptionTable := #[], attributes := #[] }
def k14m1 : Method := { name := "addExact", desc := "(JJ)J", sig := { parameters := [.long, .long], returnType := some .long }, accessFlags := 9, code := some k14c1 }
def k14c2 : Code := { maxStack := 4, maxLocals := 2, code := jdk_29_method_61_code, exceptionTable := #[], attributes := #[] }
def k14m2 : Method := { name := "abs", desc := "(J)J", sig := { parameters := [.long], returnType := some .long }, accessFlags := 9, code := some k14c2 }
/-- java/lang/Math -/
def k14 : Class := { plain "java/lang/Math" (some 0) with
  accessFlags := 49
  interfaces := #[]
  cf := some (fileOf pool14 1 #[.nestMembers #[98]] #[{ accessFlags := 2, nameIndex := 7, descriptorIndex := 8, attributes := #[] }, { accessFlags := 9, nameIndex := 393, descriptorIndex := 121, attributes := #[] }, { accessFlags := 9, nameIndex := 124, descriptorIndex := 125, attributes := #[] }] 49 4 #[] #[{ accessFlags := 25, nameIndex := 354, descriptorIndex := 339, attributes := #[] }, { accessFlags := 25, nameIndex := 358, descriptorIndex := 339, attributes := #[] }, { accessFlags := 25, nameIndex := 361, descriptorIndex := 339, attributes := #[] }, { accessFlags := 26, nameIndex := 364, descriptorIndex := 339, attributes := #[] }, { accessFlags := 26, nameIndex := 365, descriptorIndex := 339, attributes := #[] }, { accessFlags := 26, nameIndex := 172, descriptorIndex := 173, attributes := #[] }, { accessFlags := 26, nameIndex := 176, descriptorIndex := 173, attributes := #[] }, { accessFlags := 8, nameIndex := 344, descriptorIndex := 339, attributes := #[] }, { accessFlags := 8, nameIndex := 338, descriptorIndex := 339, attributes := #[] }, { accessFlags := 4120, nameIndex := 245, descriptorIndex := 246, attributes := #[] }])
  fields := #[{ name := "E", type := .double, accessFlags := 25, slot := 0, constantValue := 0 }, { name := "PI", type := .double, accessFlags := 25, slot := 1, constantValue := 0 }, { name := "TAU", type := .double, accessFlags := 25, slot := 2, constantValue := 0 }, { name := "DEGREES_TO_RADIANS", type := .double, accessFlags := 26, slot := 3, constantValue := 0 }, { name := "RADIANS_TO_DEGREES", type := .double, accessFlags := 26, slot := 4, constantValue := 0 }, { name := "negativeZeroFloatBits", type := .long, accessFlags := 26, slot := 5, constantValue := 0 }, { name := "negativeZeroDoubleBits", type := .long, accessFlags := 26, slot := 6, constantValue := 0 }, { name := "twoToTheDoubleScaleUp", type := .double, accessFlags := 8, slot := 7, constantValue := 0 }, { name := "twoToTheDoubleScaleDown", type := .double, accessFlags := 8, slot := 8, constantValue := 0 }, { name := "$assertionsDisabled", type := .boolean, accessFlags := 4120, slot := 9, constantValue := 0 }]
  methods := #[k14m0, k14m1, k14m2]
  instanceTypes := #[]
  staticTypes := #[.double, .double, .double, .double, .double, .long, .long, .double, .double, .boolean]
  resolved := Array.replicate 460 none
  statics := none }

def pool15 : Array CpInfo := pool [(1, .class_ 2), (0, u "java/lang/Double"), (17, u "<init>"), (84, .methodref 1 106), (0, .nameAndType 20 107), (0, u "(D)V"), (5, .methodref 114 115), (0, .class_ 116), (0, .nameAndType 20 117), (0, u "java/lang/Number"), (0, u "()V"), (0, .fieldref 1 119), (0, .nameAndType 120 121), (0, u "value"), (0, u "D"), (51, u "TYPE"), (0, u "Ljava/lang/Class;"), (0, .class_ 176), (0, u "java/lang/Comparable"), (0, .class_ 178), (0, u "java/lang/constant/Constable"), (0, .class_ 180), (0, u "java/lang/constant/ConstantDesc"), (0, u "POSITIVE_INFINITY"), (3, u "NEGATIVE_INFINITY"), (2, u "NaN"), (2, u "MAX_VALUE"), (0, u "MIN_NORMAL"), (0, u "MIN_VALUE"), (2, u "SIZE"), (0, u "I"), (1, u "PRECISION"), (1, u "MAX_EXPONENT"), (1, u "MIN_EXPONENT"), (1, u "BYTES"), (3, u "serialVersionUID"), (0, u "J"), (14, u "valueOf"), (5, u "(D)Ljava/lang/Double;"), (23, u "doubleValue"), (0, u "()D")] 33

def k15c0 : Code := { maxStack := 4, maxLocals := 2, code := jdk_117_method_4_code, exceptionTable := #[], attributes := #[] }
def k15m0 : Method := { name := "valueOf", desc := "(D)Ljava/lang/Double;", sig := { parameters := [.double], returnType := some (.object "java/lang/Double") }, accessFlags := 9, code := some k15c0 }
def k15c1 : Code := { maxStack := 3, maxLocals := 3, code := jdk_117_method_9_code, exceptionTable := #[], attributes := #[] }
def k15m1 : Method := { name := "<init>", desc := "(D)V", sig := { parameters := [.double], returnType := none }, accessFlags := 1, code := some k15c1 }
def k15c2 : Code := { maxStack := 2, maxLocals := 1, code := jdk_117_method_19_code, exceptionTable := #[], attributes := #[] }
def k15m2 : Method := { name := "doubleValue", desc := "()D", sig := { parameters := [], returnType := some .double }, accessFlags := 1, code := some k15c2 }
/-- java/lang/Double -/
def k15 : Class := { plain "java/lang/Double" (some 7) with
  accessFlags := 49
  interfaces := #[3, 2, 8]
  cf := some (fileOf pool15 1 #[] #[{ accessFlags := 9, nameIndex := 225, descriptorIndex := 231, attributes := #[] }, { accessFlags := 1, nameIndex := 20, descriptorIndex := 107, attributes := #[] }, { accessFlags := 1, nameIndex := 255, descriptorIndex := 256, attributes := #[] }] 49 114 #[175, 177, 179] #[{ accessFlags := 25, nameIndex := 181, descriptorIndex := 121, attributes := #[] }, { accessFlags := 25, nameIndex := 185, descriptorIndex := 121, attributes := #[] }, { accessFlags := 25, nameIndex := 188, descriptorIndex := 121, attributes := #[] }, { accessFlags := 25, nameIndex := 191, descriptorIndex := 121, attributes := #[] }, { accessFlags := 25, nameIndex := 192, descriptorIndex := 121, attributes := #[] }, { accessFlags := 25, nameIndex := 193, descriptorIndex := 121, attributes := #[] }, { accessFlags := 25, nameIndex := 196, descriptorIndex := 197, attributes := #[] }, { accessFlags := 25, nameIndex := 199, descriptorIndex := 197, attributes := #[] }, { accessFlags := 25, nameIndex := 201, descriptorIndex := 197, attributes := #[] }, { accessFlags := 25, nameIndex := 203, descriptorIndex := 197, attributes := #[] }, { accessFlags := 25, nameIndex := 205, descriptorIndex := 197, attributes := #[] }, { accessFlags := 25, nameIndex := 173, descriptorIndex := 174, attributes := #[] }, { accessFlags := 18, nameIndex := 120, descriptorIndex := 121, attributes := #[] }, { accessFlags := 26, nameIndex := 209, descriptorIndex := 210, attributes := #[] }])
  fields := #[{ name := "POSITIVE_INFINITY", type := .double, accessFlags := 25, slot := 0, constantValue := 0 }, { name := "NEGATIVE_INFINITY", type := .double, accessFlags := 25, slot := 1, constantValue := 0 }, { name := "NaN", type := .double, accessFlags := 25, slot := 2, constantValue := 0 }, { name := "MAX_VALUE", type := .double, accessFlags := 25, slot := 3, constantValue := 0 }, { name := "MIN_NORMAL", type := .double, accessFlags := 25, slot := 4, constantValue := 0 }, { name := "MIN_VALUE", type := .double, accessFlags := 25, slot := 5, constantValue := 0 }, { name := "SIZE", type := .int, accessFlags := 25, slot := 6, constantValue := 0 }, { name := "PRECISION", type := .int, accessFlags := 25, slot := 7, constantValue := 0 }, { name := "MAX_EXPONENT", type := .int, accessFlags := 25, slot := 8, constantValue := 0 }, { name := "MIN_EXPONENT", type := .int, accessFlags := 25, slot := 9, constantValue := 0 }, { name := "BYTES", type := .int, accessFlags := 25, slot := 10, constantValue := 0 }, { name := "TYPE", type := (.object "java/lang/Class"), accessFlags := 25, slot := 11, constantValue := 0 }, { name := "value", type := .double, accessFlags := 18, slot := 0, constantValue := 0 }, { name := "serialVersionUID", type := .long, accessFlags := 26, slot := 12, constantValue := 0 }]
  methods := #[k15m0, k15m1, k15m2]
  instanceTypes := #[.double]
  staticTypes := #[.double, .double, .double, .double, .double, .double, .int, .int, .int, .int, .int, (.object "java/lang/Class"), .long]
  resolved := Array.replicate 290 none
  statics := none }

def pool16 : Array CpInfo := pool [(1, .methodref 2 3), (0, .class_ 4), (0, .nameAndType 5 6), (0, u "java/lang/Object"), (0, u "<init>"), (0, u "()V"), (0, .fieldref 8 9), (0, .class_ 10), (0, .nameAndType 11 12), (0, u "com/example/gapweave/gapweave/AggregateFunction$Extreme"), (0, u "order"), (0, u "Ljava/util/Comparator;"), (0, .fieldref 8 14), (0, .nameAndType 15 16), (0, u "sign"), (0, u "I"), (0, .fieldref 8 18), (0, .nameAndType 19 20), (0, u "cell"), (0, u "Ljava/lang/Object;"), (0, .fieldref 8 22), (0, .nameAndType 23 20), (0, u "value"), (0, .interfaceMethodref 25 26), (0, .class_ 27), (0, .nameAndType 28 29), (0, u "java/util/Comparator"), (0, u "compare"), (0, u "(Ljava/lang/Object;Ljava/lang/Object;)I"), (0, .class_ 31), (0, u "com/example/gapweave/gapweave/AggregateFunction$Accumulator"), (2, u "(Ljava/util/Comparator;I)V"), (3, u "add"), (0, u "(Ljava/lang/Object;Ljava/lang/Object;)V"), (1, u "result"), (0, u "()Ljava/lang/Object;"), (3, .class_ 47), (0, u "com/example/gapweave/gapweave/AggregateFunction")] 3

def k16c0 : Code := { maxStack := 2, maxLocals := 3, code := prog_7_method_1_code, exceptionTable := #[], attributes := #[] }
def k16m0 : Method := { name := "<init>", desc := "(Ljava/util/Comparator;I)V", sig := { parameters := [(.object "java/util/Comparator"), .int], returnType := none }, accessFlags := 0, code := some k16c0 }
def k16c1 : Code := { maxStack := 4, maxLocals := 3, code := prog_7_method_2_code, exceptionTable := #[], attributes := #[] }
def k16m1 : Method := { name := "add", desc := "(Ljava/lang/Object;Ljava/lang/Object;)V", sig := { parameters := [(.object "java/lang/Object"), (.object "java/lang/Object")], returnType := none }, accessFlags := 1, code := some k16c1 }
def k16c2 : Code := { maxStack := 1, maxLocals := 1, code := prog_7_method_3_code, exceptionTable := #[], attributes := #[] }
def k16m2 : Method := { name := "result", desc := "()Ljava/lang/Object;", sig := { parameters := [], returnType := some (.object "java/lang/Object") }, accessFlags := 1, code := some k16c2 }
/-- com/example/gapweave/gapweave/AggregateFunction$Extreme -/
def k16 : Class := { plain "com/example/gapweave/gapweave/AggregateFunction$Extreme" (some 0) with
  accessFlags := 48
  interfaces := #[12]
  cf := some (fileOf pool16 8 #[.nestHost 46] #[{ accessFlags := 0, nameIndex := 5, descriptorIndex := 34, attributes := #[] }, { accessFlags := 1, nameIndex := 38, descriptorIndex := 39, attributes := #[] }, { accessFlags := 1, nameIndex := 41, descriptorIndex := 42, attributes := #[] }] 48 2 #[30] #[{ accessFlags := 18, nameIndex := 11, descriptorIndex := 12, attributes := #[] }, { accessFlags := 18, nameIndex := 15, descriptorIndex := 16, attributes := #[] }, { accessFlags := 2, nameIndex := 19, descriptorIndex := 20, attributes := #[] }, { accessFlags := 2, nameIndex := 23, descriptorIndex := 20, attributes := #[] }])
  fields := #[{ name := "order", type := (.object "java/util/Comparator"), accessFlags := 18, slot := 0, constantValue := 0 }, { name := "sign", type := .int, accessFlags := 18, slot := 1, constantValue := 0 }, { name := "cell", type := (.object "java/lang/Object"), accessFlags := 2, slot := 2, constantValue := 0 }, { name := "value", type := (.object "java/lang/Object"), accessFlags := 2, slot := 3, constantValue := 0 }]
  methods := #[k16m0, k16m1, k16m2]
  instanceTypes := #[(.object "java/util/Comparator"), .int, (.object "java/lang/Object"), (.object "java/lang/Object")]
  staticTypes := #[]
  resolved := Array.replicate 51 none
  statics := none }

def pool17 : Array CpInfo := pool [(8, .class_ 10), (1, u "com/example/gapweave/gapweave/AggregateFunction$1"), (0, u "$SwitchMap$com$example$gapweave$gapweave$ColumnType"), (0, u "[I"), (25, .class_ 39), (0, u "java/lang/Object"), (8, .class_ 49), (0, u "com/example/gapweave/gapweave/AggregateFunction")] 2

/-- com/example/gapweave/gapweave/AggregateFunction$1 -/
def k17 : Class := { plain "com/example/gapweave/gapweave/AggregateFunction$1" (some 0) with
  accessFlags := 4128
  interfaces := #[]
  cf := some (fileOf pool17 8 #[.nestHost 48] #[] 4128 38 #[] #[{ accessFlags := 4120, nameIndex := 11, descriptorIndex := 12, attributes := #[] }])
  fields := #[{ name := "$SwitchMap$com$example$gapweave$gapweave$ColumnType", type := (.array .int), accessFlags := 4120, slot := 0, constantValue := 0 }]
  methods := #[]
  instanceTypes := #[]
  staticTypes := #[(.array .int)]
  resolved := Array.replicate 52 none
  statics := some 3 }

def pool18 : Array CpInfo := pool [(15, u "compare"), (3, .class_ 20), (0, u "java/util/Comparator"), (84, .class_ 106), (0, u "java/lang/Object"), (8, u "(Ljava/lang/Object;Ljava/lang/Object;)I")] 172

def k18m0 : Method := { name := "compare", desc := "(Ljava/lang/Object;Ljava/lang/Object;)I", sig := { parameters := [(.object "java/lang/Object"), (.object "java/lang/Object")], returnType := some .int }, accessFlags := 1025, code := none }
/-- java/util/Comparator -/
def k18 : Class := { plain "java/util/Comparator" (some 0) with
  accessFlags := 1537
  interfaces := #[]
  cf := some (fileOf pool18 19 #[] #[{ accessFlags := 1025, nameIndex := 15, descriptorIndex := 115, attributes := #[] }] 1537 105 #[] #[])
  fields := #[]
  methods := #[k18m0]
  instanceTypes := #[]
  staticTypes := #[]
  resolved := Array.replicate 288 none
  statics := none }

def pool19 : Array CpInfo := pool [(1, .methodref 2 3), (0, .class_ 4), (0, .nameAndType 5 6), (0, u "java/lang/Object"), (0, u "<init>"), (0, u "()V"), (0, .fieldref 8 9), (0, .class_ 10), (0, .nameAndType 11 12), (0, u "com/example/gapweave/gapweave/AggregateFunction$First"), (0, u "first"), (0, u "Ljava/lang/Object;"), (0, .class_ 14), (0, u "com/example/gapweave/gapweave/AggregateFunction$Accumulator"), (2, u "add"), (0, u "(Ljava/lang/Object;Ljava/lang/Object;)V"), (1, u "result"), (0, u "()Ljava/lang/Object;"), (3, .class_ 26), (0, u "com/example/gapweave/gapweave/AggregateFunction")] 3

def k19c0 : Code := { maxStack := 1, maxLocals := 1, code := prog_8_method_1_code, exceptionTable := #[], attributes := #[] }
def k19m0 : Method := { name := "<init>", desc := "()V", sig := { parameters := [], returnType := none }, accessFlags := 2, code := some k19c0 }
def k19c1 : Code := { maxStack := 2, maxLocals := 3, code := prog_8_method_2_code, exceptionTable := #[], attributes := #[] }
def k19m1 : Method := { name := "add", desc := "(Ljava/lang/Object;Ljava/lang/Object;)V", sig := { parameters := [(.object "java/lang/Object"), (.object "java/lang/Object")], returnType := none }, accessFlags := 1, code := some k19c1 }
def k19c2 : Code := { maxStack := 1, maxLocals := 1, code := prog_8_method_3_code, exceptionTable := #[], attributes := #[] }
def k19m2 : Method := { name := "result", desc := "()Ljava/lang/Object;", sig := { parameters := [], returnType := some (.object "java/lang/Object") }, accessFlags := 1, code := some k19c2 }
/-- com/example/gapweave/gapweave/AggregateFunction$First -/
def k19 : Class := { plain "com/example/gapweave/gapweave/AggregateFunction$First" (some 0) with
  accessFlags := 48
  interfaces := #[12]
  cf := some (fileOf pool19 8 #[.nestHost 25] #[{ accessFlags := 2, nameIndex := 5, descriptorIndex := 6, attributes := #[] }, { accessFlags := 1, nameIndex := 17, descriptorIndex := 18, attributes := #[] }, { accessFlags := 1, nameIndex := 20, descriptorIndex := 21, attributes := #[] }] 48 2 #[13] #[{ accessFlags := 2, nameIndex := 11, descriptorIndex := 12, attributes := #[] }])
  fields := #[{ name := "first", type := (.object "java/lang/Object"), accessFlags := 2, slot := 0, constantValue := 0 }]
  methods := #[k19m0, k19m1, k19m2]
  instanceTypes := #[(.object "java/lang/Object")]
  staticTypes := #[]
  resolved := Array.replicate 30 none
  statics := none }

def pool20 : Array CpInfo := pool [(1, .methodref 2 3), (0, .class_ 4), (0, .nameAndType 5 6), (0, u "java/lang/Object"), (0, u "<init>"), (0, u "()V"), (0, .fieldref 8 9), (0, .class_ 10), (0, .nameAndType 11 12), (0, u "com/example/gapweave/gapweave/AggregateFunction$Last"), (0, u "last"), (0, u "Ljava/lang/Object;"), (0, .class_ 14), (0, u "com/example/gapweave/gapweave/AggregateFunction$Accumulator"), (2, u "add"), (0, u "(Ljava/lang/Object;Ljava/lang/Object;)V"), (0, u "result"), (0, u "()Ljava/lang/Object;"), (3, .class_ 25), (0, u "com/example/gapweave/gapweave/AggregateFunction")] 3

def k20c0 : Code := { maxStack := 1, maxLocals := 1, code := prog_11_method_1_code, exceptionTable := #[], attributes := #[] }
def k20m0 : Method := { name := "<init>", desc := "()V", sig := { parameters := [], returnType := none }, accessFlags := 2, code := some k20c0 }
def k20c1 : Code := { maxStack := 2, maxLocals := 3, code := prog_11_method_2_code, exceptionTable := #[], attributes := #[] }
def k20m1 : Method := { name := "add", desc := "(Ljava/lang/Object;Ljava/lang/Object;)V", sig := { parameters := [(.object "java/lang/Object"), (.object "java/lang/Object")], returnType := none }, accessFlags := 1, code := some k20c1 }
def k20c2 : Code := { maxStack := 1, maxLocals := 1, code := prog_11_method_3_code, exceptionTable := #[], attributes := #[] }
def k20m2 : Method := { name := "result", desc := "()Ljava/lang/Object;", sig := { parameters := [], returnType := some (.object "java/lang/Object") }, accessFlags := 1, code := some k20c2 }
/-- com/example/gapweave/gapweave/AggregateFunction$Last -/
def k20 : Class := { plain "com/example/gapweave/gapweave/AggregateFunction$Last" (some 0) with
  accessFlags := 48
  interfaces := #[12]
  cf := some (fileOf pool20 8 #[.nestHost 24] #[{ accessFlags := 2, nameIndex := 5, descriptorIndex := 6, attributes := #[] }, { accessFlags := 1, nameIndex := 17, descriptorIndex := 18, attributes := #[] }, { accessFlags := 1, nameIndex := 19, descriptorIndex := 20, attributes := #[] }] 48 2 #[13] #[{ accessFlags := 2, nameIndex := 11, descriptorIndex := 12, attributes := #[] }])
  fields := #[{ name := "last", type := (.object "java/lang/Object"), accessFlags := 2, slot := 0, constantValue := 0 }]
  methods := #[k20m0, k20m1, k20m2]
  instanceTypes := #[(.object "java/lang/Object")]
  staticTypes := #[]
  resolved := Array.replicate 29 none
  statics := none }

def pool21 : Array CpInfo := pool [(1, .methodref 2 3), (0, .class_ 4), (0, .nameAndType 5 6), (0, u "java/lang/Object"), (0, u "<init>"), (0, u "()V"), (0, .fieldref 8 9), (0, .class_ 10), (0, .nameAndType 11 12), (0, u "com/example/gapweave/gapweave/AggregateFunction$Count"), (0, u "count"), (0, u "J"), (0, .methodref 14 15), (0, .class_ 16), (0, .nameAndType 17 18), (0, u "java/lang/Long"), (0, u "valueOf"), (0, u "(J)Ljava/lang/Long;"), (0, .class_ 20), (0, u "com/example/gapweave/gapweave/AggregateFunction$Accumulator"), (2, u "add"), (0, u "(Ljava/lang/Object;Ljava/lang/Object;)V"), (0, u "result"), (0, u "()Ljava/lang/Object;"), (3, .class_ 31), (0, u "com/example/gapweave/gapweave/AggregateFunction")] 3

def k21c0 : Code := { maxStack := 1, maxLocals := 1, code := prog_4_method_1_code, exceptionTable := #[], attributes := #[] }
def k21m0 : Method := { name := "<init>", desc := "()V", sig := { parameters := [], returnType := none }, accessFlags := 2, code := some k21c0 }
def k21c1 : Code := { maxStack := 5, maxLocals := 3, code := prog_4_method_2_code, exceptionTable := #[], attributes := #[] }
def k21m1 : Method := { name := "add", desc := "(Ljava/lang/Object;Ljava/lang/Object;)V", sig := { parameters := [(.object "java/lang/Object"), (.object "java/lang/Object")], returnType := none }, accessFlags := 1, code := some k21c1 }
def k21c2 : Code := { maxStack := 2, maxLocals := 1, code := prog_4_method_3_code, exceptionTable := #[], attributes := #[] }
def k21m2 : Method := { name := "result", desc := "()Ljava/lang/Object;", sig := { parameters := [], returnType := some (.object "java/lang/Object") }, accessFlags := 1, code := some k21c2 }
/-- com/example/gapweave/gapweave/AggregateFunction$Count -/
def k21 : Class := { plain "com/example/gapweave/gapweave/AggregateFunction$Count" (some 0) with
  accessFlags := 48
  interfaces := #[12]
  cf := some (fileOf pool21 8 #[.nestHost 30] #[{ accessFlags := 2, nameIndex := 5, descriptorIndex := 6, attributes := #[] }, { accessFlags := 1, nameIndex := 23, descriptorIndex := 24, attributes := #[] }, { accessFlags := 1, nameIndex := 25, descriptorIndex := 26, attributes := #[] }] 48 2 #[19] #[{ accessFlags := 2, nameIndex := 11, descriptorIndex := 12, attributes := #[] }])
  fields := #[{ name := "count", type := .long, accessFlags := 2, slot := 0, constantValue := 0 }]
  methods := #[k21m0, k21m1, k21m2]
  instanceTypes := #[.long]
  staticTypes := #[]
  resolved := Array.replicate 35 none
  statics := none }

def pool22 : Array CpInfo := pool [(1, .methodref 2 3), (0, .class_ 4), (0, .nameAndType 5 6), (0, u "java/lang/Object"), (0, u "<init>"), (0, u "()V"), (0, .fieldref 8 9), (0, .class_ 10), (0, .nameAndType 11 12), (0, u "com/example/gapweave/gapweave/AggregateFunction$IntegerSum"), (0, u "sum"), (0, u "J"), (0, .class_ 14), (0, u "java/lang/Number"), (0, .methodref 13 16), (0, .nameAndType 17 18), (0, u "longValue"), (0, u "()J"), (0, .methodref 20 21), (0, .class_ 22), (0, .nameAndType 23 24), (0, u "java/lang/Math"), (0, u "addExact"), (0, u "(JJ)J"), (0, .fieldref 8 26), (0, .nameAndType 27 28), (0, u "any"), (0, u "Z"), (0, .methodref 30 31), (0, .class_ 32), (0, .nameAndType 33 34), (0, u "java/lang/Long"), (0, u "valueOf"), (0, u "(J)Ljava/lang/Long;"), (0, .class_ 36), (0, u "com/example/gapweave/gapweave/AggregateFunction$Accumulator"), (2, u "add"), (0, u "(Ljava/lang/Object;Ljava/lang/Object;)V"), (0, u "result"), (0, u "()Ljava/lang/Object;"), (4, .class_ 48), (0, u "com/example/gapweave/gapweave/AggregateFunction")] 3

def k22c0 : Code := { maxStack := 1, maxLocals := 1, code := prog_10_method_1_code, exceptionTable := #[], attributes := #[] }
def k22m0 : Method := { name := "<init>", desc := "()V", sig := { parameters := [], returnType := none }, accessFlags := 2, code := some k22c0 }
def k22c1 : Code := { maxStack := 5, maxLocals := 3, code := prog_10_method_2_code, exceptionTable := #[], attributes := #[] }
def k22m1 : Method := { name := "add", desc := "(Ljava/lang/Object;Ljava/lang/Object;)V", sig := { parameters := [(.object "java/lang/Object"), (.object "java/lang/Object")], returnType := none }, accessFlags := 1, code := some k22c1 }
def k22c2 : Code := { maxStack := 2, maxLocals := 1, code := prog_10_method_3_code, exceptionTable := #[], attributes := #[] }
def k22m2 : Method := { name := "result", desc := "()Ljava/lang/Object;", sig := { parameters := [], returnType := some (.object "java/lang/Object") }, accessFlags := 1, code := some k22c2 }
/-- com/example/gapweave/gapweave/AggregateFunction$IntegerSum -/
def k22 : Class := { plain "com/example/gapweave/gapweave/AggregateFunction$IntegerSum" (some 0) with
  accessFlags := 48
  interfaces := #[12]
  cf := some (fileOf pool22 8 #[.nestHost 47] #[{ accessFlags := 2, nameIndex := 5, descriptorIndex := 6, attributes := #[] }, { accessFlags := 1, nameIndex := 39, descriptorIndex := 40, attributes := #[] }, { accessFlags := 1, nameIndex := 41, descriptorIndex := 42, attributes := #[] }] 48 2 #[35] #[{ accessFlags := 2, nameIndex := 11, descriptorIndex := 12, attributes := #[] }, { accessFlags := 2, nameIndex := 27, descriptorIndex := 28, attributes := #[] }])
  fields := #[{ name := "sum", type := .long, accessFlags := 2, slot := 0, constantValue := 0 }, { name := "any", type := .boolean, accessFlags := 2, slot := 1, constantValue := 0 }]
  methods := #[k22m0, k22m1, k22m2]
  instanceTypes := #[.long, .boolean]
  staticTypes := #[]
  resolved := Array.replicate 52 none
  statics := none }

def pool23 : Array CpInfo := pool [(1, u "java/lang/Cloneable"), (0, .class_ 1), (0, u "java/lang/Object"), (0, .class_ 3)] 3

/-- java/lang/Cloneable -/
def k23 : Class := { plain "java/lang/Cloneable" (some 0) with
  accessFlags := 1537
  interfaces := #[]
  cf := some (fileOf pool23 2 #[] #[] 1537 4 #[] #[])
  fields := #[]
  methods := #[]
  instanceTypes := #[]
  staticTypes := #[]
  resolved := Array.replicate 8 none
  statics := none }

/-- the primitive byte -/
def k24 : Class := { plain "byte" none with kind := .primitive 'B', accessFlags := 0x411 }
/-- [B -/
def k25 : Class := { plain "[B" (some 0) with kind := .array 24 .byte, interfaces := #[23, 4], accessFlags := 1041 }

/-- the primitive int -/
def k26 : Class := { plain "int" none with kind := .primitive 'I', accessFlags := 0x411 }
/-- [I -/
def k27 : Class := { plain "[I" (some 0) with kind := .array 26 .int, interfaces := #[23, 4], accessFlags := 1041 }

/-- [Ljava/lang/Long; -/
def k28 : Class := { plain "[Ljava/lang/Long;" (some 0) with kind := .array 9 (.object "java/lang/Long"), interfaces := #[23, 4], accessFlags := 1041 }

def classes0 : Array Class := #[k0, k1, k2, k3, k4, k5, k6, k7, k8, k9, k10, k11, k12, k13, k14, k15, k16, k17, k18, k19, k20, k21, k22, k23, k24, k25, k26, k27, k28]
/-- the class that the rule has made for the site at 48 of com/example/gapweave/gapweave/AggregateFunction.order -/
def k29 : Class := Jvm.LamKit.madeRec { classes := classes0 } "com/example/gapweave/gapweave/AggregateFunction" (Jvm.Lambda.Shape.mk "java/util/Comparator" "compare" (Jvm.ClassFile.MethodDescriptor.mk ([(Jvm.ClassFile.FieldType.object "java/lang/Object"), (Jvm.ClassFile.FieldType.object "java/lang/Object")] : List Jvm.ClassFile.FieldType) (Option.some Jvm.ClassFile.FieldType.int)) ([] : List Jvm.ClassFile.FieldType) (6 : Nat) "com/example/gapweave/gapweave/AggregateFunction" "lambda$order$0" (Jvm.ClassFile.MethodDescriptor.mk ([(Jvm.ClassFile.FieldType.object "java/lang/Object"), (Jvm.ClassFile.FieldType.object "java/lang/Object")] : List Jvm.ClassFile.FieldType) (Option.some Jvm.ClassFile.FieldType.int)) false (Jvm.ClassFile.MethodDescriptor.mk ([(Jvm.ClassFile.FieldType.object "java/lang/Object"), (Jvm.ClassFile.FieldType.object "java/lang/Object")] : List Jvm.ClassFile.FieldType) (Option.some Jvm.ClassFile.FieldType.int))) 29

def heap : Heap := #[{ cls := 6, slots := #[.ref 262, .ref 263, .ref 264, .ref 265, .ref 266, .ref 267, .ref 268, .null, .null, .null], vm := .statics 6 },
  { cls := 10, slots := #[.ref 5, .null, .int 0], vm := .statics 10 },
  { cls := 11, slots := #[.null, .ref 269, .ref 270, .null, .null, .null, .null, .null, .null, .null, .null], vm := .statics 11 },
  { cls := 17, slots := #[.ref 271], vm := .statics 17 },
  { cls := 29, slots := #[], vm := .none },
  { cls := 28, slots := #[.ref 6, .ref 7, .ref 8, .ref 9, .ref 10, .ref 11, .ref 12, .ref 13, .ref 14, .ref 15, .ref 16, .ref 17, .ref 18, .ref 19, .ref 20, .ref 21, .ref 22, .ref 23, .ref 24, .ref 25, .ref 26, .ref 27, .ref 28, .ref 29, .ref 30, .ref 31, .ref 32, .ref 33, .ref 34, .ref 35, .ref 36, .ref 37, .ref 38, .ref 39, .ref 40, .ref 41, .ref 42, .ref 43, .ref 44, .ref 45, .ref 46, .ref 47, .ref 48, .ref 49, .ref 50, .ref 51, .ref 52, .ref 53, .ref 54, .ref 55, .ref 56, .ref 57, .ref 58, .ref 59, .ref 60, .ref 61, .ref 62, .ref 63, .ref 64, .ref 65, .ref 66, .ref 67, .ref 68, .ref 69, .ref 70, .ref 71, .ref 72, .ref 73, .ref 74, .ref 75, .ref 76, .ref 77, .ref 78, .ref 79, .ref 80, .ref 81, .ref 82, .ref 83, .ref 84, .ref 85, .ref 86, .ref 87, .ref 88, .ref 89, .ref 90, .ref 91, .ref 92, .ref 93, .ref 94, .ref 95, .ref 96, .ref 97, .ref 98, .ref 99, .ref 100, .ref 101, .ref 102, .ref 103, .ref 104, .ref 105, .ref 106, .ref 107, .ref 108, .ref 109, .ref 110, .ref 111, .ref 112, .ref 113, .ref 114, .ref 115, .ref 116, .ref 117, .ref 118, .ref 119, .ref 120, .ref 121, .ref 122, .ref 123, .ref 124, .ref 125, .ref 126, .ref 127, .ref 128, .ref 129, .ref 130, .ref 131, .ref 132, .ref 133, .ref 134, .ref 135, .ref 136, .ref 137, .ref 138, .ref 139, .ref 140, .ref 141, .ref 142, .ref 143, .ref 144, .ref 145, .ref 146, .ref 147, .ref 148, .ref 149, .ref 150, .ref 151, .ref 152, .ref 153, .ref 154, .ref 155, .ref 156, .ref 157, .ref 158, .ref 159, .ref 160, .ref 161, .ref 162, .ref 163, .ref 164, .ref 165, .ref 166, .ref 167, .ref 168, .ref 169, .ref 170, .ref 171, .ref 172, .ref 173, .ref 174, .ref 175, .ref 176, .ref 177, .ref 178, .ref 179, .ref 180, .ref 181, .ref 182, .ref 183, .ref 184, .ref 185, .ref 186, .ref 187, .ref 188, .ref 189, .ref 190, .ref 191, .ref 192, .ref 193, .ref 194, .ref 195, .ref 196, .ref 197, .ref 198, .ref 199, .ref 200, .ref 201, .ref 202, .ref 203, .ref 204, .ref 205, .ref 206, .ref 207, .ref 208, .ref 209, .ref 210, .ref 211, .ref 212, .ref 213, .ref 214, .ref 215, .ref 216, .ref 217, .ref 218, .ref 219, .ref 220, .ref 221, .ref 222, .ref 223, .ref 224, .ref 225, .ref 226, .ref 227, .ref 228, .ref 229, .ref 230, .ref 231, .ref 232, .ref 233, .ref 234, .ref 235, .ref 236, .ref 237, .ref 238, .ref 239, .ref 240, .ref 241, .ref 242, .ref 243, .ref 244, .ref 245, .ref 246, .ref 247, .ref 248, .ref 249, .ref 250, .ref 251, .ref 252, .ref 253, .ref 254, .ref 255, .ref 256, .ref 257, .ref 258, .ref 259, .ref 260, .ref 261], vm := .none },
  { cls := 9, slots := #[.long (-128)], vm := .none },
  { cls := 9, slots := #[.long (-127)], vm := .none },
  { cls := 9, slots := #[.long (-126)], vm := .none },
  { cls := 9, slots := #[.long (-125)], vm := .none },
  { cls := 9, slots := #[.long (-124)], vm := .none },
  { cls := 9, slots := #[.long (-123)], vm := .none },
  { cls := 9, slots := #[.long (-122)], vm := .none },
  { cls := 9, slots := #[.long (-121)], vm := .none },
  { cls := 9, slots := #[.long (-120)], vm := .none },
  { cls := 9, slots := #[.long (-119)], vm := .none },
  { cls := 9, slots := #[.long (-118)], vm := .none },
  { cls := 9, slots := #[.long (-117)], vm := .none },
  { cls := 9, slots := #[.long (-116)], vm := .none },
  { cls := 9, slots := #[.long (-115)], vm := .none },
  { cls := 9, slots := #[.long (-114)], vm := .none },
  { cls := 9, slots := #[.long (-113)], vm := .none },
  { cls := 9, slots := #[.long (-112)], vm := .none },
  { cls := 9, slots := #[.long (-111)], vm := .none },
  { cls := 9, slots := #[.long (-110)], vm := .none },
  { cls := 9, slots := #[.long (-109)], vm := .none },
  { cls := 9, slots := #[.long (-108)], vm := .none },
  { cls := 9, slots := #[.long (-107)], vm := .none },
  { cls := 9, slots := #[.long (-106)], vm := .none },
  { cls := 9, slots := #[.long (-105)], vm := .none },
  { cls := 9, slots := #[.long (-104)], vm := .none },
  { cls := 9, slots := #[.long (-103)], vm := .none },
  { cls := 9, slots := #[.long (-102)], vm := .none },
  { cls := 9, slots := #[.long (-101)], vm := .none },
  { cls := 9, slots := #[.long (-100)], vm := .none },
  { cls := 9, slots := #[.long (-99)], vm := .none },
  { cls := 9, slots := #[.long (-98)], vm := .none },
  { cls := 9, slots := #[.long (-97)], vm := .none },
  { cls := 9, slots := #[.long (-96)], vm := .none },
  { cls := 9, slots := #[.long (-95)], vm := .none },
  { cls := 9, slots := #[.long (-94)], vm := .none },
  { cls := 9, slots := #[.long (-93)], vm := .none },
  { cls := 9, slots := #[.long (-92)], vm := .none },
  { cls := 9, slots := #[.long (-91)], vm := .none },
  { cls := 9, slots := #[.long (-90)], vm := .none },
  { cls := 9, slots := #[.long (-89)], vm := .none },
  { cls := 9, slots := #[.long (-88)], vm := .none },
  { cls := 9, slots := #[.long (-87)], vm := .none },
  { cls := 9, slots := #[.long (-86)], vm := .none },
  { cls := 9, slots := #[.long (-85)], vm := .none },
  { cls := 9, slots := #[.long (-84)], vm := .none },
  { cls := 9, slots := #[.long (-83)], vm := .none },
  { cls := 9, slots := #[.long (-82)], vm := .none },
  { cls := 9, slots := #[.long (-81)], vm := .none },
  { cls := 9, slots := #[.long (-80)], vm := .none },
  { cls := 9, slots := #[.long (-79)], vm := .none },
  { cls := 9, slots := #[.long (-78)], vm := .none },
  { cls := 9, slots := #[.long (-77)], vm := .none },
  { cls := 9, slots := #[.long (-76)], vm := .none },
  { cls := 9, slots := #[.long (-75)], vm := .none },
  { cls := 9, slots := #[.long (-74)], vm := .none },
  { cls := 9, slots := #[.long (-73)], vm := .none },
  { cls := 9, slots := #[.long (-72)], vm := .none },
  { cls := 9, slots := #[.long (-71)], vm := .none },
  { cls := 9, slots := #[.long (-70)], vm := .none },
  { cls := 9, slots := #[.long (-69)], vm := .none },
  { cls := 9, slots := #[.long (-68)], vm := .none },
  { cls := 9, slots := #[.long (-67)], vm := .none },
  { cls := 9, slots := #[.long (-66)], vm := .none },
  { cls := 9, slots := #[.long (-65)], vm := .none },
  { cls := 9, slots := #[.long (-64)], vm := .none },
  { cls := 9, slots := #[.long (-63)], vm := .none },
  { cls := 9, slots := #[.long (-62)], vm := .none },
  { cls := 9, slots := #[.long (-61)], vm := .none },
  { cls := 9, slots := #[.long (-60)], vm := .none },
  { cls := 9, slots := #[.long (-59)], vm := .none },
  { cls := 9, slots := #[.long (-58)], vm := .none },
  { cls := 9, slots := #[.long (-57)], vm := .none },
  { cls := 9, slots := #[.long (-56)], vm := .none },
  { cls := 9, slots := #[.long (-55)], vm := .none },
  { cls := 9, slots := #[.long (-54)], vm := .none },
  { cls := 9, slots := #[.long (-53)], vm := .none },
  { cls := 9, slots := #[.long (-52)], vm := .none },
  { cls := 9, slots := #[.long (-51)], vm := .none },
  { cls := 9, slots := #[.long (-50)], vm := .none },
  { cls := 9, slots := #[.long (-49)], vm := .none },
  { cls := 9, slots := #[.long (-48)], vm := .none },
  { cls := 9, slots := #[.long (-47)], vm := .none },
  { cls := 9, slots := #[.long (-46)], vm := .none },
  { cls := 9, slots := #[.long (-45)], vm := .none },
  { cls := 9, slots := #[.long (-44)], vm := .none },
  { cls := 9, slots := #[.long (-43)], vm := .none },
  { cls := 9, slots := #[.long (-42)], vm := .none },
  { cls := 9, slots := #[.long (-41)], vm := .none },
  { cls := 9, slots := #[.long (-40)], vm := .none },
  { cls := 9, slots := #[.long (-39)], vm := .none },
  { cls := 9, slots := #[.long (-38)], vm := .none },
  { cls := 9, slots := #[.long (-37)], vm := .none },
  { cls := 9, slots := #[.long (-36)], vm := .none },
  { cls := 9, slots := #[.long (-35)], vm := .none },
  { cls := 9, slots := #[.long (-34)], vm := .none },
  { cls := 9, slots := #[.long (-33)], vm := .none },
  { cls := 9, slots := #[.long (-32)], vm := .none },
  { cls := 9, slots := #[.long (-31)], vm := .none },
  { cls := 9, slots := #[.long (-30)], vm := .none },
  { cls := 9, slots := #[.long (-29)], vm := .none },
  { cls := 9, slots := #[.long (-28)], vm := .none },
  { cls := 9, slots := #[.long (-27)], vm := .none },
  { cls := 9, slots := #[.long (-26)], vm := .none },
  { cls := 9, slots := #[.long (-25)], vm := .none },
  { cls := 9, slots := #[.long (-24)], vm := .none },
  { cls := 9, slots := #[.long (-23)], vm := .none },
  { cls := 9, slots := #[.long (-22)], vm := .none },
  { cls := 9, slots := #[.long (-21)], vm := .none },
  { cls := 9, slots := #[.long (-20)], vm := .none },
  { cls := 9, slots := #[.long (-19)], vm := .none },
  { cls := 9, slots := #[.long (-18)], vm := .none },
  { cls := 9, slots := #[.long (-17)], vm := .none },
  { cls := 9, slots := #[.long (-16)], vm := .none },
  { cls := 9, slots := #[.long (-15)], vm := .none },
  { cls := 9, slots := #[.long (-14)], vm := .none },
  { cls := 9, slots := #[.long (-13)], vm := .none },
  { cls := 9, slots := #[.long (-12)], vm := .none },
  { cls := 9, slots := #[.long (-11)], vm := .none },
  { cls := 9, slots := #[.long (-10)], vm := .none },
  { cls := 9, slots := #[.long (-9)], vm := .none },
  { cls := 9, slots := #[.long (-8)], vm := .none },
  { cls := 9, slots := #[.long (-7)], vm := .none },
  { cls := 9, slots := #[.long (-6)], vm := .none },
  { cls := 9, slots := #[.long (-5)], vm := .none },
  { cls := 9, slots := #[.long (-4)], vm := .none },
  { cls := 9, slots := #[.long (-3)], vm := .none },
  { cls := 9, slots := #[.long (-2)], vm := .none },
  { cls := 9, slots := #[.long (-1)], vm := .none },
  { cls := 9, slots := #[.long (0)], vm := .none },
  { cls := 9, slots := #[.long (1)], vm := .none },
  { cls := 9, slots := #[.long (2)], vm := .none },
  { cls := 9, slots := #[.long (3)], vm := .none },
  { cls := 9, slots := #[.long (4)], vm := .none },
  { cls := 9, slots := #[.long (5)], vm := .none },
  { cls := 9, slots := #[.long (6)], vm := .none },
  { cls := 9, slots := #[.long (7)], vm := .none },
  { cls := 9, slots := #[.long (8)], vm := .none },
  { cls := 9, slots := #[.long (9)], vm := .none },
  { cls := 9, slots := #[.long (10)], vm := .none },
  { cls := 9, slots := #[.long (11)], vm := .none },
  { cls := 9, slots := #[.long (12)], vm := .none },
  { cls := 9, slots := #[.long (13)], vm := .none },
  { cls := 9, slots := #[.long (14)], vm := .none },
  { cls := 9, slots := #[.long (15)], vm := .none },
  { cls := 9, slots := #[.long (16)], vm := .none },
  { cls := 9, slots := #[.long (17)], vm := .none },
  { cls := 9, slots := #[.long (18)], vm := .none },
  { cls := 9, slots := #[.long (19)], vm := .none },
  { cls := 9, slots := #[.long (20)], vm := .none },
  { cls := 9, slots := #[.long (21)], vm := .none },
  { cls := 9, slots := #[.long (22)], vm := .none },
  { cls := 9, slots := #[.long (23)], vm := .none },
  { cls := 9, slots := #[.long (24)], vm := .none },
  { cls := 9, slots := #[.long (25)], vm := .none },
  { cls := 9, slots := #[.long (26)], vm := .none },
  { cls := 9, slots := #[.long (27)], vm := .none },
  { cls := 9, slots := #[.long (28)], vm := .none },
  { cls := 9, slots := #[.long (29)], vm := .none },
  { cls := 9, slots := #[.long (30)], vm := .none },
  { cls := 9, slots := #[.long (31)], vm := .none },
  { cls := 9, slots := #[.long (32)], vm := .none },
  { cls := 9, slots := #[.long (33)], vm := .none },
  { cls := 9, slots := #[.long (34)], vm := .none },
  { cls := 9, slots := #[.long (35)], vm := .none },
  { cls := 9, slots := #[.long (36)], vm := .none },
  { cls := 9, slots := #[.long (37)], vm := .none },
  { cls := 9, slots := #[.long (38)], vm := .none },
  { cls := 9, slots := #[.long (39)], vm := .none },
  { cls := 9, slots := #[.long (40)], vm := .none },
  { cls := 9, slots := #[.long (41)], vm := .none },
  { cls := 9, slots := #[.long (42)], vm := .none },
  { cls := 9, slots := #[.long (43)], vm := .none },
  { cls := 9, slots := #[.long (44)], vm := .none },
  { cls := 9, slots := #[.long (45)], vm := .none },
  { cls := 9, slots := #[.long (46)], vm := .none },
  { cls := 9, slots := #[.long (47)], vm := .none },
  { cls := 9, slots := #[.long (48)], vm := .none },
  { cls := 9, slots := #[.long (49)], vm := .none },
  { cls := 9, slots := #[.long (50)], vm := .none },
  { cls := 9, slots := #[.long (51)], vm := .none },
  { cls := 9, slots := #[.long (52)], vm := .none },
  { cls := 9, slots := #[.long (53)], vm := .none },
  { cls := 9, slots := #[.long (54)], vm := .none },
  { cls := 9, slots := #[.long (55)], vm := .none },
  { cls := 9, slots := #[.long (56)], vm := .none },
  { cls := 9, slots := #[.long (57)], vm := .none },
  { cls := 9, slots := #[.long (58)], vm := .none },
  { cls := 9, slots := #[.long (59)], vm := .none },
  { cls := 9, slots := #[.long (60)], vm := .none },
  { cls := 9, slots := #[.long (61)], vm := .none },
  { cls := 9, slots := #[.long (62)], vm := .none },
  { cls := 9, slots := #[.long (63)], vm := .none },
  { cls := 9, slots := #[.long (64)], vm := .none },
  { cls := 9, slots := #[.long (65)], vm := .none },
  { cls := 9, slots := #[.long (66)], vm := .none },
  { cls := 9, slots := #[.long (67)], vm := .none },
  { cls := 9, slots := #[.long (68)], vm := .none },
  { cls := 9, slots := #[.long (69)], vm := .none },
  { cls := 9, slots := #[.long (70)], vm := .none },
  { cls := 9, slots := #[.long (71)], vm := .none },
  { cls := 9, slots := #[.long (72)], vm := .none },
  { cls := 9, slots := #[.long (73)], vm := .none },
  { cls := 9, slots := #[.long (74)], vm := .none },
  { cls := 9, slots := #[.long (75)], vm := .none },
  { cls := 9, slots := #[.long (76)], vm := .none },
  { cls := 9, slots := #[.long (77)], vm := .none },
  { cls := 9, slots := #[.long (78)], vm := .none },
  { cls := 9, slots := #[.long (79)], vm := .none },
  { cls := 9, slots := #[.long (80)], vm := .none },
  { cls := 9, slots := #[.long (81)], vm := .none },
  { cls := 9, slots := #[.long (82)], vm := .none },
  { cls := 9, slots := #[.long (83)], vm := .none },
  { cls := 9, slots := #[.long (84)], vm := .none },
  { cls := 9, slots := #[.long (85)], vm := .none },
  { cls := 9, slots := #[.long (86)], vm := .none },
  { cls := 9, slots := #[.long (87)], vm := .none },
  { cls := 9, slots := #[.long (88)], vm := .none },
  { cls := 9, slots := #[.long (89)], vm := .none },
  { cls := 9, slots := #[.long (90)], vm := .none },
  { cls := 9, slots := #[.long (91)], vm := .none },
  { cls := 9, slots := #[.long (92)], vm := .none },
  { cls := 9, slots := #[.long (93)], vm := .none },
  { cls := 9, slots := #[.long (94)], vm := .none },
  { cls := 9, slots := #[.long (95)], vm := .none },
  { cls := 9, slots := #[.long (96)], vm := .none },
  { cls := 9, slots := #[.long (97)], vm := .none },
  { cls := 9, slots := #[.long (98)], vm := .none },
  { cls := 9, slots := #[.long (99)], vm := .none },
  { cls := 9, slots := #[.long (100)], vm := .none },
  { cls := 9, slots := #[.long (101)], vm := .none },
  { cls := 9, slots := #[.long (102)], vm := .none },
  { cls := 9, slots := #[.long (103)], vm := .none },
  { cls := 9, slots := #[.long (104)], vm := .none },
  { cls := 9, slots := #[.long (105)], vm := .none },
  { cls := 9, slots := #[.long (106)], vm := .none },
  { cls := 9, slots := #[.long (107)], vm := .none },
  { cls := 9, slots := #[.long (108)], vm := .none },
  { cls := 9, slots := #[.long (109)], vm := .none },
  { cls := 9, slots := #[.long (110)], vm := .none },
  { cls := 9, slots := #[.long (111)], vm := .none },
  { cls := 9, slots := #[.long (112)], vm := .none },
  { cls := 9, slots := #[.long (113)], vm := .none },
  { cls := 9, slots := #[.long (114)], vm := .none },
  { cls := 9, slots := #[.long (115)], vm := .none },
  { cls := 9, slots := #[.long (116)], vm := .none },
  { cls := 9, slots := #[.long (117)], vm := .none },
  { cls := 9, slots := #[.long (118)], vm := .none },
  { cls := 9, slots := #[.long (119)], vm := .none },
  { cls := 9, slots := #[.long (120)], vm := .none },
  { cls := 9, slots := #[.long (121)], vm := .none },
  { cls := 9, slots := #[.long (122)], vm := .none },
  { cls := 9, slots := #[.long (123)], vm := .none },
  { cls := 9, slots := #[.long (124)], vm := .none },
  { cls := 9, slots := #[.long (125)], vm := .none },
  { cls := 9, slots := #[.long (126)], vm := .none },
  { cls := 9, slots := #[.long (127)], vm := .none },
  { cls := 6, slots := #[.null, .int 0, .int 0], vm := .none },
  { cls := 6, slots := #[.null, .int 1, .int 0], vm := .none },
  { cls := 6, slots := #[.null, .int 2, .int 0], vm := .none },
  { cls := 6, slots := #[.null, .int 3, .int 0], vm := .none },
  { cls := 6, slots := #[.null, .int 4, .int 0], vm := .none },
  { cls := 6, slots := #[.null, .int 5, .int 0], vm := .none },
  { cls := 6, slots := #[.null, .int 6, .int 0], vm := .none },
  { cls := 11, slots := #[.null, .int 1, .int 0, .null], vm := .none },
  { cls := 11, slots := #[.null, .int 2, .int 0, .null], vm := .none },
  { cls := 27, slots := #[.int 0, .int 1, .int 2, .int 3, .int 4, .int 0, .int 0, .int 0, .int 5, .int 6], vm := .none }]
def classes : Array Class := #[k0, k1, k2, k3, k4, k5, k6, k7, k8, k9, k10, k11, k12, k13, k14, k15, k16, k17, k18, k19, k20, k21, k22, k23, k24, k25, k26, k27, k28, k29]
def interned : List (Array UInt16 × Addr) := []
def slotsUsed : Nat := 576
def theMethod : MethodId := ⟨1, 1⟩
def args0 : Array Value := #[.int 0]
def aboutOver (below : List Frame) : State where
  vm := { classes := classes, interned := interned.toArray }
  heap := heap
  slotsUsed := slotsUsed
  threads := #[{ frames := .invoking theMethod args0 :: below }]
def below0 : List Frame := [.native { method := ⟨0, 0⟩, args := #[] }]
def about1 : State := aboutOver below0
def p0 : Program := .bare "" "" ""
def e0 : Env := launch0.env 0 0 0
theorem w_frames : about1.frames = Frame.invoking theMethod args0 :: below0 := rfl
set_option maxRecDepth 65536 in
theorem w_args : argsFit about1.vm theMethod args0 = true := by decide +kernel
set_option maxRecDepth 65536 in
theorem w_heap : heapFits about1 = true := by decide +kernel
set_option maxRecDepth 65536 in
theorem w_runnable : about1.curStatus? = some .runnable := by decide +kernel
set_option maxRecDepth 65536 in
theorem w_alone : about1.alone = true := by decide +kernel
set_option maxRecDepth 65536 in
theorem w_named : about1.methodNamed? x = some theMethod := by decide +kernel
set_option maxRecDepth 65536 in
theorem w_hears : about1.hears theMethod below0 = true := by decide +kernel
set_option maxRecDepth 65536 in
theorem w_ripe : about1.ripe theMethod args0 below0 = true := by decide +kernel
theorem w_running : about1.status = .running := rfl
set_option maxRecDepth 65536 in
theorem w_room : about1.hasRoom e0.platform room_1 = true :=
  launch0.hasRoom_least _ room_1 (by decide +kernel) (by decide +kernel) (by decide +kernel) (by decide +kernel) (by decide +kernel) (by decide +kernel)
theorem allAtoms_all (ts : List Jvm.Cond) (a : Array Jvm.Value) (st : Jvm.State) : (allAtoms ts).before a st = ts.all (fun c => c.before a st) := by
  induction ts with
  | nil => rfl
  | cons c t ih =>
    show (Jvm.Cond.and c (allAtoms t)).before a st = _
    rw [Jvm.Cond.before_and, ih, List.all_cons]
def words1 : List Jvm.Cond := Jvm.Cond.code x code maxLocals ret :: tables_1
/-- a 'code' word, met by the world's own term for the bytes: nothing is compared byte by byte -/
theorem code_word {y : MethodName} {bytes : ByteArray} {mx : Nat} {rt : Option FieldType} {a : Array Value} {s : State} {m : MethodId} {meth : Method} {c : Code} (h1 : s.methodNamed? y = some m) (h2 : s.vm.method? m = some meth) (h3 : meth.code = some c) (h4 : c.code = bytes)
    (h5 : (c.maxLocals == mx && c.exceptionTable.isEmpty && decide (c.maxStack ≤ mostOperands) && decide (meth.sig.returnType = rt) && !meth.locks && decide (parseMethodDescriptor y.desc = some meth.sig)) = true) : (Jvm.Cond.code y bytes mx rt).before a s = true := by
  simp only [Bool.and_eq_true, beq_iff_eq, Bool.not_eq_true', decide_eq_true_eq] at h5
  obtain ⟨⟨⟨⟨⟨g1, g2⟩, g3⟩, g4⟩, g5⟩, g6⟩ := h5
  simp [Cond.before, Cond.holds, Cond.value, h1, h2, h3, h4, g1, g2, g3, g4, g5, g6]
def isCode : Jvm.Cond → Bool
  | .code _ _ _ _ => true
  | _ => false
theorem all_split {L : List Jvm.Cond} {P : Jvm.Cond → Bool} (h1 : L.all (fun c => isCode c || P c) = true) (h2 : ∀ c ∈ L.filter isCode, P c = true) : L.all P = true := by
  refine List.all_eq_true.mpr fun c hc => ?_
  have h := List.all_eq_true.mp h1 c hc
  rcases Bool.eq_false_or_eq_true (isCode c) with hi | hi
  · exact h2 c (List.mem_filter.mpr ⟨hc, hi⟩)
  · simpa [hi] using h
set_option maxRecDepth 65536 in
theorem w_c0 : (Jvm.Cond.code x code maxLocals ret).before args0 about1 = true := code_word (m := ⟨1, 1⟩) (meth := k1m1) (c := k1c1) (by decide +kernel) rfl rfl rfl (by decide +kernel)
set_option maxRecDepth 65536 in
theorem w_c1 : (Jvm.Cond.code ({ cls := "com/example/gapweave/gapweave/AggregateFunctionReadsValuesPinLaw", name := "pick", desc := "(I)Lcom/example/gapweave/gapweave/AggregateFunction;" } : Jvm.MethodName) method_3_code (1 : Nat) (Option.some (Jvm.ClassFile.FieldType.object "com/example/gapweave/gapweave/AggregateFunction"))).before args0 about1 = true := code_word (m := ⟨1, 2⟩) (meth := k1m2) (c := k1c2) (by decide +kernel) rfl rfl rfl (by decide +kernel)
set_option maxRecDepth 65536 in
theorem w_c2 : (Jvm.Cond.code ({ cls := "java/lang/Long", name := "valueOf", desc := "(J)Ljava/lang/Long;" } : Jvm.MethodName) jdk_35_method_24_code (3 : Nat) (Option.some (Jvm.ClassFile.FieldType.object "java/lang/Long"))).before args0 about1 = true := code_word (m := ⟨9, 0⟩) (meth := k9m0) (c := k9c0) (by decide +kernel) rfl rfl rfl (by decide +kernel)
set_option maxRecDepth 65536 in
theorem w_c3 : (Jvm.Cond.code ({ cls := "com/example/gapweave/gapweave/AggregateFunction", name := "start", desc := "(Lcom/example/gapweave/gapweave/ColumnType;)Lcom/example/gapweave/gapweave/AggregateFunction$Accumulator;" } : Jvm.MethodName) prog_1_method_8_code (2 : Nat) (Option.some (Jvm.ClassFile.FieldType.object "com/example/gapweave/gapweave/AggregateFunction$Accumulator"))).before args0 about1 = true := code_word (m := ⟨6, 1⟩) (meth := k6m1) (c := k6c1) (by decide +kernel) rfl rfl rfl (by decide +kernel)
set_option maxRecDepth 65536 in
theorem w_c4 : (Jvm.Cond.code ({ cls := "java/lang/Enum", name := "ordinal", desc := "()I" } : Jvm.MethodName) jdk_37_method_2_code (1 : Nat) (Option.some Jvm.ClassFile.FieldType.int)).before args0 about1 = true := code_word (m := ⟨5, 0⟩) (meth := k5m0) (c := k5c0) (by decide +kernel) rfl rfl rfl (by decide +kernel)
set_option maxRecDepth 65536 in
theorem w_c5 : (Jvm.Cond.code ({ cls := "com/example/gapweave/gapweave/AggregateFunction", name := "isIntegral", desc := "(Lcom/example/gapweave/gapweave/ColumnType;)Z" } : Jvm.MethodName) prog_1_method_9_code (1 : Nat) (Option.some Jvm.ClassFile.FieldType.boolean)).before args0 about1 = true := code_word (m := ⟨6, 2⟩) (meth := k6m2) (c := k6c2) (by decide +kernel) rfl rfl rfl (by decide +kernel)
set_option maxRecDepth 65536 in
theorem w_c6 : (Jvm.Cond.code ({ cls := "com/example/gapweave/gapweave/AggregateFunction$IntegerMean", name := "<init>", desc := "()V" } : Jvm.MethodName) prog_9_method_1_code (1 : Nat) (Option.none : Option Jvm.ClassFile.FieldType)).before args0 about1 = true := code_word (m := ⟨13, 0⟩) (meth := k13m0) (c := k13c0) (by decide +kernel) rfl rfl rfl (by decide +kernel)
set_option maxRecDepth 65536 in
theorem w_c7 : (Jvm.Cond.code ({ cls := "java/lang/Object", name := "<init>", desc := "()V" } : Jvm.MethodName) object_method_1_code (1 : Nat) (Option.none : Option Jvm.ClassFile.FieldType)).before args0 about1 = true := code_word (m := ⟨0, 0⟩) (meth := k0m0) (c := k0c0) (by decide +kernel) rfl rfl rfl (by decide +kernel)
set_option maxRecDepth 65536 in
theorem w_c8 : (Jvm.Cond.code ({ cls := "java/lang/Long", name := "longValue", desc := "()J" } : Jvm.MethodName) jdk_35_method_31_code (1 : Nat) (Option.some Jvm.ClassFile.FieldType.long)).before args0 about1 = true := code_word (m := ⟨9, 1⟩) (meth := k9m1) (c := k9c1) (by decide +kernel) rfl rfl rfl (by decide +kernel)
set_option maxRecDepth 65536 in
theorem w_c9 : (Jvm.Cond.code ({ cls := "java/lang/Math", name := "addExact", desc := "(JJ)J" } : Jvm.MethodName) jdk_29_method_25_code (6 : Nat) (Option.some Jvm.ClassFile.FieldType.long)).before args0 about1 = true := code_word (m := ⟨14, 1⟩) (meth := k14m1) (c := k14c1) (by decide +kernel) rfl rfl rfl (by decide +kernel)
set_option maxRecDepth 65536 in
theorem w_c10 : (Jvm.Cond.code ({ cls := "com/example/gapweave/gapweave/AggregateFunction$IntegerMean", name := "result", desc := "()Ljava/lang/Object;" } : Jvm.MethodName) prog_9_method_3_code (2 : Nat) (Option.some (Jvm.ClassFile.FieldType.object "java/lang/Object"))).before args0 about1 = true := code_word (m := ⟨13, 2⟩) (meth := k13m2) (c := k13c2) (by decide +kernel) rfl rfl rfl (by decide +kernel)
set_option maxRecDepth 65536 in
theorem w_c11 : (Jvm.Cond.code ({ cls := "java/lang/Math", name := "abs", desc := "(J)J" } : Jvm.MethodName) jdk_29_method_61_code (2 : Nat) (Option.some Jvm.ClassFile.FieldType.long)).before args0 about1 = true := code_word (m := ⟨14, 2⟩) (meth := k14m2) (c := k14c2) (by decide +kernel) rfl rfl rfl (by decide +kernel)
set_option maxRecDepth 65536 in
theorem w_c12 : (Jvm.Cond.code ({ cls := "java/lang/Double", name := "valueOf", desc := "(D)Ljava/lang/Double;" } : Jvm.MethodName) jdk_117_method_4_code (2 : Nat) (Option.some (Jvm.ClassFile.FieldType.object "java/lang/Double"))).before args0 about1 = true := code_word (m := ⟨15, 0⟩) (meth := k15m0) (c := k15c0) (by decide +kernel) rfl rfl rfl (by decide +kernel)
set_option maxRecDepth 65536 in
theorem w_c13 : (Jvm.Cond.code ({ cls := "java/lang/Double", name := "<init>", desc := "(D)V" } : Jvm.MethodName) jdk_117_method_9_code (3 : Nat) (Option.none : Option Jvm.ClassFile.FieldType)).before args0 about1 = true := code_word (m := ⟨15, 1⟩) (meth := k15m1) (c := k15c1) (by decide +kernel) rfl rfl rfl (by decide +kernel)
set_option maxRecDepth 65536 in
theorem w_c14 : (Jvm.Cond.code ({ cls := "java/lang/Number", name := "<init>", desc := "()V" } : Jvm.MethodName) jdk_18_method_1_code (1 : Nat) (Option.none : Option Jvm.ClassFile.FieldType)).before args0 about1 = true := code_word (m := ⟨7, 0⟩) (meth := k7m0) (c := k7c0) (by decide +kernel) rfl rfl rfl (by decide +kernel)
set_option maxRecDepth 65536 in
theorem w_c15 : (Jvm.Cond.code ({ cls := "com/example/gapweave/gapweave/AggregateFunctionReadsValuesPinLaw", name := "same", desc := "(Ljava/lang/Object;Ljava/lang/Object;)Z" } : Jvm.MethodName) method_4_code (2 : Nat) (Option.some Jvm.ClassFile.FieldType.boolean)).before args0 about1 = true := code_word (m := ⟨1, 3⟩) (meth := k1m3) (c := k1c3) (by decide +kernel) rfl rfl rfl (by decide +kernel)
set_option maxRecDepth 65536 in
theorem w_c16 : (Jvm.Cond.code ({ cls := "java/lang/Double", name := "doubleValue", desc := "()D" } : Jvm.MethodName) jdk_117_method_19_code (1 : Nat) (Option.some Jvm.ClassFile.FieldType.double)).before args0 about1 = true := code_word (m := ⟨15, 2⟩) (meth := k15m2) (c := k15c2) (by decide +kernel) rfl rfl rfl (by decide +kernel)
set_option maxRecDepth 65536 in
theorem w_c17 : (Jvm.Cond.code ({ cls := "com/example/gapweave/gapweave/AggregateFunction", name := "readsValues", desc := "()Z" } : Jvm.MethodName) prog_1_method_7_code (1 : Nat) (Option.some Jvm.ClassFile.FieldType.boolean)).before args0 about1 = true := code_word (m := ⟨6, 0⟩) (meth := k6m0) (c := k6c0) (by decide +kernel) rfl rfl rfl (by decide +kernel)
set_option maxRecDepth 65536 in
theorem w_c18 : (Jvm.Cond.code ({ cls := "com/example/gapweave/gapweave/AggregateFunction", name := "order", desc := "(Lcom/example/gapweave/gapweave/ColumnType;)Ljava/util/Comparator;" } : Jvm.MethodName) prog_1_method_11_code (1 : Nat) (Option.some (Jvm.ClassFile.FieldType.object "java/util/Comparator"))).before args0 about1 = true := code_word (m := ⟨6, 3⟩) (meth := k6m3) (c := k6c3) (by decide +kernel) rfl rfl rfl (by decide +kernel)
set_option maxRecDepth 65536 in
theorem w_c19 : (Jvm.Cond.code ({ cls := "com/example/gapweave/gapweave/AggregateFunction$Extreme", name := "<init>", desc := "(Ljava/util/Comparator;I)V" } : Jvm.MethodName) prog_7_method_1_code (3 : Nat) (Option.none : Option Jvm.ClassFile.FieldType)).before args0 about1 = true := code_word (m := ⟨16, 0⟩) (meth := k16m0) (c := k16c0) (by decide +kernel) rfl rfl rfl (by decide +kernel)
set_option maxRecDepth 65536 in
theorem w_c20 : (Jvm.Cond.code ({ cls := "com/example/gapweave/gapweave/AggregateFunction$Extreme", name := "add", desc := "(Ljava/lang/Object;Ljava/lang/Object;)V" } : Jvm.MethodName) prog_7_method_2_code (3 : Nat) (Option.none : Option Jvm.ClassFile.FieldType)).before args0 about1 = true := code_word (m := ⟨16, 1⟩) (meth := k16m1) (c := k16c1) (by decide +kernel) rfl rfl rfl (by decide +kernel)
set_option maxRecDepth 65536 in
theorem w_c21 : (Jvm.Cond.code ({ cls := "com/example/gapweave/gapweave/AggregateFunction", name := "lambda$order$0", desc := "(Ljava/lang/Object;Ljava/lang/Object;)I" } : Jvm.MethodName) prog_1_method_15_code (2 : Nat) (Option.some Jvm.ClassFile.FieldType.int)).before args0 about1 = true := code_word (m := ⟨6, 4⟩) (meth := k6m4) (c := k6c4) (by decide +kernel) rfl rfl rfl (by decide +kernel)
set_option maxRecDepth 65536 in
theorem w_c22 : (Jvm.Cond.code ({ cls := "java/lang/Long", name := "compare", desc := "(JJ)I" } : Jvm.MethodName) jdk_35_method_42_code (4 : Nat) (Option.some Jvm.ClassFile.FieldType.int)).before args0 about1 = true := code_word (m := ⟨9, 2⟩) (meth := k9m2) (c := k9c2) (by decide +kernel) rfl rfl rfl (by decide +kernel)
set_option maxRecDepth 65536 in
theorem w_c23 : (Jvm.Cond.code ({ cls := "com/example/gapweave/gapweave/AggregateFunction$Extreme", name := "result", desc := "()Ljava/lang/Object;" } : Jvm.MethodName) prog_7_method_3_code (1 : Nat) (Option.some (Jvm.ClassFile.FieldType.object "java/lang/Object"))).before args0 about1 = true := code_word (m := ⟨16, 2⟩) (meth := k16m2) (c := k16c2) (by decide +kernel) rfl rfl rfl (by decide +kernel)
set_option maxRecDepth 65536 in
theorem w_c24 : (Jvm.Cond.code ({ cls := "com/example/gapweave/gapweave/AggregateFunction$First", name := "<init>", desc := "()V" } : Jvm.MethodName) prog_8_method_1_code (1 : Nat) (Option.none : Option Jvm.ClassFile.FieldType)).before args0 about1 = true := code_word (m := ⟨19, 0⟩) (meth := k19m0) (c := k19c0) (by decide +kernel) rfl rfl rfl (by decide +kernel)
set_option maxRecDepth 65536 in
theorem w_c25 : (Jvm.Cond.code ({ cls := "com/example/gapweave/gapweave/AggregateFunction$First", name := "add", desc := "(Ljava/lang/Object;Ljava/lang/Object;)V" } : Jvm.MethodName) prog_8_method_2_code (3 : Nat) (Option.none : Option Jvm.ClassFile.FieldType)).before args0 about1 = true := code_word (m := ⟨19, 1⟩) (meth := k19m1) (c := k19c1) (by decide +kernel) rfl rfl rfl (by decide +kernel)
set_option maxRecDepth 65536 in
theorem w_c26 : (Jvm.Cond.code ({ cls := "com/example/gapweave/gapweave/AggregateFunction$First", name := "result", desc := "()Ljava/lang/Object;" } : Jvm.MethodName) prog_8_method_3_code (1 : Nat) (Option.some (Jvm.ClassFile.FieldType.object "java/lang/Object"))).before args0 about1 = true := code_word (m := ⟨19, 2⟩) (meth := k19m2) (c := k19c2) (by decide +kernel) rfl rfl rfl (by decide +kernel)
set_option maxRecDepth 65536 in
theorem w_c27 : (Jvm.Cond.code ({ cls := "com/example/gapweave/gapweave/AggregateFunction$Last", name := "<init>", desc := "()V" } : Jvm.MethodName) prog_11_method_1_code (1 : Nat) (Option.none : Option Jvm.ClassFile.FieldType)).before args0 about1 = true := code_word (m := ⟨20, 0⟩) (meth := k20m0) (c := k20c0) (by decide +kernel) rfl rfl rfl (by decide +kernel)
set_option maxRecDepth 65536 in
theorem w_c28 : (Jvm.Cond.code ({ cls := "com/example/gapweave/gapweave/AggregateFunction$Last", name := "add", desc := "(Ljava/lang/Object;Ljava/lang/Object;)V" } : Jvm.MethodName) prog_11_method_2_code (3 : Nat) (Option.none : Option Jvm.ClassFile.FieldType)).before args0 about1 = true := code_word (m := ⟨20, 1⟩) (meth := k20m1) (c := k20c1) (by decide +kernel) rfl rfl rfl (by decide +kernel)
set_option maxRecDepth 65536 in
theorem w_c29 : (Jvm.Cond.code ({ cls := "com/example/gapweave/gapweave/AggregateFunction$Last", name := "result", desc := "()Ljava/lang/Object;" } : Jvm.MethodName) prog_11_method_3_code (1 : Nat) (Option.some (Jvm.ClassFile.FieldType.object "java/lang/Object"))).before args0 about1 = true := code_word (m := ⟨20, 2⟩) (meth := k20m2) (c := k20c2) (by decide +kernel) rfl rfl rfl (by decide +kernel)
set_option maxRecDepth 65536 in
theorem w_c30 : (Jvm.Cond.code ({ cls := "com/example/gapweave/gapweave/AggregateFunction$Count", name := "<init>", desc := "()V" } : Jvm.MethodName) prog_4_method_1_code (1 : Nat) (Option.none : Option Jvm.ClassFile.FieldType)).before args0 about1 = true := code_word (m := ⟨21, 0⟩) (meth := k21m0) (c := k21c0) (by decide +kernel) rfl rfl rfl (by decide +kernel)
set_option maxRecDepth 65536 in
theorem w_c31 : (Jvm.Cond.code ({ cls := "com/example/gapweave/gapweave/AggregateFunction$Count", name := "add", desc := "(Ljava/lang/Object;Ljava/lang/Object;)V" } : Jvm.MethodName) prog_4_method_2_code (3 : Nat) (Option.none : Option Jvm.ClassFile.FieldType)).before args0 about1 = true := code_word (m := ⟨21, 1⟩) (meth := k21m1) (c := k21c1) (by decide +kernel) rfl rfl rfl (by decide +kernel)
set_option maxRecDepth 65536 in
theorem w_c32 : (Jvm.Cond.code ({ cls := "com/example/gapweave/gapweave/AggregateFunction$Count", name := "result", desc := "()Ljava/lang/Object;" } : Jvm.MethodName) prog_4_method_3_code (1 : Nat) (Option.some (Jvm.ClassFile.FieldType.object "java/lang/Object"))).before args0 about1 = true := code_word (m := ⟨21, 2⟩) (meth := k21m2) (c := k21c2) (by decide +kernel) rfl rfl rfl (by decide +kernel)
set_option maxRecDepth 65536 in
theorem w_c33 : (Jvm.Cond.code ({ cls := "com/example/gapweave/gapweave/AggregateFunction$IntegerSum", name := "<init>", desc := "()V" } : Jvm.MethodName) prog_10_method_1_code (1 : Nat) (Option.none : Option Jvm.ClassFile.FieldType)).before args0 about1 = true := code_word (m := ⟨22, 0⟩) (meth := k22m0) (c := k22c0) (by decide +kernel) rfl rfl rfl (by decide +kernel)
set_option maxRecDepth 65536 in
theorem w_c34 : (Jvm.Cond.code ({ cls := "com/example/gapweave/gapweave/AggregateFunction$IntegerSum", name := "add", desc := "(Ljava/lang/Object;Ljava/lang/Object;)V" } : Jvm.MethodName) prog_10_method_2_code (3 : Nat) (Option.none : Option Jvm.ClassFile.FieldType)).before args0 about1 = true := code_word (m := ⟨22, 1⟩) (meth := k22m1) (c := k22c1) (by decide +kernel) rfl rfl rfl (by decide +kernel)
set_option maxRecDepth 65536 in
theorem w_c35 : (Jvm.Cond.code ({ cls := "com/example/gapweave/gapweave/AggregateFunction$IntegerSum", name := "result", desc := "()Ljava/lang/Object;" } : Jvm.MethodName) prog_10_method_3_code (1 : Nat) (Option.some (Jvm.ClassFile.FieldType.object "java/lang/Object"))).before args0 about1 = true := code_word (m := ⟨22, 2⟩) (meth := k22m2) (c := k22c2) (by decide +kernel) rfl rfl rfl (by decide +kernel)
def codes1 : List Jvm.Cond := [Jvm.Cond.code x code maxLocals ret, Jvm.Cond.code ({ cls := "com/example/gapweave/gapweave/AggregateFunctionReadsValuesPinLaw", name := "pick", desc := "(I)Lcom/example/gapweave/gapweave/AggregateFunction;" } : Jvm.MethodName) method_3_code (1 : Nat) (Option.some (Jvm.ClassFile.FieldType.object "com/example/gapweave/gapweave/AggregateFunction")), Jvm.Cond.code ({ cls := "java/lang/Long", name := "valueOf", desc := "(J)Ljava/lang/Long;" } : Jvm.MethodName) jdk_35_method_24_code (3 : Nat) (Option.some (Jvm.ClassFile.FieldType.object "java/lang/Long")), Jvm.Cond.code ({ cls := "com/example/gapweave/gapweave/AggregateFunction", name := "start", desc := "(Lcom/example/gapweave/gapweave/ColumnType;)Lcom/example/gapweave/gapweave/AggregateFunction$Accumulator;" } : Jvm.MethodName) prog_1_method_8_code (2 : Nat) (Option.some (Jvm.ClassFile.FieldType.object "com/example/gapweave/gapweave/AggregateFunction$Accumulator")), Jvm.Cond.code ({ cls := "java/lang/Enum", name := "ordinal", desc := "()I" } : Jvm.MethodName) jdk_37_method_2_code (1 : Nat) (Option.some Jvm.ClassFile.FieldType.int), Jvm.Cond.code ({ cls := "com/example/gapweave/gapweave/AggregateFunction", name := "isIntegral", desc := "(Lcom/example/gapweave/gapweave/ColumnType;)Z" } : Jvm.MethodName) prog_1_method_9_code (1 : Nat) (Option.some Jvm.ClassFile.FieldType.boolean), Jvm.Cond.code ({ cls := "com/example/gapweave/gapweave/AggregateFunction$IntegerMean", name := "<init>", desc := "()V" } : Jvm.MethodName) prog_9_method_1_code (1 : Nat) (Option.none : Option Jvm.ClassFile.FieldType), Jvm.Cond.code ({ cls := "java/lang/Object", name := "<init>", desc := "()V" } : Jvm.MethodName) object_method_1_code (1 : Nat) (Option.none : Option Jvm.ClassFile.FieldType), Jvm.Cond.code ({ cls := "java/lang/Long", name := "longValue", desc := "()J" } : Jvm.MethodName) jdk_35_method_31_code (1 : Nat) (Option.some Jvm.ClassFile.FieldType.long), Jvm.Cond.code ({ cls := "java/lang/Math", name := "addExact", desc := "(JJ)J" } : Jvm.MethodName) jdk_29_method_25_code (6 : Nat) (Option.some Jvm.ClassFile.FieldType.long), Jvm.Cond.code ({ cls := "com/example/gapweave/gapweave/AggregateFunction$IntegerMean", name := "result", desc := "()Ljava/lang/Object;" } : Jvm.MethodName) prog_9_method_3_code (2 : Nat) (Option.some (Jvm.ClassFile.FieldType.object "java/lang/Object")), Jvm.Cond.code ({ cls := "java/lang/Math", name := "abs", desc := "(J)J" } : Jvm.MethodName) jdk_29_method_61_code (2 : Nat) (Option.some Jvm.ClassFile.FieldType.long), Jvm.Cond.code ({ cls := "java/lang/Double", name := "valueOf", desc := "(D)Ljava/lang/Double;" } : Jvm.MethodName) jdk_117_method_4_code (2 : Nat) (Option.some (Jvm.ClassFile.FieldType.object "java/lang/Double")), Jvm.Cond.code ({ cls := "java/lang/Double", name := "<init>", desc := "(D)V" } : Jvm.MethodName) jdk_117_method_9_code (3 : Nat) (Option.none : Option Jvm.ClassFile.FieldType), Jvm.Cond.code ({ cls := "java/lang/Number", name := "<init>", desc := "()V" } : Jvm.MethodName) jdk_18_method_1_code (1 : Nat) (Option.none : Option Jvm.ClassFile.FieldType), Jvm.Cond.code ({ cls := "com/example/gapweave/gapweave/AggregateFunctionReadsValuesPinLaw", name := "same", desc := "(Ljava/lang/Object;Ljava/lang/Object;)Z" } : Jvm.MethodName) method_4_code (2 : Nat) (Option.some Jvm.ClassFile.FieldType.boolean), Jvm.Cond.code ({ cls := "java/lang/Double", name := "doubleValue", desc := "()D" } : Jvm.MethodName) jdk_117_method_19_code (1 : Nat) (Option.some Jvm.ClassFile.FieldType.double), Jvm.Cond.code ({ cls := "com/example/gapweave/gapweave/AggregateFunction", name := "readsValues", desc := "()Z" } : Jvm.MethodName) prog_1_method_7_code (1 : Nat) (Option.some Jvm.ClassFile.FieldType.boolean), Jvm.Cond.code ({ cls := "com/example/gapweave/gapweave/AggregateFunction", name := "order", desc := "(Lcom/example/gapweave/gapweave/ColumnType;)Ljava/util/Comparator;" } : Jvm.MethodName) prog_1_method_11_code (1 : Nat) (Option.some (Jvm.ClassFile.FieldType.object "java/util/Comparator")), Jvm.Cond.code ({ cls := "com/example/gapweave/gapweave/AggregateFunction$Extreme", name := "<init>", desc := "(Ljava/util/Comparator;I)V" } : Jvm.MethodName) prog_7_method_1_code (3 : Nat) (Option.none : Option Jvm.ClassFile.FieldType), Jvm.Cond.code ({ cls := "com/example/gapweave/gapweave/AggregateFunction$Extreme", name := "add", desc := "(Ljava/lang/Object;Ljava/lang/Object;)V" } : Jvm.MethodName) prog_7_method_2_code (3 : Nat) (Option.none : Option Jvm.ClassFile.FieldType), Jvm.Cond.code ({ cls := "com/example/gapweave/gapweave/AggregateFunction", name := "lambda$order$0", desc := "(Ljava/lang/Object;Ljava/lang/Object;)I" } : Jvm.MethodName) prog_1_method_15_code (2 : Nat) (Option.some Jvm.ClassFile.FieldType.int), Jvm.Cond.code ({ cls := "java/lang/Long", name := "compare", desc := "(JJ)I" } : Jvm.MethodName) jdk_35_method_42_code (4 : Nat) (Option.some Jvm.ClassFile.FieldType.int), Jvm.Cond.code ({ cls := "com/example/gapweave/gapweave/AggregateFunction$Extreme", name := "result", desc := "()Ljava/lang/Object;" } : Jvm.MethodName) prog_7_method_3_code (1 : Nat) (Option.some (Jvm.ClassFile.FieldType.object "java/lang/Object")), Jvm.Cond.code ({ cls := "com/example/gapweave/gapweave/AggregateFunction$First", name := "<init>", desc := "()V" } : Jvm.MethodName) prog_8_method_1_code (1 : Nat) (Option.none : Option Jvm.ClassFile.FieldType), Jvm.Cond.code ({ cls := "com/example/gapweave/gapweave/AggregateFunction$First", name := "add", desc := "(Ljava/lang/Object;Ljava/lang/Object;)V" } : Jvm.MethodName) prog_8_method_2_code (3 : Nat) (Option.none : Option Jvm.ClassFile.FieldType), Jvm.Cond.code ({ cls := "com/example/gapweave/gapweave/AggregateFunction$First", name := "result", desc := "()Ljava/lang/Object;" } : Jvm.MethodName) prog_8_method_3_code (1 : Nat) (Option.some (Jvm.ClassFile.FieldType.object "java/lang/Object")), Jvm.Cond.code ({ cls := "com/example/gapweave/gapweave/AggregateFunction$Last", name := "<init>", desc := "()V" } : Jvm.MethodName) prog_11_method_1_code (1 : Nat) (Option.none : Option Jvm.ClassFile.FieldType), Jvm.Cond.code ({ cls := "com/example/gapweave/gapweave/AggregateFunction$Last", name := "add", desc := "(Ljava/lang/Object;Ljava/lang/Object;)V" } : Jvm.MethodName) prog_11_method_2_code (3 : Nat) (Option.none : Option Jvm.ClassFile.FieldType), Jvm.Cond.code ({ cls := "com/example/gapweave/gapweave/AggregateFunction$Last", name := "result", desc := "()Ljava/lang/Object;" } : Jvm.MethodName) prog_11_method_3_code (1 : Nat) (Option.some (Jvm.ClassFile.FieldType.object "java/lang/Object")), Jvm.Cond.code ({ cls := "com/example/gapweave/gapweave/AggregateFunction$Count", name := "<init>", desc := "()V" } : Jvm.MethodName) prog_4_method_1_code (1 : Nat) (Option.none : Option Jvm.ClassFile.FieldType), Jvm.Cond.code ({ cls := "com/example/gapweave/gapweave/AggregateFunction$Count", name := "add", desc := "(Ljava/lang/Object;Ljava/lang/Object;)V" } : Jvm.MethodName) prog_4_method_2_code (3 : Nat) (Option.none : Option Jvm.ClassFile.FieldType), Jvm.Cond.code ({ cls := "com/example/gapweave/gapweave/AggregateFunction$Count", name := "result", desc := "()Ljava/lang/Object;" } : Jvm.MethodName) prog_4_method_3_code (1 : Nat) (Option.some (Jvm.ClassFile.FieldType.object "java/lang/Object")), Jvm.Cond.code ({ cls := "com/example/gapweave/gapweave/AggregateFunction$IntegerSum", name := "<init>", desc := "()V" } : Jvm.MethodName) prog_10_method_1_code (1 : Nat) (Option.none : Option Jvm.ClassFile.FieldType), Jvm.Cond.code ({ cls := "com/example/gapweave/gapweave/AggregateFunction$IntegerSum", name := "add", desc := "(Ljava/lang/Object;Ljava/lang/Object;)V" } : Jvm.MethodName) prog_10_method_2_code (3 : Nat) (Option.none : Option Jvm.ClassFile.FieldType), Jvm.Cond.code ({ cls := "com/example/gapweave/gapweave/AggregateFunction$IntegerSum", name := "result", desc := "()Ljava/lang/Object;" } : Jvm.MethodName) prog_10_method_3_code (1 : Nat) (Option.some (Jvm.ClassFile.FieldType.object "java/lang/Object"))]
set_option maxRecDepth 65536 in
theorem codes_eq : words1.filter isCode = codes1 := rfl
theorem w_codes : ∀ c ∈ words1.filter isCode, c.before args0 about1 = true := by
  rw [codes_eq]
  intro c hc
  simp only [codes1, List.mem_cons, List.not_mem_nil, or_false] at hc
  rcases hc with rfl | rfl | rfl | rfl | rfl | rfl | rfl | rfl | rfl | rfl | rfl | rfl | rfl | rfl | rfl | rfl | rfl | rfl | rfl | rfl | rfl | rfl | rfl | rfl | rfl | rfl | rfl | rfl | rfl | rfl | rfl | rfl | rfl | rfl | rfl | rfl
  · exact w_c0
  · exact w_c1
  · exact w_c2
  · exact w_c3
  · exact w_c4
  · exact w_c5
  · exact w_c6
  · exact w_c7
  · exact w_c8
  · exact w_c9
  · exact w_c10
  · exact w_c11
  · exact w_c12
  · exact w_c13
  · exact w_c14
  · exact w_c15
  · exact w_c16
  · exact w_c17
  · exact w_c18
  · exact w_c19
  · exact w_c20
  · exact w_c21
  · exact w_c22
  · exact w_c23
  · exact w_c24
  · exact w_c25
  · exact w_c26
  · exact w_c27
  · exact w_c28
  · exact w_c29
  · exact w_c30
  · exact w_c31
  · exact w_c32
  · exact w_c33
  · exact w_c34
  · exact w_c35
set_option maxRecDepth 65536 in
theorem w_t1 : (words1.take 24).all (fun c => isCode c || c.before args0 about1) = true := by decide +kernel
set_option maxRecDepth 65536 in
theorem w_t2 : ((words1.drop 24).take 24).all (fun c => isCode c || c.before args0 about1) = true := by decide +kernel
set_option maxRecDepth 65536 in
theorem w_t3 : (((words1.drop 24).drop 24).take 24).all (fun c => isCode c || c.before args0 about1) = true := by decide +kernel
set_option maxRecDepth 65536 in
theorem w_t4 : ((((words1.drop 24).drop 24).drop 24).take 24).all (fun c => isCode c || c.before args0 about1) = true := by decide +kernel
set_option maxRecDepth 65536 in
theorem w_t5 : (((((words1.drop 24).drop 24).drop 24).drop 24).take 24).all (fun c => isCode c || c.before args0 about1) = true := by decide +kernel
set_option maxRecDepth 65536 in
theorem w_t6 : ((((((words1.drop 24).drop 24).drop 24).drop 24).drop 24).take 24).all (fun c => isCode c || c.before args0 about1) = true := by decide +kernel
set_option maxRecDepth 65536 in
theorem w_t7 : (((((((words1.drop 24).drop 24).drop 24).drop 24).drop 24).drop 24).take 24).all (fun c => isCode c || c.before args0 about1) = true := by decide +kernel
set_option maxRecDepth 65536 in
theorem w_t8 : ((((((((words1.drop 24).drop 24).drop 24).drop 24).drop 24).drop 24).drop 24).take 24).all (fun c => isCode c || c.before args0 about1) = true := by decide +kernel
set_option maxRecDepth 65536 in
theorem w_t9 : (((((((((words1.drop 24).drop 24).drop 24).drop 24).drop 24).drop 24).drop 24).drop 24).take 24).all (fun c => isCode c || c.before args0 about1) = true := by decide +kernel
set_option maxRecDepth 65536 in
theorem w_t10 : ((((((((((words1.drop 24).drop 24).drop 24).drop 24).drop 24).drop 24).drop 24).drop 24).drop 24).take 24).all (fun c => isCode c || c.before args0 about1) = true := by decide +kernel
set_option maxRecDepth 65536 in
theorem w_t11 : (((((((((((words1.drop 24).drop 24).drop 24).drop 24).drop 24).drop 24).drop 24).drop 24).drop 24).drop 24).take 24).all (fun c => isCode c || c.before args0 about1) = true := by decide +kernel
set_option maxRecDepth 65536 in
theorem w_t12 : (((((((((((words1.drop 24).drop 24).drop 24).drop 24).drop 24).drop 24).drop 24).drop 24).drop 24).drop 24).drop 24).all (fun c => isCode c || c.before args0 about1) = true := by decide +kernel
theorem w_tables : (allAtoms (Jvm.Cond.code x code maxLocals ret :: tables_1)).before args0 about1 = true := by
  rw [allAtoms_all]
  show words1.all (fun c => c.before args0 about1) = true
  refine all_split ?_ w_codes
  rw [← List.take_append_drop 24 words1, List.all_append, w_t1, ← List.take_append_drop 24 (words1.drop 24), List.all_append, w_t2, ← List.take_append_drop 24 ((words1.drop 24).drop 24), List.all_append, w_t3, ← List.take_append_drop 24 (((words1.drop 24).drop 24).drop 24), List.all_append, w_t4, ← List.take_append_drop 24 ((((words1.drop 24).drop 24).drop 24).drop 24), List.all_append, w_t5, ← List.take_append_drop 24 (((((words1.drop 24).drop 24).drop 24).drop 24).drop 24), List.all_append, w_t6, ← List.take_append_drop 24 ((((((words1.drop 24).drop 24).drop 24).drop 24).drop 24).drop 24), List.all_append, w_t7, ← List.take_append_drop 24 (((((((words1.drop 24).drop 24).drop 24).drop 24).drop 24).drop 24).drop 24), List.all_append, w_t8, ← List.take_append_drop 24 ((((((((words1.drop 24).drop 24).drop 24).drop 24).drop 24).drop 24).drop 24).drop 24), List.all_append, w_t9, ← List.take_append_drop 24 (((((((((words1.drop 24).drop 24).drop 24).drop 24).drop 24).drop 24).drop 24).drop 24).drop 24), List.all_append, w_t10, ← List.take_append_drop 24 ((((((((((words1.drop 24).drop 24).drop 24).drop 24).drop 24).drop 24).drop 24).drop 24).drop 24).drop 24), List.all_append, w_t11, w_t12]
  rfl
set_option maxRecDepth 65536 in
theorem w_rest : rest_1_c.before args0 about1 = true := by decide +kernel
set_option maxRecDepth 65536 in
theorem w_case : (Jvm.Cond.and given_1 narrow_1).before args0 about1 = true := by decide +kernel
theorem w_applies : (headSpec (Jvm.Cond.code x code maxLocals ret :: tables_1) room_1).applies x e0.platform about1 = true :=
  (Spec.applies_iff w_frames).mpr ⟨w_running, w_runnable, w_alone, w_named, w_hears, w_ripe, w_room, w_tables⟩
theorem atStart : AtStart classFile x code maxLocals ret World_1 tables_1 room_1 Calls_1 rest_1 Pre_1 launch0 p0 e0 about1 theMethod args0 below0 :=
  ⟨lists_1, trivial, launch0.admits_env _ _ _, launch0.least_env, fairChoices_fair.cas, fairChoices_fair.clock, w_frames, w_args, w_heap, w_applies, trivial, w_rest, w_case⟩
end start1
theorem witness_1 : WitnessClaimed_1 := ⟨start1.p0, start1.e0, start1.about1, start1.theMethod, start1.args0, start1.below0, start1.atStart⟩
end Jvm.Pilot.@@N@@
