import JvmDerived
import JvmDerived.Pilot.@@N@@Statement
import JvmDerived.Pilot.@@N@@Code
set_option linter.unusedVariables false
set_option linter.unusedSimpArgs false
@@BLOCK:NumsL.lean.txt@@
namespace Jvm.RoadKit
open Sem ClassFile Op Lib Jvm.Stand Jvm.Free Jvm.LawKit
section New
variable {p : Program} {l : Launch} {e : Env} {R : Room} {s : State} {m : MethodId} {args : Array Value} {below : List Frame} {meth : Method} {c : Code} {T : State} {locs : List Loc} {cells slots : Nat}
theorem retI (X : Stand p l e R s m args below meth c T locs cells slots) (hx : p.tables.exec = Jvm.exec) {pc : Nat} {Ls : Array Slot} {z : Int32} {rest : List Value} (hret : meth.sig.returnType = some .int) (hd : decode c.code pc = .ok (.ireturn, 1)) {fs : List Frame}
    (hl : ∀ (f : JFrame) (acts : List Action), f.method = m → f.locked = none → f.entered = [] → (doReturn e (T.setTop f) acts (some (.int z))).1 = T.setFrames fs) : Steps p.tables e below (T.setTop (mkF m pc Ls (.int z :: rest))) (T.setFrames fs) := by
  have hm' : T.vm.method? m = some meth := X.method'
  have hn : narrow .int (.int z) = .int z := rfl
  show Steps p.tables e below (T.setTop { method := m, pc := pc, locals := Ls, stack := _ :: rest, locked := none }) _
  jvm_step X.here [X.here.top, hx, hd, hm', hret, hn]
  first | (intro acts; rw [hl _ acts rfl rfl rfl]) | rw [hl _ _ rfl rfl rfl]
  exact Steps.refl _
theorem own_retJ (X : Stand p l e R s m args below meth c T locs cells slots) (hx : p.tables.exec = Jvm.exec) {pc : Nat} {Ls : Array Slot} {z : Int64} {rest : List Value} (hret : meth.sig.returnType = some .long) (hd : decode c.code pc = .ok (.lreturn, 1)) {fs : List Frame}
    (hl : ∀ (f : JFrame) (acts : List Action), f.method = m → f.locked = none → f.entered = [] → (doReturn e (T.setTop f) acts (some (.long z))).1 = T.setFrames fs) : Steps p.tables e below (T.setTop (mkF m pc Ls (.long z :: rest))) (T.setFrames fs) := by
  have hm' : T.vm.method? m = some meth := X.method'
  show Steps p.tables e below (T.setTop { method := m, pc := pc, locals := Ls, stack := _ :: rest, locked := none }) _
  jvm_step X.here [X.here.top, hx, hd, hm', hret, narrow]
  first | (intro acts; rw [hl _ acts rfl rfl rfl]) | rw [hl _ _ rfl rfl rfl]
  exact Steps.refl _
theorem own_retA (X : Stand p l e R s m args below meth c T locs cells slots) (hx : p.tables.exec = Jvm.exec) {pc : Nat} {Ls : Array Slot} {b : Addr} {t : FieldType} {rest : List Value} (hret : meth.sig.returnType = some t) (ht : t.isReference = true) (hb0 : b = b) (hd : decode c.code pc = .ok (.areturn, 1)) {fs : List Frame}
    (hl : ∀ (f : JFrame) (acts : List Action), f.method = m → f.locked = none → f.entered = [] → (doReturn e (T.setTop f) acts (some (.ref b))).1 = T.setFrames fs) : Steps p.tables e below (T.setTop (mkF m pc Ls (.ref b :: rest))) (T.setFrames fs) := by
  have hm' : T.vm.method? m = some meth := X.method'
  show Steps p.tables e below (T.setTop { method := m, pc := pc, locals := Ls, stack := _ :: rest, locked := none }) _
  jvm_step X.here [X.here.top, hx, hd, hm', hret, Value.isRef, ht]
  first | (intro acts; rw [hl _ acts rfl rfl rfl]) | rw [hl _ _ rfl rfl rfl]
  exact Steps.refl _
end New
/-- a walk's goal at the state A -/
def own_G (tb : Tables) (e : Env) (below : List Frame) (P : Outcome → State → Prop) (A : State) : Prop := ∃ s₂ o, Steps tb e below A s₂ ∧ s₂.status = .running ∧ Ended s₂ below o ∧ P o s₂
section Go
variable {tb : Tables} {e : Env} {below : List Frame} {P : Outcome → State → Prop} {A B : State}
theorem own_step (h : ∀ t, Steps tb e below B t → Steps tb e below A t) (k : own_G tb e below P B) : own_G tb e below P A := by
  obtain ⟨s₂, o, h1, h2⟩ := k
  exact ⟨s₂, o, h _ h1, h2⟩
theorem own_start (h : ∀ t, Steps tb e below B t → Steps tb e below A t) (k : own_G tb e below P B) : ∃ s₂ o, Steps tb e below A s₂ ∧ s₂.status = .running ∧ Ended s₂ below o ∧ P o s₂ := own_step h k
theorem own_done {s₂ : State} {o : Outcome} (h1 : Steps tb e below A s₂) (h2 : s₂.status = .running) (h3 : Ended s₂ below o) (h4 : P o s₂) : own_G tb e below P A := ⟨s₂, o, h1, h2, h3, h4⟩
theorem own_nm {α : Type} (x : α) (F : α → State) (h : ∀ v, v = x → own_G tb e below P (F v)) : own_G tb e below P (F x) := h x rfl
theorem own_gen (h : ∀ P', P' = P → own_G tb e below P' A) : own_G tb e below P A := h P rfl
theorem own_imp (h : own_G tb e below P B → own_G tb e below P A) (k : own_G tb e below P B) : own_G tb e below P A := h k
end Go

end Jvm.RoadKit
namespace Jvm.Pilot.@@N@@
open Jvm Jvm.ClassFile Sem Op Lib Jvm.Free Jvm.Stand Jvm.LawKit Jvm.RoadKit Bundle Jvm.Pilot.@@N@@.Jvm.D

theorem d1_0 : decode prog_34_method_5_code 0 = .ok (.iload_n 0, 1) := by decide +kernel
theorem d1_1 : decode prog_34_method_5_code 1 = .ok (.ifCond .lt 13, 3) := by decide +kernel
theorem d1_4 : decode prog_34_method_5_code 4 = .ok (.iload_n 0, 1) := by decide +kernel
theorem d1_5 : decode prog_34_method_5_code 5 = .ok (.ldc 26, 2) := by decide +kernel
theorem d1_7 : decode prog_34_method_5_code 7 = .ok (.if_icmp .gt 7, 3) := by decide +kernel
theorem d1_10 : decode prog_34_method_5_code 10 = .ok (.iconst 1, 1) := by decide +kernel
theorem d1_11 : decode prog_34_method_5_code 11 = .ok (.goto 4, 3) := by decide +kernel
theorem d1_14 : decode prog_34_method_5_code 14 = .ok (.iconst 0, 1) := by decide +kernel
theorem d1_15 : decode prog_34_method_5_code 15 = .ok (.ireturn, 1) := by decide +kernel
theorem pn_1 : plainName "com/example/dirtytree/dirtytree/MeasureSpec" = true := by first | (simp [plainName, overriddenIn]; done) | decide +kernel
theorem ef_1 (m : MethodId) (p1 : Int32) : entryFrame m #[(.int p1)] 1 = mkF m 0 #[.val (.int p1)] [] := by first | (simp [entryFrame, mkF, argsToLocals, Value.category]; done) | rfl
def own_f1 (p1 : Int32) : Int32 :=
  (if p1 < (0 : Int32) then (0 : Int32) else (if (1073741823 : Int32) < p1 then (0 : Int32) else (1 : Int32)))
def Q1 (Z : State) (p1 : Int32) (h0 : Heap) (n0 : Nat) (v : Option Value) (h : Heap) (L : List Loc) : Prop := v = some (.int (own_f1 p1)) ∧ Fr n0 L ∧ h = h0
set_option maxRecDepth 65536 in
set_option maxHeartbeats 40000000 in
theorem rm1 (l : Launch) (Z : State) (a0 : Array Value) (hw : ∀ d ∈ tables_1, d.before a0 Z = true) (ws : List Jvm.Cond) (p1 : Int32) (h0 : Heap) (n0 : Nat) (Z0 : n0 ≤ h0.size) :
    MetFree l (⟨"com/example/dirtytree/dirtytree/MeasureSpec", "isSize", "(I)Z"⟩ : MethodName) (head1 (Jvm.Cond.code (⟨"com/example/dirtytree/dirtytree/MeasureSpec", "isSize", "(I)Z"⟩ : MethodName) prog_34_method_5_code 1 (some .boolean) :: ws) ({ frames := 0, cells := 0, slots := 0, locals := 0 } : Room)) (fun a U => a = #[(.int p1)] ∧ Z.Warmed39 U.vm ∧ U.heap = h0) (fun _ _ _ _ _ => True) (fun _ U o U' => ∃ v L, o = .returned v ∧ Q1 Z p1 h0 n0 v U'.heap L ∧ FrameEnd U o U' L ({ frames := 0, cells := 0, slots := 0, locals := 0 } : Room).cells ({ frames := 0, cells := 0, slots := 0, locals := 0 } : Room).slots) := by
  refine MetFree.of_bodySF (plainFor_of_name pn_1) hisR ?_
  intro p e s m args below meth c s₁ Bd hml0 hP hK
  obtain ⟨rfl, hZ, hh⟩ := hP
  have hx := Bd.exec
  have hby := Bd.bytes
  have hml : c.maxLocals = 1 := hml0
  have hown : s.vm.findClass "com/example/dirtytree/dirtytree/MeasureSpec" = some m.cls := findClass_of_methodNamed Bd.named
  have hnm := (name_of_methodNamed Bd.named Bd.method).1
  have X0 : Stand p l e ({ frames := 0, cells := 0, slots := 0, locals := 0 } : Room) s m #[(.int p1)] below meth c s₁ [] 0 0 := Stand.of_body Bd
  have e0 : s₁.heap = h0 := by rw [← hh, Bd.state]; rfl
  have N0 := Fr.nil n0
  refine own_start (fun t k => castTop (ef_1 m p1) k) ?_
  show own_G p.tables e below _ (s₁.setTop (mkF m 0 #[.val (.int p1)] []))
  refine own_step (fun t k => XS.iloadN X0.here hx rfl (hb hby d1_0) rfl k) ?_
  show own_G p.tables e below _ (s₁.setTop (mkF m 1 #[.val (.int p1)] [(.int p1)]))
  by_cases hc1 : p1 < (0 : Int32)
  · skip
    refine own_step (fun t k => XS.ifYes X0.here hx rfl (pc0 := 1) (pc' := 14) rfl (hb hby d1_1) rfl ((if0 _ _).trans (tlt hc1).1) (by decide) (by decide) k) ?_
    show own_G p.tables e below _ (s₁.setTop (mkF m 14 #[.val (.int p1)] []))
    refine own_step (fun t k => XS.iconst X0.here hx rfl (hb hby d1_14) k) ?_
    show own_G p.tables e below _ (s₁.setTop (mkF m 15 #[.val (.int p1)] [(.int (0 : Int32))]))
    obtain ⟨fs, hr, hrun, hended, hW, hsame⟩ := X0.leave (v := some (.int (0 : Int32))) (fun h => by rw [Bd.returns] at h; cases h)
    refine own_done (retN X0 hx (t := .boolean) Bd.returns (by simp) (hb hby d1_15) hr) hrun hended ⟨_, _, rfl, ?_, ⟨_, rfl⟩, hW, hsame.mono (by decide) (by decide)⟩
    show Q1 Z p1 h0 n0 _ s₁.heap _
    rw [e0]
    exact ⟨congrArg (fun z => some (Value.int z)) (show (0 : Int32) = (own_f1 p1) from by unfold own_f1; simp only [if_pos hc1]), N0, rfl⟩
  · skip
    refine own_step (fun t k => XS.ifNo X0.here hx rfl (hb hby d1_1) rfl ((if0 _ _).trans (flt hc1).1) k) ?_
    show own_G p.tables e below _ (s₁.setTop (mkF m 4 #[.val (.int p1)] []))
    refine own_step (fun t k => XS.iloadN X0.here hx rfl (hb hby d1_4) rfl k) ?_
    show own_G p.tables e below _ (s₁.setTop (mkF m 5 #[.val (.int p1)] [(.int p1)]))
    refine own_step (X0.ldcInt hx hown (mvT hZ (hw _ (List.mem_of_getElem? (i := 4) rfl))) (g := (mkF m 5 #[.val (.int p1)] [(.int p1)])) rfl (hb hby d1_5)) ?_
    show own_G p.tables e below _ (s₁.setTop (mkF m 7 #[.val (.int p1)] [(.int (1073741823 : Int32)), (.int p1)]))
    by_cases hc2 : (1073741823 : Int32) < p1
    · skip
      refine own_step (fun t k => XS.icmpYes X0.here hx rfl (pc0 := 7) (pc' := 14) rfl (hb hby d1_7) rfl ((tlt hc2).2.2.1) (by decide) (by decide) k) ?_
      show own_G p.tables e below _ (s₁.setTop (mkF m 14 #[.val (.int p1)] []))
      refine own_step (fun t k => XS.iconst X0.here hx rfl (hb hby d1_14) k) ?_
      show own_G p.tables e below _ (s₁.setTop (mkF m 15 #[.val (.int p1)] [(.int (0 : Int32))]))
      obtain ⟨fs, hr, hrun, hended, hW, hsame⟩ := X0.leave (v := some (.int (0 : Int32))) (fun h => by rw [Bd.returns] at h; cases h)
      refine own_done (retN X0 hx (t := .boolean) Bd.returns (by simp) (hb hby d1_15) hr) hrun hended ⟨_, _, rfl, ?_, ⟨_, rfl⟩, hW, hsame.mono (by decide) (by decide)⟩
      show Q1 Z p1 h0 n0 _ s₁.heap _
      rw [e0]
      exact ⟨congrArg (fun z => some (Value.int z)) (show (0 : Int32) = (own_f1 p1) from by unfold own_f1; simp only [if_neg hc1, if_pos hc2]), N0, rfl⟩
    · skip
      refine own_step (fun t k => XS.icmpNo X0.here hx rfl (hb hby d1_7) rfl ((flt hc2).2.2.1) k) ?_
      show own_G p.tables e below _ (s₁.setTop (mkF m 10 #[.val (.int p1)] []))
      refine own_step (fun t k => XS.iconst X0.here hx rfl (hb hby d1_10) k) ?_
      show own_G p.tables e below _ (s₁.setTop (mkF m 11 #[.val (.int p1)] [(.int (1 : Int32))]))
      refine own_step (fun t k => XS.goto X0.here hx rfl (pc0 := 11) (pc' := 15) rfl (hb hby d1_11) (by decide) (by decide) k) ?_
      show own_G p.tables e below _ (s₁.setTop (mkF m 15 #[.val (.int p1)] [(.int (1 : Int32))]))
      obtain ⟨fs, hr, hrun, hended, hW, hsame⟩ := X0.leave (v := some (.int (1 : Int32))) (fun h => by rw [Bd.returns] at h; cases h)
      refine own_done (retN X0 hx (t := .boolean) Bd.returns (by simp) (hb hby d1_15) hr) hrun hended ⟨_, _, rfl, ?_, ⟨_, rfl⟩, hW, hsame.mono (by decide) (by decide)⟩
      show Q1 Z p1 h0 n0 _ s₁.heap _
      rw [e0]
      exact ⟨congrArg (fun z => some (Value.int z)) (show (1 : Int32) = (own_f1 p1) from by unfold own_f1; simp only [if_neg hc1, if_neg hc2]), N0, rfl⟩
theorem d2_0 : decode method_2_code 0 = .ok (.iload_n 0, 1) := by decide +kernel
theorem d2_1 : decode method_2_code 1 = .ok (.bipush 30, 2) := by decide +kernel
theorem d2_3 : decode method_2_code 3 = .ok (.iushr, 1) := by decide +kernel
theorem d2_4 : decode method_2_code 4 = .ok (.ifCond .ne 7, 3) := by decide +kernel
theorem d2_7 : decode method_2_code 7 = .ok (.iconst 1, 1) := by decide +kernel
theorem d2_8 : decode method_2_code 8 = .ok (.goto 4, 3) := by decide +kernel
theorem d2_11 : decode method_2_code 11 = .ok (.iconst 0, 1) := by decide +kernel
theorem d2_12 : decode method_2_code 12 = .ok (.ireturn, 1) := by decide +kernel
theorem pn_2 : plainName "com/example/dirtytree/dirtytree/MeasureSpecIsSizePinLaw" = true := by first | (simp [plainName, overriddenIn]; done) | decide +kernel
theorem ef_2 (m : MethodId) (p1 : Int32) : entryFrame m #[(.int p1)] 1 = mkF m 0 #[.val (.int p1)] [] := by first | (simp [entryFrame, mkF, argsToLocals, Value.category]; done) | rfl
def own_f2 (p1 : Int32) : Int32 :=
  (if ((p1.toUInt32 >>> ((30 : Int32) &&& 31).toUInt32).toInt32) = (0 : Int32) then (1 : Int32) else (0 : Int32))
def Q2 (Z : State) (p1 : Int32) (h0 : Heap) (n0 : Nat) (v : Option Value) (h : Heap) (L : List Loc) : Prop := v = some (.int (own_f2 p1)) ∧ Fr n0 L ∧ h = h0
set_option maxRecDepth 65536 in
set_option maxHeartbeats 40000000 in
theorem rm2 (l : Launch) (Z : State) (a0 : Array Value) (hw : ∀ d ∈ tables_1, d.before a0 Z = true) (ws : List Jvm.Cond) (p1 : Int32) (h0 : Heap) (n0 : Nat) (Z0 : n0 ≤ h0.size) :
    MetFree l (⟨"com/example/dirtytree/dirtytree/MeasureSpecIsSizePinLaw", "ref", "(I)Z"⟩ : MethodName) (head1 (Jvm.Cond.code (⟨"com/example/dirtytree/dirtytree/MeasureSpecIsSizePinLaw", "ref", "(I)Z"⟩ : MethodName) method_2_code 1 (some .boolean) :: ws) ({ frames := 0, cells := 0, slots := 0, locals := 0 } : Room)) (fun a U => a = #[(.int p1)] ∧ Z.Warmed39 U.vm ∧ U.heap = h0) (fun _ _ _ _ _ => True) (fun _ U o U' => ∃ v L, o = .returned v ∧ Q2 Z p1 h0 n0 v U'.heap L ∧ FrameEnd U o U' L ({ frames := 0, cells := 0, slots := 0, locals := 0 } : Room).cells ({ frames := 0, cells := 0, slots := 0, locals := 0 } : Room).slots) := by
  refine MetFree.of_bodySF (plainFor_of_name pn_2) hisR ?_
  intro p e s m args below meth c s₁ Bd hml0 hP hK
  obtain ⟨rfl, hZ, hh⟩ := hP
  have hx := Bd.exec
  have hby := Bd.bytes
  have hml : c.maxLocals = 1 := hml0
  have hown : s.vm.findClass "com/example/dirtytree/dirtytree/MeasureSpecIsSizePinLaw" = some m.cls := findClass_of_methodNamed Bd.named
  have hnm := (name_of_methodNamed Bd.named Bd.method).1
  have X0 : Stand p l e ({ frames := 0, cells := 0, slots := 0, locals := 0 } : Room) s m #[(.int p1)] below meth c s₁ [] 0 0 := Stand.of_body Bd
  have e0 : s₁.heap = h0 := by rw [← hh, Bd.state]; rfl
  have N0 := Fr.nil n0
  refine own_start (fun t k => castTop (ef_2 m p1) k) ?_
  show own_G p.tables e below _ (s₁.setTop (mkF m 0 #[.val (.int p1)] []))
  refine own_step (fun t k => XS.iloadN X0.here hx rfl (hb hby d2_0) rfl k) ?_
  show own_G p.tables e below _ (s₁.setTop (mkF m 1 #[.val (.int p1)] [(.int p1)]))
  refine own_step (fun t k => XS.bipush X0.here hx rfl (hb hby d2_1) k) ?_
  show own_G p.tables e below _ (s₁.setTop (mkF m 3 #[.val (.int p1)] [(.int (30 : Int32)), (.int p1)]))
  refine own_step (fun t k => XS.iushr X0.here hx rfl (hb hby d2_3) rfl k) ?_
  show own_G p.tables e below _ (s₁.setTop (mkF m 4 #[.val (.int p1)] [(.int ((p1.toUInt32 >>> ((30 : Int32) &&& 31).toUInt32).toInt32))]))
  by_cases hc1 : ((p1.toUInt32 >>> ((30 : Int32) &&& 31).toUInt32).toInt32) = (0 : Int32)
  · skip
    refine own_step (fun t k => XS.ifNo X0.here hx rfl (hb hby d2_4) rfl ((if0 _ _).trans (teq hc1).2) k) ?_
    show own_G p.tables e below _ (s₁.setTop (mkF m 7 #[.val (.int p1)] []))
    refine own_step (fun t k => XS.iconst X0.here hx rfl (hb hby d2_7) k) ?_
    show own_G p.tables e below _ (s₁.setTop (mkF m 8 #[.val (.int p1)] [(.int (1 : Int32))]))
    refine own_step (fun t k => XS.goto X0.here hx rfl (pc0 := 8) (pc' := 12) rfl (hb hby d2_8) (by decide) (by decide) k) ?_
    show own_G p.tables e below _ (s₁.setTop (mkF m 12 #[.val (.int p1)] [(.int (1 : Int32))]))
    obtain ⟨fs, hr, hrun, hended, hW, hsame⟩ := X0.leave (v := some (.int (1 : Int32))) (fun h => by rw [Bd.returns] at h; cases h)
    refine own_done (retN X0 hx (t := .boolean) Bd.returns (by simp) (hb hby d2_12) hr) hrun hended ⟨_, _, rfl, ?_, ⟨_, rfl⟩, hW, hsame.mono (by decide) (by decide)⟩
    show Q2 Z p1 h0 n0 _ s₁.heap _
    rw [e0]
    exact ⟨congrArg (fun z => some (Value.int z)) (show (1 : Int32) = (own_f2 p1) from by unfold own_f2; simp only [if_pos hc1]), N0, rfl⟩
  · skip
    refine own_step (fun t k => XS.ifYes X0.here hx rfl (pc0 := 4) (pc' := 11) rfl (hb hby d2_4) rfl ((if0 _ _).trans (feq hc1).2) (by decide) (by decide) k) ?_
    show own_G p.tables e below _ (s₁.setTop (mkF m 11 #[.val (.int p1)] []))
    refine own_step (fun t k => XS.iconst X0.here hx rfl (hb hby d2_11) k) ?_
    show own_G p.tables e below _ (s₁.setTop (mkF m 12 #[.val (.int p1)] [(.int (0 : Int32))]))
    obtain ⟨fs, hr, hrun, hended, hW, hsame⟩ := X0.leave (v := some (.int (0 : Int32))) (fun h => by rw [Bd.returns] at h; cases h)
    refine own_done (retN X0 hx (t := .boolean) Bd.returns (by simp) (hb hby d2_12) hr) hrun hended ⟨_, _, rfl, ?_, ⟨_, rfl⟩, hW, hsame.mono (by decide) (by decide)⟩
    show Q2 Z p1 h0 n0 _ s₁.heap _
    rw [e0]
    exact ⟨congrArg (fun z => some (Value.int z)) (show (0 : Int32) = (own_f2 p1) from by unfold own_f2; simp only [if_neg hc1]), N0, rfl⟩

theorem own_u (x : Int32) : (x.toInt = (x.toUInt32.toNat : Int) ∧ x.toUInt32.toNat < 2 ^ 31) ∨ (x.toInt = (x.toUInt32.toNat : Int) - 2 ^ 32 ∧ 2 ^ 31 ≤ x.toUInt32.toNat ∧ x.toUInt32.toNat < 2 ^ 32) := by
  have h : x.toInt = x.toUInt32.toBitVec.toInt := rfl
  have hn : x.toUInt32.toBitVec.toNat = x.toUInt32.toNat := rfl
  have hl := x.toUInt32.toNat_lt
  rw [h, BitVec.toInt_eq_toNat_cond, hn]
  split <;> omega
theorem own_sh (x : Int32) : ((x.toUInt32 >>> ((30 : Int32) &&& 31).toUInt32).toInt32 = (0 : Int32)) ↔ x.toUInt32.toNat / 2 ^ 30 = 0 := by
  have e : (x.toUInt32 >>> ((30 : Int32) &&& 31).toUInt32).toNat = x.toUInt32.toNat / 2 ^ 30 := by
    rw [UInt32.toNat_shiftRight, Nat.shiftRight_eq_div_pow]
    rfl
  constructor
  · intro h
    rw [← e]
    have h2 : (x.toUInt32 >>> ((30 : Int32) &&& 31).toUInt32) = (0 : Int32).toUInt32 := congrArg Int32.toUInt32 h
    rw [h2]; rfl
  · intro h
    rw [← e] at h
    have h2 : (x.toUInt32 >>> ((30 : Int32) &&& 31).toUInt32) = (0 : UInt32) := UInt32.toNat_inj.mp h
    rw [h2]; rfl
theorem own_eq (x : Int32) : own_f1 x = own_f2 x := by
  unfold own_f1 own_f2
  have hu := own_u x
  have hs := own_sh x
  have e0 : (0 : Int32).toInt = 0 := rfl
  have e1 : (1073741823 : Int32).toInt = 1073741823 := rfl
  by_cases h1 : x < (0 : Int32)
  · have h1' := h1
    rw [Int32.lt_iff_toInt_lt] at h1'
    have h2 : ¬ ((x.toUInt32 >>> ((30 : Int32) &&& 31).toUInt32).toInt32 = (0 : Int32)) := fun q => by have := hs.mp q; omega
    simp only [if_pos h1, if_neg h2]
  · have h1' := h1
    rw [Int32.lt_iff_toInt_lt] at h1'
    by_cases h3 : (1073741823 : Int32) < x
    · have h3' := h3
      rw [Int32.lt_iff_toInt_lt] at h3'
      have h2 : ¬ ((x.toUInt32 >>> ((30 : Int32) &&& 31).toUInt32).toInt32 = (0 : Int32)) := fun q => by have := hs.mp q; omega
      simp only [if_neg h1, if_pos h3, if_neg h2]
    · have h3' := h3
      rw [Int32.lt_iff_toInt_lt] at h3'
      have h2 : (x.toUInt32 >>> ((30 : Int32) &&& 31).toUInt32).toInt32 = (0 : Int32) := hs.mpr (by omega)
      simp only [if_neg h1, if_neg h3, if_pos h2]
theorem own_low (y : Int32) : own_f1 ((y &&& (3 : Int32)) - (2 : Int32)) = (if ((y &&& (3 : Int32)) - (2 : Int32)) < (0 : Int32) then (0 : Int32) else (1 : Int32)) := by
  have h : (y &&& 3).toInt = y.toInt % 2 ^ 2 := Jvm.Kit.i32_mask y 3 (k := 2) (by decide) (by decide)
  have e2 : (2 : Int32).toInt = 2 := rfl
  have hv : ((y &&& (3 : Int32)) - (2 : Int32)).toInt = (y &&& 3).toInt - 2 := by rw [← e2]; exact Jvm.Kit.i32_sub (by omega) (by omega)
  have e1 : (1073741823 : Int32).toInt = 1073741823 := rfl
  have h3 : ¬ (1073741823 : Int32) < ((y &&& (3 : Int32)) - (2 : Int32)) := by rw [Int32.lt_iff_toInt_lt]; omega
  unfold own_f1
  simp only [if_neg h3]

theorem pn_0 : plainName "com/example/dirtytree/dirtytree/MeasureSpecIsSizePinLaw" = true := by first | (simp [plainName, overriddenIn]; done) | decide +kernel
theorem pd_0_0 : parseMethodDescriptor "(I)Z" = some ⟨[.int], some .boolean⟩ := by decide +kernel
theorem ef_0 (m : MethodId) (p1 : Int32) (p2 : Int32) : entryFrame m #[(.int p1), (.int p2)] maxLocals = mkF m 0 #[.val (.int p1), .val (.int p2), .unset, .unset] [] := by first | (simp [entryFrame, mkF, argsToLocals, Value.category, maxLocals]; done) | rfl
def Q0 (Z : State) (p1 : Int32) (p2 : Int32) (h0 : Heap) (n0 : Nat) (v : Option Value) (h : Heap) (L : List Loc) : Prop := v = some (.int (1 : Int32)) ∧ Fr n0 L
set_option maxRecDepth 65536 in
set_option maxHeartbeats 40000000 in
theorem rm0 (l : Launch) (Z : State) (a0 : Array Value) (hw : ∀ d ∈ tables_1, d.before a0 Z = true) (ws : List Jvm.Cond) (p1 : Int32) (p2 : Int32) (h0 : Heap) (n0 : Nat) (Z0 : n0 ≤ h0.size) :
    MetFree l x (head1 (Jvm.Cond.code x code maxLocals ret :: ws) room_1) (fun a U => a = #[(.int p1), (.int p2)] ∧ Z.Warmed39 U.vm ∧ U.heap = h0) (fun _ _ _ _ _ => True) (fun _ U o U' => ∃ v L, o = .returned v ∧ Q0 Z p1 p2 h0 n0 v U'.heap L ∧ FrameEnd U o U' L room_1.cells room_1.slots) := by
  refine MetFree.of_bodySF (plainFor_of_name pn_0) hisR ?_
  intro p e s m args below meth c s₁ Bd hml0 hP hK
  obtain ⟨rfl, hZ, hh⟩ := hP
  have hx := Bd.exec
  have hby := Bd.bytes
  have hml : c.maxLocals = 4 := hml0
  have hown : s.vm.findClass "com/example/dirtytree/dirtytree/MeasureSpecIsSizePinLaw" = some m.cls := findClass_of_methodNamed Bd.named
  have hnm := (name_of_methodNamed Bd.named Bd.method).1
  have X0 : Stand p l e room_1 s m #[(.int p1), (.int p2)] below meth c s₁ [] 0 0 := Stand.of_body Bd
  have e0 : s₁.heap = h0 := by rw [← hh, Bd.state]; rfl
  have N0 := Fr.nil n0
  refine own_start (fun t k => castTop (ef_0 m p1 p2) k) ?_
  show own_G p.tables e below _ (s₁.setTop (mkF m 0 #[.val (.int p1), .val (.int p2), .unset, .unset] []))
  refine own_step (fun t k => XS.iloadN X0.here hx rfl (hb hby at_0) rfl k) ?_
  show own_G p.tables e below _ (s₁.setTop (mkF m 1 #[.val (.int p1), .val (.int p2), .unset, .unset] [(.int p1)]))
  obtain ⟨_, _, ⟨T1, L1, k1, n1⟩, -, X1, ⟨Lc1, hQ1, l1, y1, z1⟩, st1⟩ := Jvm.LawKit.callS X0 hx (y := (⟨"com/example/dirtytree/dirtytree/MeasureSpec", "isSize", "(I)Z"⟩ : MethodName)) hown (mvT hZ (hw _ (List.mem_of_getElem? (i := 0) rfl))) (mvT hZ (hw _ (List.mem_of_getElem? (i := 1) rfl))) (mvT hZ (hw _ (List.mem_of_getElem? (i := 2) rfl))) (mvT hZ (hw _ (List.mem_of_getElem? (i := 3) rfl))) (by decide) (backOf (W := 0) (rm1 l Z a0 hw [] p1 h0 n0 (Nat.le_trans Z0 (Keep.refl h0 []).1) ) hZ (hw _ (List.mem_of_getElem? (i := 3) rfl)) (hw _ (List.mem_of_getElem? (i := 2) rfl)) (by decide) (by decide)) (g := (mkF m 1 #[.val (.int p1), .val (.int p2), .unset, .unset] [(.int p1)])) rfl (by rw [hml]; rfl) (argsL := [(.int p1)]) (rest := []) (lenOf pd_0_0 rfl) rfl (by show 2 * 0 + _ ≤ _; exact Nat.le_of_eq rfl) (hb hby at_1) (fun _ _ => ⟨rfl, e0, (by decide : 0 + 0 ≤ _), (by decide : 0 + 0 ≤ _)⟩)
  dsimp only [Pt.U, Pt.locs, Pt.cells, Pt.slots] at X1 l1 y1 z1 st1 hQ1
  subst l1 y1 z1
  obtain ⟨rfl, N1q, e1⟩ := hQ1
  have N1 := Fr.app N0 N1q
  refine own_step st1 ?_
  show own_G p.tables e below _ (T1.setTop (mkF m 4 #[.val (.int p1), .val (.int p2), .unset, .unset] [(.int (own_f1 p1))]))
  refine own_step (fun t k => XS.iloadN X1.here hx rfl (hb hby at_4) rfl k) ?_
  show own_G p.tables e below _ (T1.setTop (mkF m 5 #[.val (.int p1), .val (.int p2), .unset, .unset] [(.int p1), (.int (own_f1 p1))]))
  obtain ⟨_, _, ⟨T2, L2, k2, n2⟩, -, X2, ⟨Lc2, hQ2, l2, y2, z2⟩, st2⟩ := Jvm.LawKit.callS X1 hx (y := (⟨"com/example/dirtytree/dirtytree/MeasureSpecIsSizePinLaw", "ref", "(I)Z"⟩ : MethodName)) hown (mvT hZ (hw _ (List.mem_of_getElem? (i := 5) rfl))) (mvT hZ (hw _ (List.mem_of_getElem? (i := 6) rfl))) (mvT hZ (hw _ (List.mem_of_getElem? (i := 7) rfl))) (mvT hZ (hw _ (List.mem_of_getElem? (i := 8) rfl))) (by decide) (backOf (W := 1) (rm2 l Z a0 hw [] p1 h0 n0 (Nat.le_trans Z0 (Keep.refl h0 []).1) ) hZ (hw _ (List.mem_of_getElem? (i := 8) rfl)) (hw _ (List.mem_of_getElem? (i := 7) rfl)) (by decide) (by decide)) (g := (mkF m 5 #[.val (.int p1), .val (.int p2), .unset, .unset] [(.int p1), (.int (own_f1 p1))])) rfl (by rw [hml]; rfl) (argsL := [(.int p1)]) (rest := [(.int (own_f1 p1))]) (lenOf pd_0_0 rfl) rfl (by show 2 * 0 + _ ≤ _; exact Nat.le_of_eq rfl) (hb hby at_5) (fun _ _ => ⟨rfl, e1, (by decide : 0 + 0 ≤ _), (by decide : 0 + 0 ≤ _)⟩)
  dsimp only [Pt.U, Pt.locs, Pt.cells, Pt.slots] at X2 l2 y2 z2 st2 hQ2
  subst l2 y2 z2
  obtain ⟨rfl, N2q, e2⟩ := hQ2
  have N2 := Fr.app N1 N2q
  refine own_step st2 ?_
  show own_G p.tables e below _ (T2.setTop (mkF m 8 #[.val (.int p1), .val (.int p2), .unset, .unset] [(.int (own_f2 p1)), (.int (own_f1 p1))]))
  have hk3 : (own_f1 p1) = (own_f2 p1) := own_eq _
  refine own_step (fun t k => XS.icmpYes X2.here hx rfl (pc0 := 8) (pc' := 13) rfl (hb hby at_8) rfl ((teq hk3).1) (by decide) (by decide) k) ?_
  show own_G p.tables e below _ (T2.setTop (mkF m 13 #[.val (.int p1), .val (.int p2), .unset, .unset] []))
  refine own_step (X2.ldcInt hx hown (mvT hZ (hw _ (List.mem_of_getElem? (i := 9) rfl))) (g := (mkF m 13 #[.val (.int p1), .val (.int p2), .unset, .unset] [])) rfl (hb hby at_13)) ?_
  show own_G p.tables e below _ (T2.setTop (mkF m 15 #[.val (.int p1), .val (.int p2), .unset, .unset] [(.int (1073741823 : Int32))]))
  refine own_step (fun t k => XS.iloadN X2.here hx rfl (hb hby at_15) rfl k) ?_
  show own_G p.tables e below _ (T2.setTop (mkF m 16 #[.val (.int p1), .val (.int p2), .unset, .unset] [(.int p2), (.int (1073741823 : Int32))]))
  refine own_step (fun t k => XS.iconst X2.here hx rfl (hb hby at_16) k) ?_
  show own_G p.tables e below _ (T2.setTop (mkF m 17 #[.val (.int p1), .val (.int p2), .unset, .unset] [(.int (3 : Int32)), (.int p2), (.int (1073741823 : Int32))]))
  refine own_step (fun t k => XS.iand X2.here hx rfl (hb hby at_17) rfl k) ?_
  show own_G p.tables e below _ (T2.setTop (mkF m 18 #[.val (.int p1), .val (.int p2), .unset, .unset] [(.int (p2 &&& (3 : Int32))), (.int (1073741823 : Int32))]))
  refine own_step (fun t k => XS.iconst X2.here hx rfl (hb hby at_18) k) ?_
  show own_G p.tables e below _ (T2.setTop (mkF m 19 #[.val (.int p1), .val (.int p2), .unset, .unset] [(.int (1 : Int32)), (.int (p2 &&& (3 : Int32))), (.int (1073741823 : Int32))]))
  refine own_step (fun t k => XS.isub X2.here hx rfl (hb hby at_19) rfl k) ?_
  show own_G p.tables e below _ (T2.setTop (mkF m 20 #[.val (.int p1), .val (.int p2), .unset, .unset] [(.int ((p2 &&& (3 : Int32)) - (1 : Int32))), (.int (1073741823 : Int32))]))
  refine own_step (fun t k => XS.iadd X2.here hx rfl (hb hby at_20) rfl k) ?_
  show own_G p.tables e below _ (T2.setTop (mkF m 21 #[.val (.int p1), .val (.int p2), .unset, .unset] [(.int ((1073741823 : Int32) + ((p2 &&& (3 : Int32)) - (1 : Int32))))]))
  refine own_nm (((1073741823 : Int32) + ((p2 &&& (3 : Int32)) - (1 : Int32))) : Int32) (fun near => T2.setTop (mkF m 21 #[.val (.int p1), .val (.int p2), .unset, .unset] [(.int near)])) ?_
  intro near hd_near
  show own_G p.tables e below _ (T2.setTop (mkF m 21 #[.val (.int p1), .val (.int p2), .unset, .unset] [(.int near)]))
  refine own_step (fun t k => XS.istoreN X2.here hx rfl (hb hby at_21) rfl (l' := #[.val (.int p1), .val (.int p2), .val (.int near), .unset]) rfl k) ?_
  show own_G p.tables e below _ (T2.setTop (mkF m 22 #[.val (.int p1), .val (.int p2), .val (.int near), .unset] []))
  refine own_step (fun t k => XS.iloadN X2.here hx rfl (hb hby at_22) rfl k) ?_
  show own_G p.tables e below _ (T2.setTop (mkF m 23 #[.val (.int p1), .val (.int p2), .val (.int near), .unset] [(.int near)]))
  obtain ⟨_, _, ⟨T5, L5, k5, n5⟩, -, X5, ⟨Lc5, hQ5, l5, y5, z5⟩, st5⟩ := Jvm.LawKit.callS X2 hx (y := (⟨"com/example/dirtytree/dirtytree/MeasureSpec", "isSize", "(I)Z"⟩ : MethodName)) hown (mvT hZ (hw _ (List.mem_of_getElem? (i := 0) rfl))) (mvT hZ (hw _ (List.mem_of_getElem? (i := 1) rfl))) (mvT hZ (hw _ (List.mem_of_getElem? (i := 2) rfl))) (mvT hZ (hw _ (List.mem_of_getElem? (i := 3) rfl))) (by decide) (backOf (W := 0) (rm1 l Z a0 hw [] near h0 n0 (Nat.le_trans Z0 (Keep.refl h0 []).1) ) hZ (hw _ (List.mem_of_getElem? (i := 3) rfl)) (hw _ (List.mem_of_getElem? (i := 2) rfl)) (by decide) (by decide)) (g := (mkF m 23 #[.val (.int p1), .val (.int p2), .val (.int near), .unset] [(.int near)])) rfl (by rw [hml]; rfl) (argsL := [(.int near)]) (rest := []) (lenOf pd_0_0 rfl) rfl (by show 2 * 0 + _ ≤ _; exact Nat.le_of_eq rfl) (hb hby at_23) (fun _ _ => ⟨rfl, e2, (by decide : 0 + 0 ≤ _), (by decide : 0 + 0 ≤ _)⟩)
  dsimp only [Pt.U, Pt.locs, Pt.cells, Pt.slots] at X5 l5 y5 z5 st5 hQ5
  subst l5 y5 z5
  obtain ⟨rfl, N5q, e5⟩ := hQ5
  have N5 := Fr.app N2 N5q
  refine own_step st5 ?_
  show own_G p.tables e below _ (T5.setTop (mkF m 26 #[.val (.int p1), .val (.int p2), .val (.int near), .unset] [(.int (own_f1 near))]))
  refine own_step (fun t k => XS.iloadN X5.here hx rfl (hb hby at_26) rfl k) ?_
  show own_G p.tables e below _ (T5.setTop (mkF m 27 #[.val (.int p1), .val (.int p2), .val (.int near), .unset] [(.int near), (.int (own_f1 near))]))
  obtain ⟨_, _, ⟨T6, L6, k6, n6⟩, -, X6, ⟨Lc6, hQ6, l6, y6, z6⟩, st6⟩ := Jvm.LawKit.callS X5 hx (y := (⟨"com/example/dirtytree/dirtytree/MeasureSpecIsSizePinLaw", "ref", "(I)Z"⟩ : MethodName)) hown (mvT hZ (hw _ (List.mem_of_getElem? (i := 5) rfl))) (mvT hZ (hw _ (List.mem_of_getElem? (i := 6) rfl))) (mvT hZ (hw _ (List.mem_of_getElem? (i := 7) rfl))) (mvT hZ (hw _ (List.mem_of_getElem? (i := 8) rfl))) (by decide) (backOf (W := 1) (rm2 l Z a0 hw [] near h0 n0 (Nat.le_trans Z0 (Keep.refl h0 []).1) ) hZ (hw _ (List.mem_of_getElem? (i := 8) rfl)) (hw _ (List.mem_of_getElem? (i := 7) rfl)) (by decide) (by decide)) (g := (mkF m 27 #[.val (.int p1), .val (.int p2), .val (.int near), .unset] [(.int near), (.int (own_f1 near))])) rfl (by rw [hml]; rfl) (argsL := [(.int near)]) (rest := [(.int (own_f1 near))]) (lenOf pd_0_0 rfl) rfl (by show 2 * 0 + _ ≤ _; exact Nat.le_of_eq rfl) (hb hby at_27) (fun _ _ => ⟨rfl, e5, (by decide : 0 + 0 ≤ _), (by decide : 0 + 0 ≤ _)⟩)
  dsimp only [Pt.U, Pt.locs, Pt.cells, Pt.slots] at X6 l6 y6 z6 st6 hQ6
  subst l6 y6 z6
  obtain ⟨rfl, N6q, e6⟩ := hQ6
  have N6 := Fr.app N5 N6q
  refine own_step st6 ?_
  show own_G p.tables e below _ (T6.setTop (mkF m 30 #[.val (.int p1), .val (.int p2), .val (.int near), .unset] [(.int (own_f2 near)), (.int (own_f1 near))]))
  have hk7 : (own_f1 near) = (own_f2 near) := own_eq _
  refine own_step (fun t k => XS.icmpYes X6.here hx rfl (pc0 := 30) (pc' := 35) rfl (hb hby at_30) rfl ((teq hk7).1) (by decide) (by decide) k) ?_
  show own_G p.tables e below _ (T6.setTop (mkF m 35 #[.val (.int p1), .val (.int p2), .val (.int near), .unset] []))
  refine own_step (fun t k => XS.iloadN X6.here hx rfl (hb hby at_35) rfl k) ?_
  show own_G p.tables e below _ (T6.setTop (mkF m 36 #[.val (.int p1), .val (.int p2), .val (.int near), .unset] [(.int p2)]))
  refine own_step (fun t k => XS.iconst X6.here hx rfl (hb hby at_36) k) ?_
  show own_G p.tables e below _ (T6.setTop (mkF m 37 #[.val (.int p1), .val (.int p2), .val (.int near), .unset] [(.int (2 : Int32)), (.int p2)]))
  refine own_step (fun t k => XS.ishr X6.here hx rfl (hb hby at_37) rfl k) ?_
  show own_G p.tables e below _ (T6.setTop (mkF m 38 #[.val (.int p1), .val (.int p2), .val (.int near), .unset] [(.int (p2 >>> ((2 : Int32) &&& 31)))]))
  refine own_step (fun t k => XS.iconst X6.here hx rfl (hb hby at_38) k) ?_
  show own_G p.tables e below _ (T6.setTop (mkF m 39 #[.val (.int p1), .val (.int p2), .val (.int near), .unset] [(.int (3 : Int32)), (.int (p2 >>> ((2 : Int32) &&& 31)))]))
  refine own_step (fun t k => XS.iand X6.here hx rfl (hb hby at_39) rfl k) ?_
  show own_G p.tables e below _ (T6.setTop (mkF m 40 #[.val (.int p1), .val (.int p2), .val (.int near), .unset] [(.int ((p2 >>> ((2 : Int32) &&& 31)) &&& (3 : Int32)))]))
  refine own_step (fun t k => XS.iconst X6.here hx rfl (hb hby at_40) k) ?_
  show own_G p.tables e below _ (T6.setTop (mkF m 41 #[.val (.int p1), .val (.int p2), .val (.int near), .unset] [(.int (2 : Int32)), (.int ((p2 >>> ((2 : Int32) &&& 31)) &&& (3 : Int32)))]))
  refine own_step (fun t k => XS.isub X6.here hx rfl (hb hby at_41) rfl k) ?_
  show own_G p.tables e below _ (T6.setTop (mkF m 42 #[.val (.int p1), .val (.int p2), .val (.int near), .unset] [(.int (((p2 >>> ((2 : Int32) &&& 31)) &&& (3 : Int32)) - (2 : Int32)))]))
  refine own_nm ((((p2 >>> ((2 : Int32) &&& 31)) &&& (3 : Int32)) - (2 : Int32)) : Int32) (fun low => T6.setTop (mkF m 42 #[.val (.int p1), .val (.int p2), .val (.int near), .unset] [(.int low)])) ?_
  intro low hd_low
  show own_G p.tables e below _ (T6.setTop (mkF m 42 #[.val (.int p1), .val (.int p2), .val (.int near), .unset] [(.int low)]))
  refine own_step (fun t k => XS.istoreN X6.here hx rfl (hb hby at_42) rfl (l' := #[.val (.int p1), .val (.int p2), .val (.int near), .val (.int low)]) rfl k) ?_
  show own_G p.tables e below _ (T6.setTop (mkF m 43 #[.val (.int p1), .val (.int p2), .val (.int near), .val (.int low)] []))
  refine own_step (fun t k => XS.iloadN X6.here hx rfl (hb hby at_43) rfl k) ?_
  show own_G p.tables e below _ (T6.setTop (mkF m 44 #[.val (.int p1), .val (.int p2), .val (.int near), .val (.int low)] [(.int low)]))
  obtain ⟨_, _, ⟨T9, L9, k9, n9⟩, -, X9, ⟨Lc9, hQ9, l9, y9, z9⟩, st9⟩ := Jvm.LawKit.callS X6 hx (y := (⟨"com/example/dirtytree/dirtytree/MeasureSpec", "isSize", "(I)Z"⟩ : MethodName)) hown (mvT hZ (hw _ (List.mem_of_getElem? (i := 0) rfl))) (mvT hZ (hw _ (List.mem_of_getElem? (i := 1) rfl))) (mvT hZ (hw _ (List.mem_of_getElem? (i := 2) rfl))) (mvT hZ (hw _ (List.mem_of_getElem? (i := 3) rfl))) (by decide) (backOf (W := 0) (rm1 l Z a0 hw [] low h0 n0 (Nat.le_trans Z0 (Keep.refl h0 []).1) ) hZ (hw _ (List.mem_of_getElem? (i := 3) rfl)) (hw _ (List.mem_of_getElem? (i := 2) rfl)) (by decide) (by decide)) (g := (mkF m 44 #[.val (.int p1), .val (.int p2), .val (.int near), .val (.int low)] [(.int low)])) rfl (by rw [hml]; rfl) (argsL := [(.int low)]) (rest := []) (lenOf pd_0_0 rfl) rfl (by show 2 * 0 + _ ≤ _; exact Nat.le_of_eq rfl) (hb hby at_44) (fun _ _ => ⟨rfl, e6, (by decide : 0 + 0 ≤ _), (by decide : 0 + 0 ≤ _)⟩)
  dsimp only [Pt.U, Pt.locs, Pt.cells, Pt.slots] at X9 l9 y9 z9 st9 hQ9
  subst l9 y9 z9
  obtain ⟨rfl, N9q, e9⟩ := hQ9
  have N9 := Fr.app N6 N9q
  refine own_step st9 ?_
  show own_G p.tables e below _ (T9.setTop (mkF m 47 #[.val (.int p1), .val (.int p2), .val (.int near), .val (.int low)] [(.int (own_f1 low))]))
  refine own_step (fun t k => XS.iloadN X9.here hx rfl (hb hby at_47) rfl k) ?_
  show own_G p.tables e below _ (T9.setTop (mkF m 48 #[.val (.int p1), .val (.int p2), .val (.int near), .val (.int low)] [(.int low), (.int (own_f1 low))]))
  refine own_imp (B := T9.setTop (mkF m 56 #[.val (.int p1), .val (.int p2), .val (.int near), .val (.int low)] [(.int (if low < (0 : Int32) then (0 : Int32) else (1 : Int32))), (.int (own_f1 low))])) (fun k0 => ?_) ?_
  · by_cases hc10 : low < (0 : Int32)
    · simp only [if_pos hc10] at k0
      refine own_step (fun t k => XS.ifYes X9.here hx rfl (pc0 := 48) (pc' := 55) rfl (hb hby at_48) rfl ((if0 _ _).trans (tlt hc10).1) (by decide) (by decide) k) ?_
      show own_G p.tables e below _ (T9.setTop (mkF m 55 #[.val (.int p1), .val (.int p2), .val (.int near), .val (.int low)] [(.int (own_f1 low))]))
      refine own_step (fun t k => XS.iconst X9.here hx rfl (hb hby at_55) k) ?_
      show own_G p.tables e below _ (T9.setTop (mkF m 56 #[.val (.int p1), .val (.int p2), .val (.int near), .val (.int low)] [(.int (0 : Int32)), (.int (own_f1 low))]))
      exact k0
    · simp only [if_neg hc10] at k0
      refine own_step (fun t k => XS.ifNo X9.here hx rfl (hb hby at_48) rfl ((if0 _ _).trans (flt hc10).1) k) ?_
      show own_G p.tables e below _ (T9.setTop (mkF m 51 #[.val (.int p1), .val (.int p2), .val (.int near), .val (.int low)] [(.int (own_f1 low))]))
      refine own_step (fun t k => XS.iconst X9.here hx rfl (hb hby at_51) k) ?_
      show own_G p.tables e below _ (T9.setTop (mkF m 52 #[.val (.int p1), .val (.int p2), .val (.int near), .val (.int low)] [(.int (1 : Int32)), (.int (own_f1 low))]))
      refine own_step (fun t k => XS.goto X9.here hx rfl (pc0 := 52) (pc' := 56) rfl (hb hby at_52) (by decide) (by decide) k) ?_
      show own_G p.tables e below _ (T9.setTop (mkF m 56 #[.val (.int p1), .val (.int p2), .val (.int near), .val (.int low)] [(.int (1 : Int32)), (.int (own_f1 low))]))
      exact k0
  show own_G p.tables e below _ (T9.setTop (mkF m 56 #[.val (.int p1), .val (.int p2), .val (.int near), .val (.int low)] [(.int (if low < (0 : Int32) then (0 : Int32) else (1 : Int32))), (.int (own_f1 low))]))
  refine own_nm ((if low < (0 : Int32) then (0 : Int32) else (1 : Int32)) : Int32) (fun ge => T9.setTop (mkF m 56 #[.val (.int p1), .val (.int p2), .val (.int near), .val (.int low)] [(.int ge), (.int (own_f1 low))])) ?_
  intro ge hd_ge
  show own_G p.tables e below _ (T9.setTop (mkF m 56 #[.val (.int p1), .val (.int p2), .val (.int near), .val (.int low)] [(.int ge), (.int (own_f1 low))]))
  have hk11 : (own_f1 low) = ge := (by rw [hd_ge, hd_low]; exact own_low _)
  refine own_step (fun t k => XS.icmpYes X9.here hx rfl (pc0 := 56) (pc' := 61) rfl (hb hby at_56) rfl ((teq hk11).1) (by decide) (by decide) k) ?_
  show own_G p.tables e below _ (T9.setTop (mkF m 61 #[.val (.int p1), .val (.int p2), .val (.int near), .val (.int low)] []))
  refine own_step (fun t k => XS.iconst X9.here hx rfl (hb hby at_61) k) ?_
  show own_G p.tables e below _ (T9.setTop (mkF m 62 #[.val (.int p1), .val (.int p2), .val (.int near), .val (.int low)] [(.int (0 : Int32))]))
  obtain ⟨_, _, ⟨T12, L12, k12, n12⟩, -, X12, ⟨Lc12, hQ12, l12, y12, z12⟩, st12⟩ := Jvm.LawKit.callS X9 hx (y := (⟨"com/example/dirtytree/dirtytree/MeasureSpec", "isSize", "(I)Z"⟩ : MethodName)) hown (mvT hZ (hw _ (List.mem_of_getElem? (i := 0) rfl))) (mvT hZ (hw _ (List.mem_of_getElem? (i := 1) rfl))) (mvT hZ (hw _ (List.mem_of_getElem? (i := 2) rfl))) (mvT hZ (hw _ (List.mem_of_getElem? (i := 3) rfl))) (by decide) (backOf (W := 0) (rm1 l Z a0 hw [] (0 : Int32) h0 n0 (Nat.le_trans Z0 (Keep.refl h0 []).1) ) hZ (hw _ (List.mem_of_getElem? (i := 3) rfl)) (hw _ (List.mem_of_getElem? (i := 2) rfl)) (by decide) (by decide)) (g := (mkF m 62 #[.val (.int p1), .val (.int p2), .val (.int near), .val (.int low)] [(.int (0 : Int32))])) rfl (by rw [hml]; rfl) (argsL := [(.int (0 : Int32))]) (rest := []) (lenOf pd_0_0 rfl) rfl (by show 2 * 0 + _ ≤ _; exact Nat.le_of_eq rfl) (hb hby at_62) (fun _ _ => ⟨rfl, e9, (by decide : 0 + 0 ≤ _), (by decide : 0 + 0 ≤ _)⟩)
  dsimp only [Pt.U, Pt.locs, Pt.cells, Pt.slots] at X12 l12 y12 z12 st12 hQ12
  subst l12 y12 z12
  obtain ⟨rfl, N12q, e12⟩ := hQ12
  have N12 := Fr.app N9 N12q
  refine own_step st12 ?_
  show own_G p.tables e below _ (T12.setTop (mkF m 65 #[.val (.int p1), .val (.int p2), .val (.int near), .val (.int low)] [(.int (own_f1 (0 : Int32)))]))
  have hk13 : ¬ ((own_f1 (0 : Int32)) = (0 : Int32)) := (by decide +kernel)
  refine own_step (fun t k => XS.ifNo X12.here hx rfl (hb hby at_65) rfl ((if0 _ _).trans (feq hk13).1) k) ?_
  show own_G p.tables e below _ (T12.setTop (mkF m 68 #[.val (.int p1), .val (.int p2), .val (.int near), .val (.int low)] []))
  refine own_step (X12.ldcInt hx hown (mvT hZ (hw _ (List.mem_of_getElem? (i := 9) rfl))) (g := (mkF m 68 #[.val (.int p1), .val (.int p2), .val (.int near), .val (.int low)] [])) rfl (hb hby at_68)) ?_
  show own_G p.tables e below _ (T12.setTop (mkF m 70 #[.val (.int p1), .val (.int p2), .val (.int near), .val (.int low)] [(.int (1073741823 : Int32))]))
  obtain ⟨_, _, ⟨T14, L14, k14, n14⟩, -, X14, ⟨Lc14, hQ14, l14, y14, z14⟩, st14⟩ := Jvm.LawKit.callS X12 hx (y := (⟨"com/example/dirtytree/dirtytree/MeasureSpec", "isSize", "(I)Z"⟩ : MethodName)) hown (mvT hZ (hw _ (List.mem_of_getElem? (i := 0) rfl))) (mvT hZ (hw _ (List.mem_of_getElem? (i := 1) rfl))) (mvT hZ (hw _ (List.mem_of_getElem? (i := 2) rfl))) (mvT hZ (hw _ (List.mem_of_getElem? (i := 3) rfl))) (by decide) (backOf (W := 0) (rm1 l Z a0 hw [] (1073741823 : Int32) h0 n0 (Nat.le_trans Z0 (Keep.refl h0 []).1) ) hZ (hw _ (List.mem_of_getElem? (i := 3) rfl)) (hw _ (List.mem_of_getElem? (i := 2) rfl)) (by decide) (by decide)) (g := (mkF m 70 #[.val (.int p1), .val (.int p2), .val (.int near), .val (.int low)] [(.int (1073741823 : Int32))])) rfl (by rw [hml]; rfl) (argsL := [(.int (1073741823 : Int32))]) (rest := []) (lenOf pd_0_0 rfl) rfl (by show 2 * 0 + _ ≤ _; exact Nat.le_of_eq rfl) (hb hby at_70) (fun _ _ => ⟨rfl, e12, (by decide : 0 + 0 ≤ _), (by decide : 0 + 0 ≤ _)⟩)
  dsimp only [Pt.U, Pt.locs, Pt.cells, Pt.slots] at X14 l14 y14 z14 st14 hQ14
  subst l14 y14 z14
  obtain ⟨rfl, N14q, e14⟩ := hQ14
  have N14 := Fr.app N12 N14q
  refine own_step st14 ?_
  show own_G p.tables e below _ (T14.setTop (mkF m 73 #[.val (.int p1), .val (.int p2), .val (.int near), .val (.int low)] [(.int (own_f1 (1073741823 : Int32)))]))
  have hk15 : ¬ ((own_f1 (1073741823 : Int32)) = (0 : Int32)) := (by decide +kernel)
  refine own_step (fun t k => XS.ifNo X14.here hx rfl (hb hby at_73) rfl ((if0 _ _).trans (feq hk15).1) k) ?_
  show own_G p.tables e below _ (T14.setTop (mkF m 76 #[.val (.int p1), .val (.int p2), .val (.int near), .val (.int low)] []))
  refine own_step (X14.ldcInt hx hown (mvT hZ (hw _ (List.mem_of_getElem? (i := 10) rfl))) (g := (mkF m 76 #[.val (.int p1), .val (.int p2), .val (.int near), .val (.int low)] [])) rfl (hb hby at_76)) ?_
  show own_G p.tables e below _ (T14.setTop (mkF m 78 #[.val (.int p1), .val (.int p2), .val (.int near), .val (.int low)] [(.int (1073741824 : Int32))]))
  obtain ⟨_, _, ⟨T16, L16, k16, n16⟩, -, X16, ⟨Lc16, hQ16, l16, y16, z16⟩, st16⟩ := Jvm.LawKit.callS X14 hx (y := (⟨"com/example/dirtytree/dirtytree/MeasureSpec", "isSize", "(I)Z"⟩ : MethodName)) hown (mvT hZ (hw _ (List.mem_of_getElem? (i := 0) rfl))) (mvT hZ (hw _ (List.mem_of_getElem? (i := 1) rfl))) (mvT hZ (hw _ (List.mem_of_getElem? (i := 2) rfl))) (mvT hZ (hw _ (List.mem_of_getElem? (i := 3) rfl))) (by decide) (backOf (W := 0) (rm1 l Z a0 hw [] (1073741824 : Int32) h0 n0 (Nat.le_trans Z0 (Keep.refl h0 []).1) ) hZ (hw _ (List.mem_of_getElem? (i := 3) rfl)) (hw _ (List.mem_of_getElem? (i := 2) rfl)) (by decide) (by decide)) (g := (mkF m 78 #[.val (.int p1), .val (.int p2), .val (.int near), .val (.int low)] [(.int (1073741824 : Int32))])) rfl (by rw [hml]; rfl) (argsL := [(.int (1073741824 : Int32))]) (rest := []) (lenOf pd_0_0 rfl) rfl (by show 2 * 0 + _ ≤ _; exact Nat.le_of_eq rfl) (hb hby at_78) (fun _ _ => ⟨rfl, e14, (by decide : 0 + 0 ≤ _), (by decide : 0 + 0 ≤ _)⟩)
  dsimp only [Pt.U, Pt.locs, Pt.cells, Pt.slots] at X16 l16 y16 z16 st16 hQ16
  subst l16 y16 z16
  obtain ⟨rfl, N16q, e16⟩ := hQ16
  have N16 := Fr.app N14 N16q
  refine own_step st16 ?_
  show own_G p.tables e below _ (T16.setTop (mkF m 81 #[.val (.int p1), .val (.int p2), .val (.int near), .val (.int low)] [(.int (own_f1 (1073741824 : Int32)))]))
  have hk17 : (own_f1 (1073741824 : Int32)) = (0 : Int32) := (by decide +kernel)
  refine own_step (fun t k => XS.ifNo X16.here hx rfl (hb hby at_81) rfl ((if0 _ _).trans (teq hk17).2) k) ?_
  show own_G p.tables e below _ (T16.setTop (mkF m 84 #[.val (.int p1), .val (.int p2), .val (.int near), .val (.int low)] []))
  refine own_step (fun t k => XS.iconst X16.here hx rfl (hb hby at_84) k) ?_
  show own_G p.tables e below _ (T16.setTop (mkF m 85 #[.val (.int p1), .val (.int p2), .val (.int near), .val (.int low)] [(.int (-1 : Int32))]))
  obtain ⟨_, _, ⟨T18, L18, k18, n18⟩, -, X18, ⟨Lc18, hQ18, l18, y18, z18⟩, st18⟩ := Jvm.LawKit.callS X16 hx (y := (⟨"com/example/dirtytree/dirtytree/MeasureSpec", "isSize", "(I)Z"⟩ : MethodName)) hown (mvT hZ (hw _ (List.mem_of_getElem? (i := 0) rfl))) (mvT hZ (hw _ (List.mem_of_getElem? (i := 1) rfl))) (mvT hZ (hw _ (List.mem_of_getElem? (i := 2) rfl))) (mvT hZ (hw _ (List.mem_of_getElem? (i := 3) rfl))) (by decide) (backOf (W := 0) (rm1 l Z a0 hw [] (-1 : Int32) h0 n0 (Nat.le_trans Z0 (Keep.refl h0 []).1) ) hZ (hw _ (List.mem_of_getElem? (i := 3) rfl)) (hw _ (List.mem_of_getElem? (i := 2) rfl)) (by decide) (by decide)) (g := (mkF m 85 #[.val (.int p1), .val (.int p2), .val (.int near), .val (.int low)] [(.int (-1 : Int32))])) rfl (by rw [hml]; rfl) (argsL := [(.int (-1 : Int32))]) (rest := []) (lenOf pd_0_0 rfl) rfl (by show 2 * 0 + _ ≤ _; exact Nat.le_of_eq rfl) (hb hby at_85) (fun _ _ => ⟨rfl, e16, (by decide : 0 + 0 ≤ _), (by decide : 0 + 0 ≤ _)⟩)
  dsimp only [Pt.U, Pt.locs, Pt.cells, Pt.slots] at X18 l18 y18 z18 st18 hQ18
  subst l18 y18 z18
  obtain ⟨rfl, N18q, e18⟩ := hQ18
  have N18 := Fr.app N16 N18q
  refine own_step st18 ?_
  show own_G p.tables e below _ (T18.setTop (mkF m 88 #[.val (.int p1), .val (.int p2), .val (.int near), .val (.int low)] [(.int (own_f1 (-1 : Int32)))]))
  have hk19 : (own_f1 (-1 : Int32)) = (0 : Int32) := (by decide +kernel)
  refine own_step (fun t k => XS.ifNo X18.here hx rfl (hb hby at_88) rfl ((if0 _ _).trans (teq hk19).2) k) ?_
  show own_G p.tables e below _ (T18.setTop (mkF m 91 #[.val (.int p1), .val (.int p2), .val (.int near), .val (.int low)] []))
  refine own_step (X18.ldcInt hx hown (mvT hZ (hw _ (List.mem_of_getElem? (i := 11) rfl))) (g := (mkF m 91 #[.val (.int p1), .val (.int p2), .val (.int near), .val (.int low)] [])) rfl (hb hby at_91)) ?_
  show own_G p.tables e below _ (T18.setTop (mkF m 93 #[.val (.int p1), .val (.int p2), .val (.int near), .val (.int low)] [(.int (-2147483648 : Int32))]))
  obtain ⟨_, _, ⟨T20, L20, k20, n20⟩, -, X20, ⟨Lc20, hQ20, l20, y20, z20⟩, st20⟩ := Jvm.LawKit.callS X18 hx (y := (⟨"com/example/dirtytree/dirtytree/MeasureSpec", "isSize", "(I)Z"⟩ : MethodName)) hown (mvT hZ (hw _ (List.mem_of_getElem? (i := 0) rfl))) (mvT hZ (hw _ (List.mem_of_getElem? (i := 1) rfl))) (mvT hZ (hw _ (List.mem_of_getElem? (i := 2) rfl))) (mvT hZ (hw _ (List.mem_of_getElem? (i := 3) rfl))) (by decide) (backOf (W := 0) (rm1 l Z a0 hw [] (-2147483648 : Int32) h0 n0 (Nat.le_trans Z0 (Keep.refl h0 []).1) ) hZ (hw _ (List.mem_of_getElem? (i := 3) rfl)) (hw _ (List.mem_of_getElem? (i := 2) rfl)) (by decide) (by decide)) (g := (mkF m 93 #[.val (.int p1), .val (.int p2), .val (.int near), .val (.int low)] [(.int (-2147483648 : Int32))])) rfl (by rw [hml]; rfl) (argsL := [(.int (-2147483648 : Int32))]) (rest := []) (lenOf pd_0_0 rfl) rfl (by show 2 * 0 + _ ≤ _; exact Nat.le_of_eq rfl) (hb hby at_93) (fun _ _ => ⟨rfl, e18, (by decide : 0 + 0 ≤ _), (by decide : 0 + 0 ≤ _)⟩)
  dsimp only [Pt.U, Pt.locs, Pt.cells, Pt.slots] at X20 l20 y20 z20 st20 hQ20
  subst l20 y20 z20
  obtain ⟨rfl, N20q, e20⟩ := hQ20
  have N20 := Fr.app N18 N20q
  refine own_step st20 ?_
  show own_G p.tables e below _ (T20.setTop (mkF m 96 #[.val (.int p1), .val (.int p2), .val (.int near), .val (.int low)] [(.int (own_f1 (-2147483648 : Int32)))]))
  have hk21 : (own_f1 (-2147483648 : Int32)) = (0 : Int32) := (by decide +kernel)
  refine own_step (fun t k => XS.ifNo X20.here hx rfl (hb hby at_96) rfl ((if0 _ _).trans (teq hk21).2) k) ?_
  show own_G p.tables e below _ (T20.setTop (mkF m 99 #[.val (.int p1), .val (.int p2), .val (.int near), .val (.int low)] []))
  refine own_step (X20.ldcInt hx hown (mvT hZ (hw _ (List.mem_of_getElem? (i := 12) rfl))) (g := (mkF m 99 #[.val (.int p1), .val (.int p2), .val (.int near), .val (.int low)] [])) rfl (hb hby at_99)) ?_
  show own_G p.tables e below _ (T20.setTop (mkF m 101 #[.val (.int p1), .val (.int p2), .val (.int near), .val (.int low)] [(.int (2147483647 : Int32))]))
  obtain ⟨_, _, ⟨T22, L22, k22, n22⟩, -, X22, ⟨Lc22, hQ22, l22, y22, z22⟩, st22⟩ := Jvm.LawKit.callS X20 hx (y := (⟨"com/example/dirtytree/dirtytree/MeasureSpec", "isSize", "(I)Z"⟩ : MethodName)) hown (mvT hZ (hw _ (List.mem_of_getElem? (i := 0) rfl))) (mvT hZ (hw _ (List.mem_of_getElem? (i := 1) rfl))) (mvT hZ (hw _ (List.mem_of_getElem? (i := 2) rfl))) (mvT hZ (hw _ (List.mem_of_getElem? (i := 3) rfl))) (by decide) (backOf (W := 0) (rm1 l Z a0 hw [] (2147483647 : Int32) h0 n0 (Nat.le_trans Z0 (Keep.refl h0 []).1) ) hZ (hw _ (List.mem_of_getElem? (i := 3) rfl)) (hw _ (List.mem_of_getElem? (i := 2) rfl)) (by decide) (by decide)) (g := (mkF m 101 #[.val (.int p1), .val (.int p2), .val (.int near), .val (.int low)] [(.int (2147483647 : Int32))])) rfl (by rw [hml]; rfl) (argsL := [(.int (2147483647 : Int32))]) (rest := []) (lenOf pd_0_0 rfl) rfl (by show 2 * 0 + _ ≤ _; exact Nat.le_of_eq rfl) (hb hby at_101) (fun _ _ => ⟨rfl, e20, (by decide : 0 + 0 ≤ _), (by decide : 0 + 0 ≤ _)⟩)
  dsimp only [Pt.U, Pt.locs, Pt.cells, Pt.slots] at X22 l22 y22 z22 st22 hQ22
  subst l22 y22 z22
  obtain ⟨rfl, N22q, e22⟩ := hQ22
  have N22 := Fr.app N20 N22q
  refine own_step st22 ?_
  show own_G p.tables e below _ (T22.setTop (mkF m 104 #[.val (.int p1), .val (.int p2), .val (.int near), .val (.int low)] [(.int (own_f1 (2147483647 : Int32)))]))
  have hk23 : (own_f1 (2147483647 : Int32)) = (0 : Int32) := (by decide +kernel)
  refine own_step (fun t k => XS.ifNo X22.here hx rfl (hb hby at_104) rfl ((if0 _ _).trans (teq hk23).2) k) ?_
  show own_G p.tables e below _ (T22.setTop (mkF m 107 #[.val (.int p1), .val (.int p2), .val (.int near), .val (.int low)] []))
  refine own_step (fun t k => XS.iconst X22.here hx rfl (hb hby at_107) k) ?_
  show own_G p.tables e below _ (T22.setTop (mkF m 108 #[.val (.int p1), .val (.int p2), .val (.int near), .val (.int low)] [(.int (1 : Int32))]))
  refine own_step (fun t k => XS.goto X22.here hx rfl (pc0 := 108) (pc' := 112) rfl (hb hby at_108) (by decide) (by decide) k) ?_
  show own_G p.tables e below _ (T22.setTop (mkF m 112 #[.val (.int p1), .val (.int p2), .val (.int near), .val (.int low)] [(.int (1 : Int32))]))
  obtain ⟨fs, hr, hrun, hended, hW, hsame⟩ := X22.leave (v := some (.int (1 : Int32))) (fun h => by rw [Bd.returns] at h; cases h)
  refine own_done (retN X22 hx (t := .boolean) Bd.returns (by simp) (hb hby at_112) hr) hrun hended ⟨_, _, rfl, ?_, ⟨_, rfl⟩, hW, hsame.mono (by decide) (by decide)⟩
  show Q0 Z p1 p2 h0 n0 _ T22.heap _
  rw [e22]
  exact ⟨rfl, N22⟩
set_option maxRecDepth 65536 in
set_option maxHeartbeats 40000000 in
theorem comes_1 {Post : Tables → Env → Array Value → State → Outcome → State → Prop} (hpost : ∀ tb e args s v u, (limb_1_1.after args s (.returned v) u = true ∧ limb_1_2.after args s (.returned v) u = true ∧ True) → FrameEnd s (.returned v) u (Jvm.fieldLocs frame_1_writes args s ++ Jvm.arrayLocs frame_1_arrays args s ++ Jvm.staticLocs frame_1_statics s) 0 0 → Post tb e args s (.returned v) u) :
    ArmFor flags0 classFile x code maxLocals ret World_1 tables_1 room_1 Calls_1 rest_1 Pre_1 Post := by
  intro l hfl _ _ p e ha hc hk s m args below hf hA hF happ hP
  obtain ⟨hcalls, hrest, hpre⟩ := hP
  obtain ⟨-, -, -, hnamed, -, -, -, hat⟩ := (Spec.applies_iff hf).mp happ
  obtain ⟨hg, hn⟩ := and_e (Cond.before_iff.mp (show (Jvm.Cond.and given_1 narrow_1).before args s = true from hpre))
  obtain ⟨g1, g2⟩ := and_e hg
  obtain ⟨g3, g4⟩ := and_e g2
  obtain ⟨w0, w1, rfl⟩ : ∃ w0 w1 : Value, args = #[w0, w1] := by
    have hs : args.size = 2 := by simpa [Cond.value, given_1] using g1
    obtain ⟨L⟩ := args
    match L, hs with
    | [w0, w1], _ => exact ⟨w0, w1, rfl⟩
  have hw := fun d (hd : d ∈ tables_1) => atoms_spec (ws := Jvm.Cond.code x code maxLocals ret :: tables_1) hat d (List.mem_cons_of_mem _ hd)
  obtain ⟨i0, ei0⟩ := is_v g3
  obtain rfl : w0 = (.int i0) := Option.some.inj ei0
  obtain ⟨i1, ei1⟩ := is_v g4
  obtain rfl : w1 = (.int i1) := Option.some.inj ei1
  obtain ⟨n, o, h1, h2, h3, _, L, rfl, ⟨rfl, N⟩, hq⟩ := rm0 l s _ hw tables_1 i0 i1 s.heap s.heap.size (Nat.le_refl _)  p e ha hc hk s m _ below hf ((Spec.applies_iff_loose hf).mp happ).1 ⟨rfl, State.Warmed39.refl s, rfl⟩ trivial
  refine ⟨n, _, h1, h2, h3, hpost _ _ _ _ _ _ ⟨Cond.after_iff.mpr rfl, Cond.after_iff.mpr (eq_i res_at (Term.int_eval (1)) rfl), trivial⟩ ⟨hq.1, hq.2.1, (hq.2.2.sift fun y hy => Or.inr (N y hy)).mono (by decide) (by decide)⟩⟩
theorem main_1_1 : Claimed_1_1 := comes_1 fun _ _ _ _ _ _ h hF => ⟨h.1, hF⟩
theorem main_1_2 : Claimed_1_2 := comes_1 fun _ _ _ _ _ _ h hF => ⟨h.2.1, hF⟩
end Jvm.Pilot.@@N@@
namespace Jvm.Pilot.@@N@@
open Jvm Jvm.ClassFile Sem Op Lib Jvm.Free Jvm.Stand Jvm.Pilot.@@N@@.Jvm.D
/-! MADE BY PROGRAM (witnessworld.py) out of the Statement's table words and the real class files: 9 classes; the members and pool entries that the words name. The judged class is class 1, her method 2. -/
namespace start1
open Jvm.ClassFile
def u (s : String) : CpInfo := .utf8 (stringToUtf16 s)
/-- a pool by its gaps: so many unusable entries, then the entry; so many at the end -/
def gap : Nat → List CpInfo → List CpInfo
  | 0, r => r
  | n + 1, r => .unusable :: gap n r
def poolList (es : List (Nat × CpInfo)) (last : Nat) : List CpInfo := es.foldr (fun e r => gap e.1 (e.2 :: r)) (gap last [])
def pool (es : List (Nat × CpInfo)) (last : Nat) : Array CpInfo := ⟨poolList es last⟩
def fileOf (pool : Array CpInfo) (this : Nat) (attrs : Array Attribute := #[]) (ms : Array MethodInfo := #[]) (fl : Nat := 33) (sup : Nat := 0) (ifs : Array Nat := #[]) (fds : Array FieldInfo := #[]) : ClassFile where
  minorVersion := 0
  majorVersion := 65
  constantPool := pool
  accessFlags := fl
  thisClass := this
  superClass := sup
  interfaces := ifs
  fields := fds
  methods := ms
  attributes := attrs
def plain (name : String) (sup : Option ClassId) : Class where
  name := name
  kind := .ordinary
  loader := none
  accessFlags := 33
  super := sup
  interfaces := #[]
  cf := none
  fields := #[]
  methods := #[]
  instanceTypes := #[]
  staticTypes := #[]
  resolved := #[]
  callSites := []
  init := .initialized
  statics := none
  mirror := none

def pool0 : Array CpInfo := pool [(5, u "<init>"), (0, u "()V"), (1, .class_ 10), (1, u "java/lang/Object")] 113

def k0m0 : Method := { name := "<init>", desc := "()V", sig := { parameters := [], returnType := none }, accessFlags := 1, code := none }
/-- java/lang/Object -/
def k0 : Class := { plain "java/lang/Object" none with
  accessFlags := 33
  interfaces := #[]
  cf := some (fileOf pool0 8 #[] #[{ accessFlags := 1, nameIndex := 5, descriptorIndex := 6, attributes := #[] }] 33 0 #[] #[])
  fields := #[]
  methods := #[k0m0]
  instanceTypes := #[]
  staticTypes := #[]
  resolved := Array.replicate 124 none
  statics := none }

def pool1 : Array CpInfo := pool [(2, .class_ 4), (1, u "java/lang/Object"), (0, u "<init>"), (0, u "()V"), (0, .methodref 8 9), (0, .class_ 10), (0, .nameAndType 11 12), (0, u "com/example/dirtytree/dirtytree/MeasureSpec"), (0, u "isSize"), (0, u "(I)Z"), (0, .methodref 14 15), (0, .class_ 16), (0, .nameAndType 17 12), (0, u "com/example/dirtytree/dirtytree/MeasureSpecIsSizePinLaw"), (0, u "ref"), (0, .integer 1073741823), (0, .integer 1073741824), (2, .integer 2147483648), (0, .integer 2147483647), (3, u "law"), (0, u "(II)Z")] 2

def k1m0 : Method := { name := "<init>", desc := "()V", sig := { parameters := [], returnType := none }, accessFlags := 1, code := none }
def k1c1 : Code := { maxStack := 2, maxLocals := 1, code := method_2_code, exceptionTable := #[], attributes := #[] }
def k1m1 : Method := { name := "ref", desc := "(I)Z", sig := { parameters := [.int], returnType := some .boolean }, accessFlags := 10, code := some k1c1 }
def k1c2 : Code := { maxStack := 3, maxLocals := 4, code := code, exceptionTable := #[], attributes := #[] }
def k1m2 : Method := { name := "law", desc := "(II)Z", sig := { parameters := [.int, .int], returnType := some .boolean }, accessFlags := 9, code := some k1c2 }
/-- com/example/dirtytree/dirtytree/MeasureSpecIsSizePinLaw -/
def k1 : Class := { plain "com/example/dirtytree/dirtytree/MeasureSpecIsSizePinLaw" (some 0) with
  accessFlags := 49
  interfaces := #[]
  cf := some (fileOf pool1 14 #[] #[{ accessFlags := 1, nameIndex := 5, descriptorIndex := 6, attributes := #[] }, { accessFlags := 10, nameIndex := 17, descriptorIndex := 12, attributes := #[] }, { accessFlags := 9, nameIndex := 27, descriptorIndex := 28, attributes := #[] }] 49 2 #[] #[])
  fields := #[]
  methods := #[k1m0, k1m1, k1m2]
  instanceTypes := #[]
  staticTypes := #[]
  resolved := Array.replicate 31 none
  statics := none }

def pool2 : Array CpInfo := pool [(1, .class_ 2), (0, u "com/example/dirtytree/dirtytree/MeasureSpec"), (1, .class_ 6), (1, u "java/lang/Object"), (0, u "<init>"), (0, u "()V"), (2, u "isSize"), (0, u "(I)Z"), (13, .integer 1073741823), (25, u "UNSPECIFIED"), (0, u "I"), (2, u "EXACTLY"), (0, u "AT_MOST"), (0, u "MAX_SIZE"), (0, u "MATCH"), (1, u "WRAP"), (1, u "MODE_MASK"), (0, u "WANTED"), (0, u "Ljava/lang/String;"), (2, u "SIZES")] 37

def k2m0 : Method := { name := "<init>", desc := "()V", sig := { parameters := [], returnType := none }, accessFlags := 2, code := none }
def k2c1 : Code := { maxStack := 2, maxLocals := 1, code := prog_34_method_5_code, exceptionTable := #[], attributes := #[] }
def k2m1 : Method := { name := "isSize", desc := "(I)Z", sig := { parameters := [.int], returnType := some .boolean }, accessFlags := 9, code := some k2c1 }
/-- com/example/dirtytree/dirtytree/MeasureSpec -/
def k2 : Class := { plain "com/example/dirtytree/dirtytree/MeasureSpec" (some 0) with
  accessFlags := 49
  interfaces := #[]
  cf := some (fileOf pool2 1 #[] #[{ accessFlags := 2, nameIndex := 7, descriptorIndex := 8, attributes := #[] }, { accessFlags := 9, nameIndex := 11, descriptorIndex := 12, attributes := #[] }] 49 4 #[] #[{ accessFlags := 25, nameIndex := 52, descriptorIndex := 53, attributes := #[] }, { accessFlags := 25, nameIndex := 56, descriptorIndex := 53, attributes := #[] }, { accessFlags := 25, nameIndex := 57, descriptorIndex := 53, attributes := #[] }, { accessFlags := 25, nameIndex := 58, descriptorIndex := 53, attributes := #[] }, { accessFlags := 25, nameIndex := 59, descriptorIndex := 53, attributes := #[] }, { accessFlags := 25, nameIndex := 61, descriptorIndex := 53, attributes := #[] }, { accessFlags := 26, nameIndex := 63, descriptorIndex := 53, attributes := #[] }, { accessFlags := 24, nameIndex := 64, descriptorIndex := 65, attributes := #[] }, { accessFlags := 25, nameIndex := 68, descriptorIndex := 65, attributes := #[] }])
  fields := #[{ name := "UNSPECIFIED", type := .int, accessFlags := 25, slot := 0, constantValue := 0 }, { name := "EXACTLY", type := .int, accessFlags := 25, slot := 1, constantValue := 0 }, { name := "AT_MOST", type := .int, accessFlags := 25, slot := 2, constantValue := 0 }, { name := "MAX_SIZE", type := .int, accessFlags := 25, slot := 3, constantValue := 0 }, { name := "MATCH", type := .int, accessFlags := 25, slot := 4, constantValue := 0 }, { name := "WRAP", type := .int, accessFlags := 25, slot := 5, constantValue := 0 }, { name := "MODE_MASK", type := .int, accessFlags := 26, slot := 6, constantValue := 0 }, { name := "WANTED", type := (.object "java/lang/String"), accessFlags := 24, slot := 7, constantValue := 0 }, { name := "SIZES", type := (.object "java/lang/String"), accessFlags := 25, slot := 8, constantValue := 0 }]
  methods := #[k2m0, k2m1]
  instanceTypes := #[]
  staticTypes := #[.int, .int, .int, .int, .int, .int, .int, (.object "java/lang/String"), (.object "java/lang/String")]
  resolved := Array.replicate 106 none
  statics := none }

def pool3 : Array CpInfo := pool [(1, u "java/lang/Cloneable"), (0, .class_ 1), (0, u "java/lang/Object"), (0, .class_ 3)] 3

/-- java/lang/Cloneable -/
def k3 : Class := { plain "java/lang/Cloneable" (some 0) with
  accessFlags := 1537
  interfaces := #[]
  cf := some (fileOf pool3 2 #[] #[] 1537 4 #[] #[])
  fields := #[]
  methods := #[]
  instanceTypes := #[]
  staticTypes := #[]
  resolved := Array.replicate 8 none
  statics := none }

def pool4 : Array CpInfo := pool [(1, u "java/io/Serializable"), (0, .class_ 1), (0, u "java/lang/Object"), (0, .class_ 3)] 3

/-- java/io/Serializable -/
def k4 : Class := { plain "java/io/Serializable" (some 0) with
  accessFlags := 1537
  interfaces := #[]
  cf := some (fileOf pool4 2 #[] #[] 1537 4 #[] #[])
  fields := #[]
  methods := #[]
  instanceTypes := #[]
  staticTypes := #[]
  resolved := Array.replicate 8 none
  statics := none }

/-- the primitive byte -/
def k5 : Class := { plain "byte" none with kind := .primitive 'B', accessFlags := 0x411 }
/-- [B -/
def k6 : Class := { plain "[B" (some 0) with kind := .array 5 .byte, interfaces := #[3, 4], accessFlags := 1041 }

/-- the primitive int -/
def k7 : Class := { plain "int" none with kind := .primitive 'I', accessFlags := 0x411 }
/-- [I -/
def k8 : Class := { plain "[I" (some 0) with kind := .array 7 .int, interfaces := #[3, 4], accessFlags := 1041 }

def heap : Heap := #[]
def classes : Array Class := #[k0, k1, k2, k3, k4, k5, k6, k7, k8]
def interned : List (Array UInt16 × Addr) := []
def slotsUsed : Nat := 0
def theMethod : MethodId := ⟨1, 2⟩
def args0 : Array Value := #[.int 5, .int 7]
def aboutOver (below : List Frame) : State where
  vm := { classes := classes, interned := interned.toArray }
  heap := heap
  slotsUsed := slotsUsed
  threads := #[{ frames := .invoking theMethod args0 :: below }]
def below0 : List Frame := [.native { method := ⟨0, 0⟩, args := #[] }]
def about1 : State := aboutOver below0
def p0 : Program := .bare "" "" ""
def e0 : Env := launch0.env 0 0 0
theorem w_frames : about1.frames = Frame.invoking theMethod args0 :: below0 := rfl
set_option maxRecDepth 65536 in
theorem w_args : argsFit about1.vm theMethod args0 = true := by decide +kernel
set_option maxRecDepth 65536 in
theorem w_heap : heapFits about1 = true := by decide +kernel
set_option maxRecDepth 65536 in
theorem w_runnable : about1.curStatus? = some .runnable := by decide +kernel
set_option maxRecDepth 65536 in
theorem w_alone : about1.alone = true := by decide +kernel
set_option maxRecDepth 65536 in
theorem w_named : about1.methodNamed? x = some theMethod := by decide +kernel
set_option maxRecDepth 65536 in
theorem w_hears : about1.hears theMethod below0 = true := by decide +kernel
set_option maxRecDepth 65536 in
theorem w_ripe : about1.ripe theMethod args0 below0 = true := by decide +kernel
theorem w_running : about1.status = .running := rfl
set_option maxRecDepth 65536 in
theorem w_room : about1.hasRoom e0.platform room_1 = true :=
  launch0.hasRoom_least _ room_1 (by decide +kernel) (by decide +kernel) (by decide +kernel) (by decide +kernel) (by decide +kernel) (by decide +kernel)
theorem allAtoms_all (ts : List Jvm.Cond) (a : Array Jvm.Value) (st : Jvm.State) : (allAtoms ts).before a st = ts.all (fun c => c.before a st) := by
  induction ts with
  | nil => rfl
  | cons c t ih =>
    show (Jvm.Cond.and c (allAtoms t)).before a st = _
    rw [Jvm.Cond.before_and, ih, List.all_cons]
def words1 : List Jvm.Cond := Jvm.Cond.code x code maxLocals ret :: tables_1
/-- a 'code' word, met by the world's own term for the bytes: nothing is compared byte by byte -/
theorem code_word {y : MethodName} {bytes : ByteArray} {mx : Nat} {rt : Option FieldType} {a : Array Value} {s : State} {m : MethodId} {meth : Method} {c : Code} (h1 : s.methodNamed? y = some m) (h2 : s.vm.method? m = some meth) (h3 : meth.code = some c) (h4 : c.code = bytes)
    (h5 : (c.maxLocals == mx && c.exceptionTable.isEmpty && decide (c.maxStack ≤ mostOperands) && decide (meth.sig.returnType = rt) && !meth.locks && decide (parseMethodDescriptor y.desc = some meth.sig)) = true) : (Jvm.Cond.code y bytes mx rt).before a s = true := by
  simp only [Bool.and_eq_true, beq_iff_eq, Bool.not_eq_true', decide_eq_true_eq] at h5
  obtain ⟨⟨⟨⟨⟨g1, g2⟩, g3⟩, g4⟩, g5⟩, g6⟩ := h5
  simp [Cond.before, Cond.holds, Cond.value, h1, h2, h3, h4, g1, g2, g3, g4, g5, g6]
def isCode : Jvm.Cond → Bool
  | .code _ _ _ _ => true
  | _ => false
theorem all_split {L : List Jvm.Cond} {P : Jvm.Cond → Bool} (h1 : L.all (fun c => isCode c || P c) = true) (h2 : ∀ c ∈ L.filter isCode, P c = true) : L.all P = true := by
  refine List.all_eq_true.mpr fun c hc => ?_
  have h := List.all_eq_true.mp h1 c hc
  rcases Bool.eq_false_or_eq_true (isCode c) with hi | hi
  · exact h2 c (List.mem_filter.mpr ⟨hc, hi⟩)
  · simpa [hi] using h
set_option maxRecDepth 65536 in
theorem w_c0 : (Jvm.Cond.code x code maxLocals ret).before args0 about1 = true := code_word (m := ⟨1, 2⟩) (meth := k1m2) (c := k1c2) (by decide +kernel) rfl rfl rfl (by decide +kernel)
set_option maxRecDepth 65536 in
theorem w_c1 : (Jvm.Cond.code ({ cls := "com/example/dirtytree/dirtytree/MeasureSpec", name := "isSize", desc := "(I)Z" } : Jvm.MethodName) prog_34_method_5_code (1 : Nat) (Option.some Jvm.ClassFile.FieldType.boolean)).before args0 about1 = true := code_word (m := ⟨2, 1⟩) (meth := k2m1) (c := k2c1) (by decide +kernel) rfl rfl rfl (by decide +kernel)
set_option maxRecDepth 65536 in
theorem w_c2 : (Jvm.Cond.code ({ cls := "com/example/dirtytree/dirtytree/MeasureSpecIsSizePinLaw", name := "ref", desc := "(I)Z" } : Jvm.MethodName) method_2_code (1 : Nat) (Option.some Jvm.ClassFile.FieldType.boolean)).before args0 about1 = true := code_word (m := ⟨1, 1⟩) (meth := k1m1) (c := k1c1) (by decide +kernel) rfl rfl rfl (by decide +kernel)
def codes1 : List Jvm.Cond := [Jvm.Cond.code x code maxLocals ret, Jvm.Cond.code ({ cls := "com/example/dirtytree/dirtytree/MeasureSpec", name := "isSize", desc := "(I)Z" } : Jvm.MethodName) prog_34_method_5_code (1 : Nat) (Option.some Jvm.ClassFile.FieldType.boolean), Jvm.Cond.code ({ cls := "com/example/dirtytree/dirtytree/MeasureSpecIsSizePinLaw", name := "ref", desc := "(I)Z" } : Jvm.MethodName) method_2_code (1 : Nat) (Option.some Jvm.ClassFile.FieldType.boolean)]
set_option maxRecDepth 65536 in
theorem codes_eq : words1.filter isCode = codes1 := rfl
theorem w_codes : ∀ c ∈ words1.filter isCode, c.before args0 about1 = true := by
  rw [codes_eq]
  intro c hc
  simp only [codes1, List.mem_cons, List.not_mem_nil, or_false] at hc
  rcases hc with rfl | rfl | rfl
  · exact w_c0
  · exact w_c1
  · exact w_c2
set_option maxRecDepth 65536 in
theorem w_t1 : words1.all (fun c => isCode c || c.before args0 about1) = true := by decide +kernel
theorem w_tables : (allAtoms (Jvm.Cond.code x code maxLocals ret :: tables_1)).before args0 about1 = true := by
  rw [allAtoms_all]
  show words1.all (fun c => c.before args0 about1) = true
  refine all_split ?_ w_codes
  rw [w_t1]
set_option maxRecDepth 65536 in
theorem w_case : (Jvm.Cond.and given_1 narrow_1).before args0 about1 = true := by decide +kernel
theorem w_applies : (headSpec (Jvm.Cond.code x code maxLocals ret :: tables_1) room_1).applies x e0.platform about1 = true :=
  (Spec.applies_iff w_frames).mpr ⟨w_running, w_runnable, w_alone, w_named, w_hears, w_ripe, w_room, w_tables⟩
theorem atStart : AtStart classFile x code maxLocals ret World_1 tables_1 room_1 Calls_1 rest_1 Pre_1 launch0 p0 e0 about1 theMethod args0 below0 :=
  ⟨lists_1, trivial, launch0.admits_env _ _ _, launch0.least_env, fairChoices_fair.cas, fairChoices_fair.clock, w_frames, w_args, w_heap, w_applies, trivial, trivial, w_case⟩
end start1
theorem witness_1 : WitnessClaimed_1 := ⟨start1.p0, start1.e0, start1.about1, start1.theMethod, start1.args0, start1.below0, start1.atStart⟩
end Jvm.Pilot.@@N@@
