import JvmDerived
import JvmDerived.Pilot.@@N@@Statement
import JvmDerived.Pilot.@@N@@Code
set_option linter.unusedVariables false
set_option linter.unusedSimpArgs false
@@BLOCK:NumsL.lean.txt@@
namespace Jvm.RoadKit
open Sem ClassFile Op Lib Jvm.Stand Jvm.Free Jvm.LawKit
section New
variable {p : Program} {l : Launch} {e : Env} {R : Room} {s : State} {m : MethodId} {args : Array Value} {below : List Frame} {meth : Method} {c : Code} {T : State} {locs : List Loc} {cells slots : Nat}
theorem retI (X : Stand p l e R s m args below meth c T locs cells slots) (hx : p.tables.exec = Jvm.exec) {pc : Nat} {Ls : Array Slot} {z : Int32} {rest : List Value} (hret : meth.sig.returnType = some .int) (hd : decode c.code pc = .ok (.ireturn, 1)) {fs : List Frame}
    (hl : ∀ (f : JFrame) (acts : List Action), f.method = m → f.locked = none → f.entered = [] → (doReturn e (T.setTop f) acts (some (.int z))).1 = T.setFrames fs) : Steps p.tables e below (T.setTop (mkF m pc Ls (.int z :: rest))) (T.setFrames fs) := by
  have hm' : T.vm.method? m = some meth := X.method'
  have hn : narrow .int (.int z) = .int z := rfl
  show Steps p.tables e below (T.setTop { method := m, pc := pc, locals := Ls, stack := _ :: rest, locked := none }) _
  jvm_step X.here [X.here.top, hx, hd, hm', hret, hn]
  first | (intro acts; rw [hl _ acts rfl rfl rfl]) | rw [hl _ _ rfl rfl rfl]
  exact Steps.refl _
theorem own_retJ (X : Stand p l e R s m args below meth c T locs cells slots) (hx : p.tables.exec = Jvm.exec) {pc : Nat} {Ls : Array Slot} {z : Int64} {rest : List Value} (hret : meth.sig.returnType = some .long) (hd : decode c.code pc = .ok (.lreturn, 1)) {fs : List Frame}
    (hl : ∀ (f : JFrame) (acts : List Action), f.method = m → f.locked = none → f.entered = [] → (doReturn e (T.setTop f) acts (some (.long z))).1 = T.setFrames fs) : Steps p.tables e below (T.setTop (mkF m pc Ls (.long z :: rest))) (T.setFrames fs) := by
  have hm' : T.vm.method? m = some meth := X.method'
  show Steps p.tables e below (T.setTop { method := m, pc := pc, locals := Ls, stack := _ :: rest, locked := none }) _
  jvm_step X.here [X.here.top, hx, hd, hm', hret, narrow]
  first | (intro acts; rw [hl _ acts rfl rfl rfl]) | rw [hl _ _ rfl rfl rfl]
  exact Steps.refl _
theorem own_retA (X : Stand p l e R s m args below meth c T locs cells slots) (hx : p.tables.exec = Jvm.exec) {pc : Nat} {Ls : Array Slot} {b : Addr} {t : FieldType} {rest : List Value} (hret : meth.sig.returnType = some t) (ht : t.isReference = true) (hb0 : b = b) (hd : decode c.code pc = .ok (.areturn, 1)) {fs : List Frame}
    (hl : ∀ (f : JFrame) (acts : List Action), f.method = m → f.locked = none → f.entered = [] → (doReturn e (T.setTop f) acts (some (.ref b))).1 = T.setFrames fs) : Steps p.tables e below (T.setTop (mkF m pc Ls (.ref b :: rest))) (T.setFrames fs) := by
  have hm' : T.vm.method? m = some meth := X.method'
  show Steps p.tables e below (T.setTop { method := m, pc := pc, locals := Ls, stack := _ :: rest, locked := none }) _
  jvm_step X.here [X.here.top, hx, hd, hm', hret, Value.isRef, ht]
  first | (intro acts; rw [hl _ acts rfl rfl rfl]) | rw [hl _ _ rfl rfl rfl]
  exact Steps.refl _
end New
/-- a walk's goal at the state A -/
def own_G (tb : Tables) (e : Env) (below : List Frame) (P : Outcome → State → Prop) (A : State) : Prop := ∃ s₂ o, Steps tb e below A s₂ ∧ s₂.status = .running ∧ Ended s₂ below o ∧ P o s₂
section Go
variable {tb : Tables} {e : Env} {below : List Frame} {P : Outcome → State → Prop} {A B : State}
theorem own_step (h : ∀ t, Steps tb e below B t → Steps tb e below A t) (k : own_G tb e below P B) : own_G tb e below P A := by
  obtain ⟨s₂, o, h1, h2⟩ := k
  exact ⟨s₂, o, h _ h1, h2⟩
theorem own_start (h : ∀ t, Steps tb e below B t → Steps tb e below A t) (k : own_G tb e below P B) : ∃ s₂ o, Steps tb e below A s₂ ∧ s₂.status = .running ∧ Ended s₂ below o ∧ P o s₂ := own_step h k
theorem own_done {s₂ : State} {o : Outcome} (h1 : Steps tb e below A s₂) (h2 : s₂.status = .running) (h3 : Ended s₂ below o) (h4 : P o s₂) : own_G tb e below P A := ⟨s₂, o, h1, h2, h3, h4⟩
theorem own_nm {α : Type} (x : α) (F : α → State) (h : ∀ v, v = x → own_G tb e below P (F v)) : own_G tb e below P (F x) := h x rfl
theorem own_gen (h : ∀ P', P' = P → own_G tb e below P' A) : own_G tb e below P A := h P rfl
theorem own_imp (h : own_G tb e below P B → own_G tb e below P A) (k : own_G tb e below P B) : own_G tb e below P A := h k
end Go

end Jvm.RoadKit
namespace Jvm.Pilot.@@N@@
open Jvm Jvm.ClassFile Sem Op Lib Jvm.Free Jvm.Stand Jvm.LawKit Jvm.RoadKit Bundle Jvm.Pilot.@@N@@.Jvm.D

theorem d1_0 : decode method_2_code 0 = .ok (.iload_n 0, 1) := by decide +kernel
theorem d1_1 : decode method_2_code 1 = .ok (.ldc 7, 2) := by decide +kernel
theorem d1_3 : decode method_2_code 3 = .ok (.iand, 1) := by decide +kernel
theorem d1_4 : decode method_2_code 4 = .ok (.istore_n 1, 1) := by decide +kernel
theorem d1_5 : decode method_2_code 5 = .ok (.iload_n 1, 1) := by decide +kernel
theorem d1_6 : decode method_2_code 6 = .ok (.ifCond .ne 5, 3) := by decide +kernel
theorem d1_9 : decode method_2_code 9 = .ok (.iconst 1, 1) := by decide +kernel
theorem d1_10 : decode method_2_code 10 = .ok (.istore_n 1, 1) := by decide +kernel
theorem d1_11 : decode method_2_code 11 = .ok (.iload_n 1, 1) := by decide +kernel
theorem d1_12 : decode method_2_code 12 = .ok (.ireturn, 1) := by decide +kernel
theorem pn_1 : plainName "com/example/dual_box/dualbox/RetryPolicyWithBudgetPinLaw" = true := by first | (simp [plainName, overriddenIn]; done) | decide +kernel
theorem ef_1 (m : MethodId) (p1 : Int32) : entryFrame m #[(.int p1)] 2 = mkF m 0 #[.val (.int p1), .unset] [] := by first | (simp [entryFrame, mkF, argsToLocals, Value.category]; done) | rfl
def own_f1 (p1 : Int32) : Int32 :=
  (if (p1 &&& (2147483647 : Int32)) = (0 : Int32) then (1 : Int32) else (p1 &&& (2147483647 : Int32)))
def Q1 (Z : State) (p1 : Int32) (h0 : Heap) (n0 : Nat) (v : Option Value) (h : Heap) (L : List Loc) : Prop := v = some (.int (own_f1 p1)) ∧ Fr n0 L ∧ h = h0
set_option maxRecDepth 65536 in
set_option maxHeartbeats 40000000 in
theorem rm1 (l : Launch) (Z : State) (a0 : Array Value) (hw : ∀ d ∈ tables_1, d.before a0 Z = true) (ws : List Jvm.Cond) (p1 : Int32) (h0 : Heap) (n0 : Nat) (Z0 : n0 ≤ h0.size) :
    MetFree l (⟨"com/example/dual_box/dualbox/RetryPolicyWithBudgetPinLaw", "budgetOf", "(I)I"⟩ : MethodName) (head1 (Jvm.Cond.code (⟨"com/example/dual_box/dualbox/RetryPolicyWithBudgetPinLaw", "budgetOf", "(I)I"⟩ : MethodName) method_2_code 2 (some .int) :: ws) ({ frames := 0, cells := 0, slots := 0, locals := 0 } : Room)) (fun a U => a = #[(.int p1)] ∧ Z.Warmed39 U.vm ∧ U.heap = h0) (fun _ _ _ _ _ => True) (fun _ U o U' => ∃ v L, o = .returned v ∧ Q1 Z p1 h0 n0 v U'.heap L ∧ FrameEnd U o U' L ({ frames := 0, cells := 0, slots := 0, locals := 0 } : Room).cells ({ frames := 0, cells := 0, slots := 0, locals := 0 } : Room).slots) := by
  refine MetFree.of_bodySF (plainFor_of_name pn_1) hisR ?_
  intro p e s m args below meth c s₁ Bd hml0 hP hK
  obtain ⟨rfl, hZ, hh⟩ := hP
  have hx := Bd.exec
  have hby := Bd.bytes
  have hml : c.maxLocals = 2 := hml0
  have hown : s.vm.findClass "com/example/dual_box/dualbox/RetryPolicyWithBudgetPinLaw" = some m.cls := findClass_of_methodNamed Bd.named
  have hnm := (name_of_methodNamed Bd.named Bd.method).1
  have X0 : Stand p l e ({ frames := 0, cells := 0, slots := 0, locals := 0 } : Room) s m #[(.int p1)] below meth c s₁ [] 0 0 := Stand.of_body Bd
  have e0 : s₁.heap = h0 := by rw [← hh, Bd.state]; rfl
  have N0 := Fr.nil n0
  refine own_start (fun t k => castTop (ef_1 m p1) k) ?_
  show own_G p.tables e below _ (s₁.setTop (mkF m 0 #[.val (.int p1), .unset] []))
  refine own_step (fun t k => XS.iloadN X0.here hx rfl (hb hby d1_0) rfl k) ?_
  show own_G p.tables e below _ (s₁.setTop (mkF m 1 #[.val (.int p1), .unset] [(.int p1)]))
  refine own_step (X0.ldcInt hx hown (mvT hZ (hw _ (List.mem_of_getElem? (i := 4) rfl))) (g := (mkF m 1 #[.val (.int p1), .unset] [(.int p1)])) rfl (hb hby d1_1)) ?_
  show own_G p.tables e below _ (s₁.setTop (mkF m 3 #[.val (.int p1), .unset] [(.int (2147483647 : Int32)), (.int p1)]))
  refine own_step (fun t k => XS.iand X0.here hx rfl (hb hby d1_3) rfl k) ?_
  show own_G p.tables e below _ (s₁.setTop (mkF m 4 #[.val (.int p1), .unset] [(.int (p1 &&& (2147483647 : Int32)))]))
  refine own_step (fun t k => XS.istoreN X0.here hx rfl (hb hby d1_4) rfl (l' := #[.val (.int p1), .val (.int (p1 &&& (2147483647 : Int32)))]) rfl k) ?_
  show own_G p.tables e below _ (s₁.setTop (mkF m 5 #[.val (.int p1), .val (.int (p1 &&& (2147483647 : Int32)))] []))
  refine own_step (fun t k => XS.iloadN X0.here hx rfl (hb hby d1_5) rfl k) ?_
  show own_G p.tables e below _ (s₁.setTop (mkF m 6 #[.val (.int p1), .val (.int (p1 &&& (2147483647 : Int32)))] [(.int (p1 &&& (2147483647 : Int32)))]))
  by_cases hc1 : (p1 &&& (2147483647 : Int32)) = (0 : Int32)
  · skip
    refine own_step (fun t k => XS.ifNo X0.here hx rfl (hb hby d1_6) rfl ((if0 _ _).trans (teq hc1).2) k) ?_
    show own_G p.tables e below _ (s₁.setTop (mkF m 9 #[.val (.int p1), .val (.int (p1 &&& (2147483647 : Int32)))] []))
    refine own_step (fun t k => XS.iconst X0.here hx rfl (hb hby d1_9) k) ?_
    show own_G p.tables e below _ (s₁.setTop (mkF m 10 #[.val (.int p1), .val (.int (p1 &&& (2147483647 : Int32)))] [(.int (1 : Int32))]))
    refine own_step (fun t k => XS.istoreN X0.here hx rfl (hb hby d1_10) rfl (l' := #[.val (.int p1), .val (.int (1 : Int32))]) rfl k) ?_
    show own_G p.tables e below _ (s₁.setTop (mkF m 11 #[.val (.int p1), .val (.int (1 : Int32))] []))
    refine own_step (fun t k => XS.iloadN X0.here hx rfl (hb hby d1_11) rfl k) ?_
    show own_G p.tables e below _ (s₁.setTop (mkF m 12 #[.val (.int p1), .val (.int (1 : Int32))] [(.int (1 : Int32))]))
    obtain ⟨fs, hr, hrun, hended, hW, hsame⟩ := X0.leave (v := some (.int (1 : Int32))) (fun h => by rw [Bd.returns] at h; cases h)
    refine own_done (retI X0 hx Bd.returns (hb hby d1_12) hr) hrun hended ⟨_, _, rfl, ?_, ⟨_, rfl⟩, hW, hsame.mono (by decide) (by decide)⟩
    show Q1 Z p1 h0 n0 _ s₁.heap _
    rw [e0]
    exact ⟨congrArg (fun z => some (Value.int z)) (show (1 : Int32) = (own_f1 p1) from by unfold own_f1; simp only [if_pos hc1]), N0, rfl⟩
  · skip
    refine own_step (fun t k => XS.ifYes X0.here hx rfl (pc0 := 6) (pc' := 11) rfl (hb hby d1_6) rfl ((if0 _ _).trans (feq hc1).2) (by decide) (by decide) k) ?_
    show own_G p.tables e below _ (s₁.setTop (mkF m 11 #[.val (.int p1), .val (.int (p1 &&& (2147483647 : Int32)))] []))
    refine own_step (fun t k => XS.iloadN X0.here hx rfl (hb hby d1_11) rfl k) ?_
    show own_G p.tables e below _ (s₁.setTop (mkF m 12 #[.val (.int p1), .val (.int (p1 &&& (2147483647 : Int32)))] [(.int (p1 &&& (2147483647 : Int32)))]))
    obtain ⟨fs, hr, hrun, hended, hW, hsame⟩ := X0.leave (v := some (.int (p1 &&& (2147483647 : Int32)))) (fun h => by rw [Bd.returns] at h; cases h)
    refine own_done (retI X0 hx Bd.returns (hb hby d1_12) hr) hrun hended ⟨_, _, rfl, ?_, ⟨_, rfl⟩, hW, hsame.mono (by decide) (by decide)⟩
    show Q1 Z p1 h0 n0 _ s₁.heap _
    rw [e0]
    exact ⟨congrArg (fun z => some (Value.int z)) (show (p1 &&& (2147483647 : Int32)) = (own_f1 p1) from by unfold own_f1; simp only [if_neg hc1]), N0, rfl⟩
theorem d3_0 : decode prog_12_method_4_code 0 = .ok (.iload_n 0, 1) := by decide +kernel
theorem d3_1 : decode prog_12_method_4_code 1 = .ok (.iconst 1, 1) := by decide +kernel
theorem d3_2 : decode prog_12_method_4_code 2 = .ok (.if_icmp .ge 17, 3) := by decide +kernel
theorem d3_19 : decode prog_12_method_4_code 19 = .ok (.iload_n 0, 1) := by decide +kernel
theorem d3_20 : decode prog_12_method_4_code 20 = .ok (.ireturn, 1) := by decide +kernel
theorem pn_3 : plainName "com/example/dual_box/dualbox/RetryPolicy" = true := by first | (simp [plainName, overriddenIn]; done) | decide +kernel
theorem ef_3 (m : MethodId) (p1 : Int32) : entryFrame m #[(.int p1)] 1 = mkF m 0 #[.val (.int p1)] [] := by first | (simp [entryFrame, mkF, argsToLocals, Value.category]; done) | rfl
def Q3 (Z : State) (p1 : Int32) (h0 : Heap) (n0 : Nat) (v : Option Value) (h : Heap) (L : List Loc) : Prop := v = some (.int p1) ∧ Fr n0 L ∧ h = h0
set_option maxRecDepth 65536 in
set_option maxHeartbeats 40000000 in
theorem rm3 (l : Launch) (Z : State) (a0 : Array Value) (hw : ∀ d ∈ tables_1, d.before a0 Z = true) (ws : List Jvm.Cond) (p1 : Int32) (h0 : Heap) (n0 : Nat) (Z0 : n0 ≤ h0.size) (hp : ¬ (p1 < (1 : Int32))) :
    MetFree l (⟨"com/example/dual_box/dualbox/RetryPolicy", "requireBudget", "(I)I"⟩ : MethodName) (head1 (Jvm.Cond.code (⟨"com/example/dual_box/dualbox/RetryPolicy", "requireBudget", "(I)I"⟩ : MethodName) prog_12_method_4_code 1 (some .int) :: ws) ({ frames := 0, cells := 0, slots := 0, locals := 0 } : Room)) (fun a U => a = #[(.int p1)] ∧ Z.Warmed39 U.vm ∧ U.heap = h0) (fun _ _ _ _ _ => True) (fun _ U o U' => ∃ v L, o = .returned v ∧ Q3 Z p1 h0 n0 v U'.heap L ∧ FrameEnd U o U' L ({ frames := 0, cells := 0, slots := 0, locals := 0 } : Room).cells ({ frames := 0, cells := 0, slots := 0, locals := 0 } : Room).slots) := by
  refine MetFree.of_bodySF (plainFor_of_name pn_3) hisR ?_
  intro p e s m args below meth c s₁ Bd hml0 hP hK
  obtain ⟨rfl, hZ, hh⟩ := hP
  have hx := Bd.exec
  have hby := Bd.bytes
  have hml : c.maxLocals = 1 := hml0
  have hown : s.vm.findClass "com/example/dual_box/dualbox/RetryPolicy" = some m.cls := findClass_of_methodNamed Bd.named
  have hnm := (name_of_methodNamed Bd.named Bd.method).1
  have X0 : Stand p l e ({ frames := 0, cells := 0, slots := 0, locals := 0 } : Room) s m #[(.int p1)] below meth c s₁ [] 0 0 := Stand.of_body Bd
  have e0 : s₁.heap = h0 := by rw [← hh, Bd.state]; rfl
  have N0 := Fr.nil n0
  refine own_start (fun t k => castTop (ef_3 m p1) k) ?_
  show own_G p.tables e below _ (s₁.setTop (mkF m 0 #[.val (.int p1)] []))
  refine own_step (fun t k => XS.iloadN X0.here hx rfl (hb hby d3_0) rfl k) ?_
  show own_G p.tables e below _ (s₁.setTop (mkF m 1 #[.val (.int p1)] [(.int p1)]))
  refine own_step (fun t k => XS.iconst X0.here hx rfl (hb hby d3_1) k) ?_
  show own_G p.tables e below _ (s₁.setTop (mkF m 2 #[.val (.int p1)] [(.int (1 : Int32)), (.int p1)]))
  have hk1 : ¬ (p1 < (1 : Int32)) := hp
  refine own_step (fun t k => XS.icmpYes X0.here hx rfl (pc0 := 2) (pc' := 19) rfl (hb hby d3_2) rfl ((flt hk1).2.1) (by decide) (by decide) k) ?_
  show own_G p.tables e below _ (s₁.setTop (mkF m 19 #[.val (.int p1)] []))
  refine own_step (fun t k => XS.iloadN X0.here hx rfl (hb hby d3_19) rfl k) ?_
  show own_G p.tables e below _ (s₁.setTop (mkF m 20 #[.val (.int p1)] [(.int p1)]))
  obtain ⟨fs, hr, hrun, hended, hW, hsame⟩ := X0.leave (v := some (.int p1)) (fun h => by rw [Bd.returns] at h; cases h)
  refine own_done (retI X0 hx Bd.returns (hb hby d3_20) hr) hrun hended ⟨_, _, rfl, ?_, ⟨_, rfl⟩, hW, hsame.mono (by decide) (by decide)⟩
  show Q3 Z p1 h0 n0 _ s₁.heap _
  rw [e0]
  exact ⟨congrArg (fun z => some (Value.int z)) (show p1 = p1 from rfl), N0, rfl⟩
theorem d4_0 : decode prog_12_method_1_code 0 = .ok (.aload_n 0, 1) := by decide +kernel
theorem d4_1 : decode prog_12_method_1_code 1 = .ok (.invokespecial 1, 3) := by decide +kernel
theorem d4_4 : decode prog_12_method_1_code 4 = .ok (.aload_n 0, 1) := by decide +kernel
theorem d4_5 : decode prog_12_method_1_code 5 = .ok (.iload_n 1, 1) := by decide +kernel
theorem d4_6 : decode prog_12_method_1_code 6 = .ok (.putfield 7, 3) := by decide +kernel
theorem d4_9 : decode prog_12_method_1_code 9 = .ok (.return_, 1) := by decide +kernel
theorem pn_4 : plainName "com/example/dual_box/dualbox/RetryPolicy" = true := by first | (simp [plainName, overriddenIn]; done) | decide +kernel
theorem ef_4 (m : MethodId) (a1 : Addr) (p2 : Int32) : entryFrame m #[(.ref a1), (.int p2)] 2 = mkF m 0 #[.val (.ref a1), .val (.int p2)] [] := by first | (simp [entryFrame, mkF, argsToLocals, Value.category]; done) | rfl
def Q4 (Z : State) (a1 : Addr) (p2 : Int32) (u_budget_a1 : Value) (h0 : Heap) (n0 : Nat) (v : Option Value) (h : Heap) (L : List Loc) : Prop := v = none ∧ Fr n0 L ∧ Keep h0 h [a1] ∧ Fld Z h a1 "com/example/dual_box/dualbox/RetryPolicy" "budget" "I" (.int p2)
set_option maxRecDepth 65536 in
set_option maxHeartbeats 40000000 in
theorem rm4 (l : Launch) (Z : State) (a0 : Array Value) (hw : ∀ d ∈ tables_1, d.before a0 Z = true) (ws : List Jvm.Cond) (a1 : Addr) (p2 : Int32) (u_budget_a1 : Value) (h0 : Heap) (n0 : Nat) (Z0 : n0 ≤ h0.size) (fp0 : Exa Z h0 a1 "com/example/dual_box/dualbox/RetryPolicy") (fp1 : Fld Z h0 a1 "com/example/dual_box/dualbox/RetryPolicy" "budget" "I" u_budget_a1) (g_a1 : n0 ≤ a1) :
    MetFree l (⟨"com/example/dual_box/dualbox/RetryPolicy", "<init>", "(I)V"⟩ : MethodName) (head1 (Jvm.Cond.code (⟨"com/example/dual_box/dualbox/RetryPolicy", "<init>", "(I)V"⟩ : MethodName) prog_12_method_1_code 2 none :: ws) ({ frames := 1, cells := 0, slots := 0, locals := 12 } : Room)) (fun a U => a = #[(.ref a1), (.int p2)] ∧ Z.Warmed39 U.vm ∧ U.heap = h0) (fun _ _ _ _ _ => True) (fun _ U o U' => ∃ v L, o = .returned v ∧ Q4 Z a1 p2 u_budget_a1 h0 n0 v U'.heap L ∧ FrameEnd U o U' L ({ frames := 1, cells := 0, slots := 0, locals := 12 } : Room).cells ({ frames := 1, cells := 0, slots := 0, locals := 12 } : Room).slots) := by
  refine MetFree.of_bodySF (plainFor_of_name pn_4) hisR ?_
  intro p e s m args below meth c s₁ Bd hml0 hP hK
  obtain ⟨rfl, hZ, hh⟩ := hP
  have hx := Bd.exec
  have hby := Bd.bytes
  have hml : c.maxLocals = 2 := hml0
  have hown : s.vm.findClass "com/example/dual_box/dualbox/RetryPolicy" = some m.cls := findClass_of_methodNamed Bd.named
  have hnm := (name_of_methodNamed Bd.named Bd.method).1
  have X0 : Stand p l e ({ frames := 1, cells := 0, slots := 0, locals := 12 } : Room) s m #[(.ref a1), (.int p2)] below meth c s₁ [] 0 0 := Stand.of_body Bd
  have e0 : s₁.heap = h0 := by rw [← hh, Bd.state]; rfl
  have N0 := Fr.nil n0
  refine own_start (fun t k => castTop (ef_4 m a1 p2) k) ?_
  show own_G p.tables e below _ (s₁.setTop (mkF m 0 #[.val (.ref a1), .val (.int p2)] []))
  refine own_step (fun t k => XS.aloadN X0.here hx rfl (hb hby d4_0) rfl rfl k) ?_
  show own_G p.tables e below _ (s₁.setTop (mkF m 1 #[.val (.ref a1), .val (.int p2)] [(.ref a1)]))
  obtain ⟨T1, X1, e1, st1⟩ := initO X0 hx hZ hown (hw _ (List.mem_of_getElem? (i := 17) rfl)) (hw _ (List.mem_of_getElem? (i := 18) rfl)) (hw _ (List.mem_of_getElem? (i := 19) rfl)) e0 (g := (mkF m 1 #[.val (.ref a1), .val (.int p2)] [(.ref a1)])) rfl (by rw [hml]; rfl) rfl (hb hby d4_1) (by decide) (W := 0) (by show 2 * 0 + _ ≤ _; exact Nat.le_of_eq rfl) (by decide)
  refine own_step st1 ?_
  show own_G p.tables e below _ (T1.setTop (mkF m 4 #[.val (.ref a1), .val (.int p2)] []))
  refine own_step (fun t k => XS.aloadN X1.here hx rfl (hb hby d4_4) rfl rfl k) ?_
  show own_G p.tables e below _ (T1.setTop (mkF m 5 #[.val (.ref a1), .val (.int p2)] [(.ref a1)]))
  refine own_step (fun t k => XS.iloadN X1.here hx rfl (hb hby d4_5) rfl k) ?_
  show own_G p.tables e below _ (T1.setTop (mkF m 6 #[.val (.ref a1), .val (.int p2)] [(.int p2), (.ref a1)]))
  obtain ⟨T2, h2, X2, e2, W2, st2⟩ := putF X1 hx hZ hown (host := "") (Or.inl (hw _ (List.mem_of_getElem? (i := 20) rfl))) Via.refl e1 fp1 fp0 (Or.inr ⟨(hw _ (List.mem_of_getElem? (i := 21) rfl)), rfl, hnm⟩) (hw _ (List.mem_of_getElem? (i := 10) rfl)) (ty := .int) (by decide) rfl rfl (g := (mkF m 6 #[.val (.ref a1), .val (.int p2)] [(.int p2), (.ref a1)])) rfl rfl (hb hby d4_6)
  have N2 := Fr.snoc X2 N0 g_a1
  have c3 : Fld Z h2 a1 "com/example/dual_box/dualbox/RetryPolicy" "budget" "I" (.int p2) := fp1.same W2
  have c4 : Exa Z h2 a1 "com/example/dual_box/dualbox/RetryPolicy" := fp0.wr W2
  have K2 : Keep h0 h2 [a1] := (Keep.refl h0 [a1]).wr W2 (Or.inl (List.mem_of_getElem? (i := 0) rfl))
  refine own_step st2 ?_
  show own_G p.tables e below _ (T2.setTop (mkF m 9 #[.val (.ref a1), .val (.int p2)] []))
  obtain ⟨fs, hr, hrun, hended, hW, hsame⟩ := X2.leave (v := none) (fun _ => rfl)
  refine own_done (X2.returnOut hx Bd.returns (hb hby d4_9) hr) hrun hended ⟨_, _, rfl, ?_, ⟨_, rfl⟩, hW, hsame.mono (by decide) (by decide)⟩
  show Q4 Z a1 p2 u_budget_a1 h0 n0 _ T2.heap _
  rw [e2]
  exact ⟨rfl, N2, K2, c3⟩
theorem d2_0 : decode prog_12_method_3_code 0 = .ok (.new 8, 3) := by decide +kernel
theorem d2_3 : decode prog_12_method_3_code 3 = .ok (.dup, 1) := by decide +kernel
theorem d2_4 : decode prog_12_method_3_code 4 = .ok (.iload_n 0, 1) := by decide +kernel
theorem d2_5 : decode prog_12_method_3_code 5 = .ok (.invokestatic 17, 3) := by decide +kernel
theorem d2_8 : decode prog_12_method_3_code 8 = .ok (.invokespecial 21, 3) := by decide +kernel
theorem d2_11 : decode prog_12_method_3_code 11 = .ok (.areturn, 1) := by decide +kernel
theorem pn_2 : plainName "com/example/dual_box/dualbox/RetryPolicy" = true := by first | (simp [plainName, overriddenIn]; done) | decide +kernel
theorem pd_2_0 : parseMethodDescriptor "(I)I" = some ⟨[.int], some .int⟩ := by decide +kernel
theorem pd_2_1 : parseMethodDescriptor "(I)V" = some ⟨[.int], none⟩ := by decide +kernel
theorem ef_2 (m : MethodId) (p1 : Int32) : entryFrame m #[(.int p1)] 1 = mkF m 0 #[.val (.int p1)] [] := by first | (simp [entryFrame, mkF, argsToLocals, Value.category]; done) | rfl
def Q2 (Z : State) (p1 : Int32) (h0 : Heap) (n0 : Nat) (v : Option Value) (h : Heap) (L : List Loc) : Prop := ∃ (rb : Addr), v = some (.ref rb) ∧ Fr n0 L ∧ Keep h0 h [] ∧ Exa Z h rb "com/example/dual_box/dualbox/RetryPolicy" ∧ Fld Z h rb "com/example/dual_box/dualbox/RetryPolicy" "budget" "I" (.int p1) ∧ h0.size ≤ rb
set_option maxRecDepth 65536 in
set_option maxHeartbeats 40000000 in
theorem rm2 (l : Launch) (Z : State) (a0 : Array Value) (hw : ∀ d ∈ tables_1, d.before a0 Z = true) (ws : List Jvm.Cond) (p1 : Int32) (h0 : Heap) (n0 : Nat) (Z0 : n0 ≤ h0.size) (hp : ¬ (p1 < (1 : Int32))) :
    MetFree l (⟨"com/example/dual_box/dualbox/RetryPolicy", "withBudget", "(I)Lcom/example/dual_box/dualbox/RetryPolicy;"⟩ : MethodName) (head1 (Jvm.Cond.code (⟨"com/example/dual_box/dualbox/RetryPolicy", "withBudget", "(I)Lcom/example/dual_box/dualbox/RetryPolicy;"⟩ : MethodName) prog_12_method_3_code 1 (some (.object "com/example/dual_box/dualbox/RetryPolicy")) :: ws) ({ frames := 2, cells := 1, slots := 1, locals := 26 } : Room)) (fun a U => a = #[(.int p1)] ∧ Z.Warmed39 U.vm ∧ U.heap = h0) (fun _ _ _ _ _ => True) (fun _ U o U' => ∃ v L, o = .returned v ∧ Q2 Z p1 h0 n0 v U'.heap L ∧ FrameEnd U o U' L ({ frames := 2, cells := 1, slots := 1, locals := 26 } : Room).cells ({ frames := 2, cells := 1, slots := 1, locals := 26 } : Room).slots) := by
  refine MetFree.of_bodySF (plainFor_of_name pn_2) hisR ?_
  intro p e s m args below meth c s₁ Bd hml0 hP hK
  obtain ⟨rfl, hZ, hh⟩ := hP
  have hx := Bd.exec
  have hby := Bd.bytes
  have hml : c.maxLocals = 1 := hml0
  have hown : s.vm.findClass "com/example/dual_box/dualbox/RetryPolicy" = some m.cls := findClass_of_methodNamed Bd.named
  have hnm := (name_of_methodNamed Bd.named Bd.method).1
  have X0 : Stand p l e ({ frames := 2, cells := 1, slots := 1, locals := 26 } : Room) s m #[(.int p1)] below meth c s₁ [] 0 0 := Stand.of_body Bd
  have e0 : s₁.heap = h0 := by rw [← hh, Bd.state]; rfl
  have N0 := Fr.nil n0
  refine own_start (fun t k => castTop (ef_2 m p1) k) ?_
  show own_G p.tables e below _ (s₁.setTop (mkF m 0 #[.val (.int p1)] []))
  obtain ⟨T1, h1, X1, e1, E1, A1, D1, -, st1⟩ := newO X0 hx hZ hown (hw _ (List.mem_of_getElem? (i := 9) rfl)) (hw _ (List.mem_of_getElem? (i := 10) rfl)) (hw _ (List.mem_of_getElem? (i := 7) rfl)) e0 (g := (mkF m 0 #[.val (.int p1)] [])) rfl (hb hby d2_0) (by decide) (by decide)
  obtain ⟨b1, g1⟩ : ∃ z, z = h0.size := ⟨_, rfl⟩
  have sz1 : h0.size ≤ b1 := Nat.le_trans (Keep.refl h0 []).1 (Nat.le_of_eq g1.symm)
  have ge1 : n0 ≤ b1 := Nat.le_trans Z0 sz1
  have K1 : Keep h0 h1 [] := (Keep.refl h0 []).ext E1
  rw [← g1] at A1 D1 st1
  have c2 : Fld Z h1 b1 "com/example/dual_box/dualbox/RetryPolicy" "budget" "I" (.int (0 : Int32)) := D1 (Or.inr (hw _ (List.mem_of_getElem? (i := 21) rfl))) (ty := .int) (by decide)
  refine own_step st1 ?_
  show own_G p.tables e below _ (T1.setTop (mkF m 3 #[.val (.int p1)] [(.ref b1)]))
  refine own_step (fun t k => XS.dup X1.here hx rfl (hb hby d2_3) rfl rfl k) ?_
  show own_G p.tables e below _ (T1.setTop (mkF m 4 #[.val (.int p1)] [(.ref b1), (.ref b1)]))
  refine own_step (fun t k => XS.iloadN X1.here hx rfl (hb hby d2_4) rfl k) ?_
  show own_G p.tables e below _ (T1.setTop (mkF m 5 #[.val (.int p1)] [(.int p1), (.ref b1), (.ref b1)]))
  obtain ⟨_, _, ⟨T3, L3, k3, n3⟩, -, X3, ⟨Lc3, hQ3, l3, y3, z3⟩, st3⟩ := Jvm.LawKit.callS X1 hx (y := (⟨"com/example/dual_box/dualbox/RetryPolicy", "requireBudget", "(I)I"⟩ : MethodName)) hown (mvT hZ (hw _ (List.mem_of_getElem? (i := 11) rfl))) (mvT hZ (hw _ (List.mem_of_getElem? (i := 12) rfl))) (mvT hZ (hw _ (List.mem_of_getElem? (i := 7) rfl))) (mvT hZ (hw _ (List.mem_of_getElem? (i := 13) rfl))) (by decide) (backOf (W := 2) (rm3 l Z a0 hw [] p1 h1 n0 (Nat.le_trans Z0 K1.1) (hp : ¬ (p1 < (1 : Int32)))) hZ (hw _ (List.mem_of_getElem? (i := 13) rfl)) (hw _ (List.mem_of_getElem? (i := 7) rfl)) (by decide) (by decide)) (g := (mkF m 5 #[.val (.int p1)] [(.int p1), (.ref b1), (.ref b1)])) rfl (by rw [hml]; rfl) (argsL := [(.int p1)]) (rest := [(.ref b1), (.ref b1)]) (lenOf pd_2_0 rfl) rfl (by show 2 * 0 + _ ≤ _; exact Nat.le_of_eq rfl) (hb hby d2_5) (fun _ _ => ⟨rfl, e1, (by decide : 1 + 0 ≤ _), (by decide : 1 + 0 ≤ _)⟩)
  dsimp only [Pt.U, Pt.locs, Pt.cells, Pt.slots] at X3 l3 y3 z3 st3 hQ3
  subst l3 y3 z3
  obtain ⟨rfl, N3q, e3⟩ := hQ3
  have N3 := Fr.app N0 N3q
  refine own_step st3 ?_
  show own_G p.tables e below _ (T3.setTop (mkF m 8 #[.val (.int p1)] [(.int p1), (.ref b1), (.ref b1)]))
  obtain ⟨_, _, ⟨T4, L4, k4, n4⟩, -, X4, ⟨Lc4, hQ4, l4, y4, z4⟩, st4⟩ := X3.specialBack hx (y := (⟨"com/example/dual_box/dualbox/RetryPolicy", "<init>", "(I)V"⟩ : MethodName)) rfl hown (mvT hZ (hw _ (List.mem_of_getElem? (i := 14) rfl))) (mvT hZ (hw _ (List.mem_of_getElem? (i := 15) rfl))) (mvT hZ (hw _ (List.mem_of_getElem? (i := 16) rfl))) (by decide) (backOf (W := 1) (rm4 l Z a0 hw [] b1 p1 (.int (0 : Int32)) h1 n0 (Nat.le_trans Z0 K1.1) A1 c2 ge1) hZ (hw _ (List.mem_of_getElem? (i := 16) rfl)) (hw _ (List.mem_of_getElem? (i := 7) rfl)) (by decide) (by decide)) (g := (mkF m 8 #[.val (.int p1)] [(.int p1), (.ref b1), (.ref b1)])) rfl (by rw [hml]; rfl) (Steps.refl _) (a := b1) (argsL := [(.int p1)]) (rest := [(.ref b1)]) (lenOf pd_2_1 rfl) rfl (by show 2 * 0 + _ ≤ _; exact Nat.le_of_eq rfl) (hb hby d2_8) (fun _ _ => ⟨rfl, e3, (by decide : 1 + 0 ≤ _), (by decide : 1 + 0 ≤ _)⟩)
  dsimp only [Pt.U, Pt.locs, Pt.cells, Pt.slots] at X4 l4 y4 z4 st4 hQ4
  subst l4 y4 z4
  obtain ⟨rfl, N4q, K4q, w4_0⟩ := hQ4
  have c5 : Exa Z T4.heap b1 "com/example/dual_box/dualbox/RetryPolicy" := A1.keep K4q
  have K4 : Keep h0 T4.heap [] := K1.trans K4q (allS (Or.inr sz1) all0)
  have N4 := Fr.app N3 N4q
  refine own_step (fun t k => st4.trans k) ?_
  show own_G p.tables e below _ (T4.setTop (mkF m 11 #[.val (.int p1)] [(.ref b1)]))
  obtain ⟨fs, hr, hrun, hended, hW, hsame⟩ := X4.leave (v := some (.ref b1)) (fun h => by rw [Bd.returns] at h; cases h)
  refine own_done (own_retA X4 hx Bd.returns (by decide) rfl (hb hby d2_11) hr) hrun hended ⟨_, _, rfl, ?_, ⟨_, rfl⟩, hW, hsame.mono (by decide) (by decide)⟩
  show Q2 Z p1 h0 n0 _ T4.heap _
  exact ⟨b1, rfl, N4, K4, c5, w4_0, sz1⟩
theorem d6_0 : decode prog_12_method_5_code 0 = .ok (.aload_n 0, 1) := by decide +kernel
theorem d6_1 : decode prog_12_method_5_code 1 = .ok (.getfield 7, 3) := by decide +kernel
theorem d6_4 : decode prog_12_method_5_code 4 = .ok (.ireturn, 1) := by decide +kernel
theorem pn_6 : plainName "com/example/dual_box/dualbox/RetryPolicy" = true := by first | (simp [plainName, overriddenIn]; done) | decide +kernel
theorem ef_6 (m : MethodId) (a1 : Addr) : entryFrame m #[(.ref a1)] 1 = mkF m 0 #[.val (.ref a1)] [] := by first | (simp [entryFrame, mkF, argsToLocals, Value.category]; done) | rfl
def Q6 (Z : State) (a1 : Addr) (u_budget_a1 : Int32) (h0 : Heap) (n0 : Nat) (v : Option Value) (h : Heap) (L : List Loc) : Prop := v = some (.int u_budget_a1) ∧ Fr n0 L ∧ h = h0
set_option maxRecDepth 65536 in
set_option maxHeartbeats 40000000 in
theorem rm6 (l : Launch) (Z : State) (a0 : Array Value) (hw : ∀ d ∈ tables_1, d.before a0 Z = true) (ws : List Jvm.Cond) (a1 : Addr) (u_budget_a1 : Int32) (h0 : Heap) (n0 : Nat) (Z0 : n0 ≤ h0.size) (fp0 : Fld Z h0 a1 "com/example/dual_box/dualbox/RetryPolicy" "budget" "I" (.int u_budget_a1)) :
    MetFree l (⟨"com/example/dual_box/dualbox/RetryPolicy", "budget", "()I"⟩ : MethodName) (head1 (Jvm.Cond.code (⟨"com/example/dual_box/dualbox/RetryPolicy", "budget", "()I"⟩ : MethodName) prog_12_method_5_code 1 (some .int) :: ws) ({ frames := 0, cells := 0, slots := 0, locals := 0 } : Room)) (fun a U => a = #[(.ref a1)] ∧ Z.Warmed39 U.vm ∧ U.heap = h0) (fun _ _ _ _ _ => True) (fun _ U o U' => ∃ v L, o = .returned v ∧ Q6 Z a1 u_budget_a1 h0 n0 v U'.heap L ∧ FrameEnd U o U' L ({ frames := 0, cells := 0, slots := 0, locals := 0 } : Room).cells ({ frames := 0, cells := 0, slots := 0, locals := 0 } : Room).slots) := by
  refine MetFree.of_bodySF (plainFor_of_name pn_6) hisR ?_
  intro p e s m args below meth c s₁ Bd hml0 hP hK
  obtain ⟨rfl, hZ, hh⟩ := hP
  have hx := Bd.exec
  have hby := Bd.bytes
  have hml : c.maxLocals = 1 := hml0
  have hown : s.vm.findClass "com/example/dual_box/dualbox/RetryPolicy" = some m.cls := findClass_of_methodNamed Bd.named
  have hnm := (name_of_methodNamed Bd.named Bd.method).1
  have X0 : Stand p l e ({ frames := 0, cells := 0, slots := 0, locals := 0 } : Room) s m #[(.ref a1)] below meth c s₁ [] 0 0 := Stand.of_body Bd
  have e0 : s₁.heap = h0 := by rw [← hh, Bd.state]; rfl
  have N0 := Fr.nil n0
  refine own_start (fun t k => castTop (ef_6 m a1) k) ?_
  show own_G p.tables e below _ (s₁.setTop (mkF m 0 #[.val (.ref a1)] []))
  refine own_step (fun t k => XS.aloadN X0.here hx rfl (hb hby d6_0) rfl rfl k) ?_
  show own_G p.tables e below _ (s₁.setTop (mkF m 1 #[.val (.ref a1)] [(.ref a1)]))
  obtain ⟨T1, X1, e1, st1⟩ := getF X0 hx hZ hown (host := "") (Or.inl (hw _ (List.mem_of_getElem? (i := 20) rfl))) Via.refl e0 fp0 (g := (mkF m 1 #[.val (.ref a1)] [(.ref a1)])) rfl rfl (hb hby d6_1)
  refine own_step st1 ?_
  show own_G p.tables e below _ (T1.setTop (mkF m 4 #[.val (.ref a1)] [(.int u_budget_a1)]))
  obtain ⟨fs, hr, hrun, hended, hW, hsame⟩ := X1.leave (v := some (.int u_budget_a1)) (fun h => by rw [Bd.returns] at h; cases h)
  refine own_done (retI X1 hx Bd.returns (hb hby d6_4) hr) hrun hended ⟨_, _, rfl, ?_, ⟨_, rfl⟩, hW, hsame.mono (by decide) (by decide)⟩
  show Q6 Z a1 u_budget_a1 h0 n0 _ T1.heap _
  rw [e1]
  exact ⟨congrArg (fun z => some (Value.int z)) (show u_budget_a1 = u_budget_a1 from rfl), N0, rfl⟩
theorem d7_0 : decode prog_12_method_6_code 0 = .ok (.iload_n 1, 1) := by decide +kernel
theorem d7_1 : decode prog_12_method_6_code 1 = .ok (.aload_n 0, 1) := by decide +kernel
theorem d7_2 : decode prog_12_method_6_code 2 = .ok (.getfield 7, 3) := by decide +kernel
theorem d7_5 : decode prog_12_method_6_code 5 = .ok (.if_icmp .lt 7, 3) := by decide +kernel
theorem d7_8 : decode prog_12_method_6_code 8 = .ok (.iconst 1, 1) := by decide +kernel
theorem d7_9 : decode prog_12_method_6_code 9 = .ok (.goto 4, 3) := by decide +kernel
theorem d7_12 : decode prog_12_method_6_code 12 = .ok (.iconst 0, 1) := by decide +kernel
theorem d7_13 : decode prog_12_method_6_code 13 = .ok (.ireturn, 1) := by decide +kernel
theorem pn_7 : plainName "com/example/dual_box/dualbox/RetryPolicy" = true := by first | (simp [plainName, overriddenIn]; done) | decide +kernel
theorem ef_7 (m : MethodId) (a1 : Addr) (p2 : Int32) : entryFrame m #[(.ref a1), (.int p2)] 2 = mkF m 0 #[.val (.ref a1), .val (.int p2)] [] := by first | (simp [entryFrame, mkF, argsToLocals, Value.category]; done) | rfl
def own_f7 (p2 : Int32) (u_budget_a1 : Int32) : Int32 :=
  (if p2 < u_budget_a1 then (0 : Int32) else (1 : Int32))
def Q7 (Z : State) (a1 : Addr) (p2 : Int32) (u_budget_a1 : Int32) (h0 : Heap) (n0 : Nat) (v : Option Value) (h : Heap) (L : List Loc) : Prop := v = some (.int (own_f7 p2 u_budget_a1)) ∧ Fr n0 L ∧ h = h0
set_option maxRecDepth 65536 in
set_option maxHeartbeats 40000000 in
theorem rm7 (l : Launch) (Z : State) (a0 : Array Value) (hw : ∀ d ∈ tables_1, d.before a0 Z = true) (ws : List Jvm.Cond) (a1 : Addr) (p2 : Int32) (u_budget_a1 : Int32) (h0 : Heap) (n0 : Nat) (Z0 : n0 ≤ h0.size) (fp0 : Fld Z h0 a1 "com/example/dual_box/dualbox/RetryPolicy" "budget" "I" (.int u_budget_a1)) :
    MetFree l (⟨"com/example/dual_box/dualbox/RetryPolicy", "isSpent", "(I)Z"⟩ : MethodName) (head1 (Jvm.Cond.code (⟨"com/example/dual_box/dualbox/RetryPolicy", "isSpent", "(I)Z"⟩ : MethodName) prog_12_method_6_code 2 (some .boolean) :: ws) ({ frames := 0, cells := 0, slots := 0, locals := 0 } : Room)) (fun a U => a = #[(.ref a1), (.int p2)] ∧ Z.Warmed39 U.vm ∧ U.heap = h0) (fun _ _ _ _ _ => True) (fun _ U o U' => ∃ v L, o = .returned v ∧ Q7 Z a1 p2 u_budget_a1 h0 n0 v U'.heap L ∧ FrameEnd U o U' L ({ frames := 0, cells := 0, slots := 0, locals := 0 } : Room).cells ({ frames := 0, cells := 0, slots := 0, locals := 0 } : Room).slots) := by
  refine MetFree.of_bodySF (plainFor_of_name pn_7) hisR ?_
  intro p e s m args below meth c s₁ Bd hml0 hP hK
  obtain ⟨rfl, hZ, hh⟩ := hP
  have hx := Bd.exec
  have hby := Bd.bytes
  have hml : c.maxLocals = 2 := hml0
  have hown : s.vm.findClass "com/example/dual_box/dualbox/RetryPolicy" = some m.cls := findClass_of_methodNamed Bd.named
  have hnm := (name_of_methodNamed Bd.named Bd.method).1
  have X0 : Stand p l e ({ frames := 0, cells := 0, slots := 0, locals := 0 } : Room) s m #[(.ref a1), (.int p2)] below meth c s₁ [] 0 0 := Stand.of_body Bd
  have e0 : s₁.heap = h0 := by rw [← hh, Bd.state]; rfl
  have N0 := Fr.nil n0
  refine own_start (fun t k => castTop (ef_7 m a1 p2) k) ?_
  show own_G p.tables e below _ (s₁.setTop (mkF m 0 #[.val (.ref a1), .val (.int p2)] []))
  refine own_step (fun t k => XS.iloadN X0.here hx rfl (hb hby d7_0) rfl k) ?_
  show own_G p.tables e below _ (s₁.setTop (mkF m 1 #[.val (.ref a1), .val (.int p2)] [(.int p2)]))
  refine own_step (fun t k => XS.aloadN X0.here hx rfl (hb hby d7_1) rfl rfl k) ?_
  show own_G p.tables e below _ (s₁.setTop (mkF m 2 #[.val (.ref a1), .val (.int p2)] [(.ref a1), (.int p2)]))
  obtain ⟨T1, X1, e1, st1⟩ := getF X0 hx hZ hown (host := "") (Or.inl (hw _ (List.mem_of_getElem? (i := 20) rfl))) Via.refl e0 fp0 (g := (mkF m 2 #[.val (.ref a1), .val (.int p2)] [(.ref a1), (.int p2)])) rfl rfl (hb hby d7_2)
  refine own_step st1 ?_
  show own_G p.tables e below _ (T1.setTop (mkF m 5 #[.val (.ref a1), .val (.int p2)] [(.int u_budget_a1), (.int p2)]))
  by_cases hc2 : p2 < u_budget_a1
  · skip
    refine own_step (fun t k => XS.icmpYes X1.here hx rfl (pc0 := 5) (pc' := 12) rfl (hb hby d7_5) rfl ((tlt hc2).1) (by decide) (by decide) k) ?_
    show own_G p.tables e below _ (T1.setTop (mkF m 12 #[.val (.ref a1), .val (.int p2)] []))
    refine own_step (fun t k => XS.iconst X1.here hx rfl (hb hby d7_12) k) ?_
    show own_G p.tables e below _ (T1.setTop (mkF m 13 #[.val (.ref a1), .val (.int p2)] [(.int (0 : Int32))]))
    obtain ⟨fs, hr, hrun, hended, hW, hsame⟩ := X1.leave (v := some (.int (0 : Int32))) (fun h => by rw [Bd.returns] at h; cases h)
    refine own_done (retN X1 hx (t := .boolean) Bd.returns (by simp) (hb hby d7_13) hr) hrun hended ⟨_, _, rfl, ?_, ⟨_, rfl⟩, hW, hsame.mono (by decide) (by decide)⟩
    show Q7 Z a1 p2 u_budget_a1 h0 n0 _ T1.heap _
    rw [e1]
    exact ⟨congrArg (fun z => some (Value.int z)) (show (0 : Int32) = (own_f7 p2 u_budget_a1) from by unfold own_f7; simp only [if_pos hc2]), N0, rfl⟩
  · skip
    refine own_step (fun t k => XS.icmpNo X1.here hx rfl (hb hby d7_5) rfl ((flt hc2).1) k) ?_
    show own_G p.tables e below _ (T1.setTop (mkF m 8 #[.val (.ref a1), .val (.int p2)] []))
    refine own_step (fun t k => XS.iconst X1.here hx rfl (hb hby d7_8) k) ?_
    show own_G p.tables e below _ (T1.setTop (mkF m 9 #[.val (.ref a1), .val (.int p2)] [(.int (1 : Int32))]))
    refine own_step (fun t k => XS.goto X1.here hx rfl (pc0 := 9) (pc' := 13) rfl (hb hby d7_9) (by decide) (by decide) k) ?_
    show own_G p.tables e below _ (T1.setTop (mkF m 13 #[.val (.ref a1), .val (.int p2)] [(.int (1 : Int32))]))
    obtain ⟨fs, hr, hrun, hended, hW, hsame⟩ := X1.leave (v := some (.int (1 : Int32))) (fun h => by rw [Bd.returns] at h; cases h)
    refine own_done (retN X1 hx (t := .boolean) Bd.returns (by simp) (hb hby d7_13) hr) hrun hended ⟨_, _, rfl, ?_, ⟨_, rfl⟩, hW, hsame.mono (by decide) (by decide)⟩
    show Q7 Z a1 p2 u_budget_a1 h0 n0 _ T1.heap _
    rw [e1]
    exact ⟨congrArg (fun z => some (Value.int z)) (show (1 : Int32) = (own_f7 p2 u_budget_a1) from by unfold own_f7; simp only [if_neg hc2]), N0, rfl⟩

theorem own_mask (x : Int32) : ¬ ((x &&& (2147483647 : Int32)) < (0 : Int32)) := by
  have h : ((x &&& 2147483647).toInt) = x.toInt % 2 ^ 31 := Jvm.Kit.i32_mask x 2147483647 (k := 31) (by decide) (by decide)
  rw [Int32.lt_iff_toInt_lt, h]
  have : (0 : Int32).toInt = 0 := rfl
  omega
theorem own_pos {x : Int32} (h : ¬ x < (0 : Int32)) (h0 : ¬ x = (0 : Int32)) : ¬ x < (1 : Int32) := by
  rw [Int32.lt_iff_toInt_lt] at h ⊢
  have h1 : ¬ x.toInt = (0 : Int32).toInt := fun q => h0 (Int32.toInt_inj.mp q)
  have e0 : (0 : Int32).toInt = 0 := rfl
  have e1 : (1 : Int32).toInt = 1 := rfl
  omega
theorem own_bud (x : Int32) : ¬ (own_f1 x < (1 : Int32)) := by
  unfold own_f1
  split
  · decide
  · rename_i h
    exact own_pos (own_mask x) h
theorem own_sp1 (a : Int32) : ¬ (own_f7 a a = (0 : Int32)) := by
  unfold own_f7
  have h : ¬ a < a := by rw [Int32.lt_iff_toInt_lt]; omega
  simp only [if_neg h]; decide
theorem own_sp2 (a : Int32) (h : ¬ a < (1 : Int32)) : own_f7 (a - (1 : Int32)) a = (0 : Int32) := by
  unfold own_f7
  have e1 : (1 : Int32).toInt = 1 := rfl
  have r := a.toInt_lt
  rw [Int32.lt_iff_toInt_lt] at h
  have s : (a - (1 : Int32)).toInt = a.toInt - 1 := by rw [← e1]; exact Jvm.Kit.i32_sub (by omega) (by omega)
  have h : (a - (1 : Int32)) < a := by rw [Int32.lt_iff_toInt_lt]; omega
  simp only [if_pos h]

theorem pn_0 : plainName "com/example/dual_box/dualbox/RetryPolicyWithBudgetPinLaw" = true := by first | (simp [plainName, overriddenIn]; done) | decide +kernel
theorem pd_0_0 : parseMethodDescriptor "(I)I" = some ⟨[.int], some .int⟩ := by decide +kernel
theorem pd_0_1 : parseMethodDescriptor "(I)Lcom/example/dual_box/dualbox/RetryPolicy;" = some ⟨[.int], some (.object "com/example/dual_box/dualbox/RetryPolicy")⟩ := by decide +kernel
theorem pd_0_2 : parseMethodDescriptor "()I" = some ⟨[], some .int⟩ := by decide +kernel
theorem pd_0_3 : parseMethodDescriptor "(I)Z" = some ⟨[.int], some .boolean⟩ := by decide +kernel
theorem ef_0 (m : MethodId) (p1 : Int32) (p2 : Int32) (p3 : Int32) : entryFrame m #[(.int p1), (.int p2), (.int p3)] maxLocals = mkF m 0 #[.val (.int p1), .val (.int p2), .val (.int p3), .unset, .unset, .unset, .unset, .unset, .unset, .unset] [] := by first | (simp [entryFrame, mkF, argsToLocals, Value.category, maxLocals]; done) | rfl
def Q0 (Z : State) (p1 : Int32) (p2 : Int32) (p3 : Int32) (h0 : Heap) (n0 : Nat) (v : Option Value) (h : Heap) (L : List Loc) : Prop := v = some (.int (1 : Int32)) ∧ Fr n0 L
set_option maxRecDepth 65536 in
set_option maxHeartbeats 40000000 in
theorem rm0 (l : Launch) (Z : State) (a0 : Array Value) (hw : ∀ d ∈ tables_1, d.before a0 Z = true) (ws : List Jvm.Cond) (p1 : Int32) (p2 : Int32) (p3 : Int32) (h0 : Heap) (n0 : Nat) (Z0 : n0 ≤ h0.size) :
    MetFree l x (head1 (Jvm.Cond.code x code maxLocals ret :: ws) room_1) (fun a U => a = #[(.int p1), (.int p2), (.int p3)] ∧ Z.Warmed39 U.vm ∧ U.heap = h0) (fun _ _ _ _ _ => True) (fun _ U o U' => ∃ v L, o = .returned v ∧ Q0 Z p1 p2 p3 h0 n0 v U'.heap L ∧ FrameEnd U o U' L room_1.cells room_1.slots) := by
  refine MetFree.of_bodySF (plainFor_of_name pn_0) hisR ?_
  intro p e s m args below meth c s₁ Bd hml0 hP hK
  obtain ⟨rfl, hZ, hh⟩ := hP
  have hx := Bd.exec
  have hby := Bd.bytes
  have hml : c.maxLocals = 10 := hml0
  have hown : s.vm.findClass "com/example/dual_box/dualbox/RetryPolicyWithBudgetPinLaw" = some m.cls := findClass_of_methodNamed Bd.named
  have hnm := (name_of_methodNamed Bd.named Bd.method).1
  have X0 : Stand p l e room_1 s m #[(.int p1), (.int p2), (.int p3)] below meth c s₁ [] 0 0 := Stand.of_body Bd
  have e0 : s₁.heap = h0 := by rw [← hh, Bd.state]; rfl
  have N0 := Fr.nil n0
  refine own_start (fun t k => castTop (ef_0 m p1 p2 p3) k) ?_
  show own_G p.tables e below _ (s₁.setTop (mkF m 0 #[.val (.int p1), .val (.int p2), .val (.int p3), .unset, .unset, .unset, .unset, .unset, .unset, .unset] []))
  refine own_step (fun t k => XS.iloadN X0.here hx rfl (hb hby at_0) rfl k) ?_
  show own_G p.tables e below _ (s₁.setTop (mkF m 1 #[.val (.int p1), .val (.int p2), .val (.int p3), .unset, .unset, .unset, .unset, .unset, .unset, .unset] [(.int p1)]))
  obtain ⟨_, _, ⟨T1, L1, k1, n1⟩, -, X1, ⟨Lc1, hQ1, l1, y1, z1⟩, st1⟩ := Jvm.LawKit.callS X0 hx (y := (⟨"com/example/dual_box/dualbox/RetryPolicyWithBudgetPinLaw", "budgetOf", "(I)I"⟩ : MethodName)) hown (mvT hZ (hw _ (List.mem_of_getElem? (i := 0) rfl))) (mvT hZ (hw _ (List.mem_of_getElem? (i := 1) rfl))) (mvT hZ (hw _ (List.mem_of_getElem? (i := 2) rfl))) (mvT hZ (hw _ (List.mem_of_getElem? (i := 3) rfl))) (by decide) (backOf (W := 0) (rm1 l Z a0 hw [] p1 h0 n0 (Nat.le_trans Z0 (Keep.refl h0 []).1) ) hZ (hw _ (List.mem_of_getElem? (i := 3) rfl)) (hw _ (List.mem_of_getElem? (i := 2) rfl)) (by decide) (by decide)) (g := (mkF m 1 #[.val (.int p1), .val (.int p2), .val (.int p3), .unset, .unset, .unset, .unset, .unset, .unset, .unset] [(.int p1)])) rfl (by rw [hml]; rfl) (argsL := [(.int p1)]) (rest := []) (lenOf pd_0_0 rfl) rfl (by show 2 * 0 + _ ≤ _; exact Nat.le_of_eq rfl) (hb hby at_1) (fun _ _ => ⟨rfl, e0, (by decide : 0 + 0 ≤ _), (by decide : 0 + 0 ≤ _)⟩)
  dsimp only [Pt.U, Pt.locs, Pt.cells, Pt.slots] at X1 l1 y1 z1 st1 hQ1
  subst l1 y1 z1
  obtain ⟨rfl, N1q, e1⟩ := hQ1
  have N1 := Fr.app N0 N1q
  refine own_step st1 ?_
  show own_G p.tables e below _ (T1.setTop (mkF m 4 #[.val (.int p1), .val (.int p2), .val (.int p3), .unset, .unset, .unset, .unset, .unset, .unset, .unset] [(.int (own_f1 p1))]))
  refine own_nm ((own_f1 p1) : Int32) (fun a => T1.setTop (mkF m 4 #[.val (.int p1), .val (.int p2), .val (.int p3), .unset, .unset, .unset, .unset, .unset, .unset, .unset] [(.int a)])) ?_
  intro a hd_a
  show own_G p.tables e below _ (T1.setTop (mkF m 4 #[.val (.int p1), .val (.int p2), .val (.int p3), .unset, .unset, .unset, .unset, .unset, .unset, .unset] [(.int a)]))
  refine own_step (fun t k => XS.istoreN X1.here hx rfl (hb hby at_4) rfl (l' := #[.val (.int p1), .val (.int p2), .val (.int p3), .val (.int a), .unset, .unset, .unset, .unset, .unset, .unset]) rfl k) ?_
  show own_G p.tables e below _ (T1.setTop (mkF m 5 #[.val (.int p1), .val (.int p2), .val (.int p3), .val (.int a), .unset, .unset, .unset, .unset, .unset, .unset] []))
  refine own_step (fun t k => XS.iloadN X1.here hx rfl (hb hby at_5) rfl k) ?_
  show own_G p.tables e below _ (T1.setTop (mkF m 6 #[.val (.int p1), .val (.int p2), .val (.int p3), .val (.int a), .unset, .unset, .unset, .unset, .unset, .unset] [(.int p2)]))
  obtain ⟨_, _, ⟨T3, L3, k3, n3⟩, -, X3, ⟨Lc3, hQ3, l3, y3, z3⟩, st3⟩ := Jvm.LawKit.callS X1 hx (y := (⟨"com/example/dual_box/dualbox/RetryPolicyWithBudgetPinLaw", "budgetOf", "(I)I"⟩ : MethodName)) hown (mvT hZ (hw _ (List.mem_of_getElem? (i := 0) rfl))) (mvT hZ (hw _ (List.mem_of_getElem? (i := 1) rfl))) (mvT hZ (hw _ (List.mem_of_getElem? (i := 2) rfl))) (mvT hZ (hw _ (List.mem_of_getElem? (i := 3) rfl))) (by decide) (backOf (W := 0) (rm1 l Z a0 hw [] p2 h0 n0 (Nat.le_trans Z0 (Keep.refl h0 []).1) ) hZ (hw _ (List.mem_of_getElem? (i := 3) rfl)) (hw _ (List.mem_of_getElem? (i := 2) rfl)) (by decide) (by decide)) (g := (mkF m 6 #[.val (.int p1), .val (.int p2), .val (.int p3), .val (.int a), .unset, .unset, .unset, .unset, .unset, .unset] [(.int p2)])) rfl (by rw [hml]; rfl) (argsL := [(.int p2)]) (rest := []) (lenOf pd_0_0 rfl) rfl (by show 2 * 0 + _ ≤ _; exact Nat.le_of_eq rfl) (hb hby at_6) (fun _ _ => ⟨rfl, e1, (by decide : 0 + 0 ≤ _), (by decide : 0 + 0 ≤ _)⟩)
  dsimp only [Pt.U, Pt.locs, Pt.cells, Pt.slots] at X3 l3 y3 z3 st3 hQ3
  subst l3 y3 z3
  obtain ⟨rfl, N3q, e3⟩ := hQ3
  have N3 := Fr.app N1 N3q
  refine own_step st3 ?_
  show own_G p.tables e below _ (T3.setTop (mkF m 9 #[.val (.int p1), .val (.int p2), .val (.int p3), .val (.int a), .unset, .unset, .unset, .unset, .unset, .unset] [(.int (own_f1 p2))]))
  refine own_nm ((own_f1 p2) : Int32) (fun b => T3.setTop (mkF m 9 #[.val (.int p1), .val (.int p2), .val (.int p3), .val (.int a), .unset, .unset, .unset, .unset, .unset, .unset] [(.int b)])) ?_
  intro b hd_b
  show own_G p.tables e below _ (T3.setTop (mkF m 9 #[.val (.int p1), .val (.int p2), .val (.int p3), .val (.int a), .unset, .unset, .unset, .unset, .unset, .unset] [(.int b)]))
  refine own_step (fun t k => XS.istore X3.here hx rfl (hb hby at_9) rfl (l' := #[.val (.int p1), .val (.int p2), .val (.int p3), .val (.int a), .val (.int b), .unset, .unset, .unset, .unset, .unset]) rfl k) ?_
  show own_G p.tables e below _ (T3.setTop (mkF m 11 #[.val (.int p1), .val (.int p2), .val (.int p3), .val (.int a), .val (.int b), .unset, .unset, .unset, .unset, .unset] []))
  refine own_step (fun t k => XS.iloadN X3.here hx rfl (hb hby at_11) rfl k) ?_
  show own_G p.tables e below _ (T3.setTop (mkF m 12 #[.val (.int p1), .val (.int p2), .val (.int p3), .val (.int a), .val (.int b), .unset, .unset, .unset, .unset, .unset] [(.int a)]))
  obtain ⟨_, _, ⟨T5, L5, k5, n5⟩, -, X5, ⟨Lc5, hQ5, l5, y5, z5⟩, st5⟩ := Jvm.LawKit.callS X3 hx (y := (⟨"com/example/dual_box/dualbox/RetryPolicy", "withBudget", "(I)Lcom/example/dual_box/dualbox/RetryPolicy;"⟩ : MethodName)) hown (mvT hZ (hw _ (List.mem_of_getElem? (i := 5) rfl))) (mvT hZ (hw _ (List.mem_of_getElem? (i := 6) rfl))) (mvT hZ (hw _ (List.mem_of_getElem? (i := 7) rfl))) (mvT hZ (hw _ (List.mem_of_getElem? (i := 8) rfl))) (by decide) (backOf (W := 0) (rm2 l Z a0 hw [] a h0 n0 (Nat.le_trans Z0 (Keep.refl h0 []).1) ((by rw [hd_a]; exact own_bud _) : ¬ (a < (1 : Int32)))) hZ (hw _ (List.mem_of_getElem? (i := 8) rfl)) (hw _ (List.mem_of_getElem? (i := 7) rfl)) (by decide) (by decide)) (g := (mkF m 12 #[.val (.int p1), .val (.int p2), .val (.int p3), .val (.int a), .val (.int b), .unset, .unset, .unset, .unset, .unset] [(.int a)])) rfl (by rw [hml]; rfl) (argsL := [(.int a)]) (rest := []) (lenOf pd_0_1 rfl) rfl (by show 2 * 0 + _ ≤ _; exact Nat.le_of_eq rfl) (hb hby at_12) (fun _ _ => ⟨rfl, e3, (by decide : 0 + 1 ≤ _), (by decide : 0 + 1 ≤ _)⟩)
  dsimp only [Pt.U, Pt.locs, Pt.cells, Pt.slots] at X5 l5 y5 z5 st5 hQ5
  subst l5 y5 z5
  obtain ⟨bx5_rb, rfl, N5q, K5q, w5_0, w5_1, sx5_0⟩ := hQ5
  have sz5_0 : h0.size ≤ bx5_rb := Nat.le_trans (Keep.refl h0 []).1 sx5_0
  have ge5_0 : n0 ≤ bx5_rb := Nat.le_trans Z0 sz5_0
  have K5 : Keep h0 T5.heap [] := (Keep.refl h0 []).trans K5q all0
  have N5 := Fr.app N3 N5q
  refine own_step st5 ?_
  show own_G p.tables e below _ (T5.setTop (mkF m 15 #[.val (.int p1), .val (.int p2), .val (.int p3), .val (.int a), .val (.int b), .unset, .unset, .unset, .unset, .unset] [(.ref bx5_rb)]))
  refine own_step (fun t k => XS.astore X5.here hx rfl (hb hby at_15) rfl rfl (l' := #[.val (.int p1), .val (.int p2), .val (.int p3), .val (.int a), .val (.int b), .val (.ref bx5_rb), .unset, .unset, .unset, .unset]) rfl k) ?_
  show own_G p.tables e below _ (T5.setTop (mkF m 17 #[.val (.int p1), .val (.int p2), .val (.int p3), .val (.int a), .val (.int b), .val (.ref bx5_rb), .unset, .unset, .unset, .unset] []))
  refine own_step (fun t k => XS.iload X5.here hx rfl (hb hby at_17) rfl k) ?_
  show own_G p.tables e below _ (T5.setTop (mkF m 19 #[.val (.int p1), .val (.int p2), .val (.int p3), .val (.int a), .val (.int b), .val (.ref bx5_rb), .unset, .unset, .unset, .unset] [(.int b)]))
  obtain ⟨_, _, ⟨T6, L6, k6, n6⟩, -, X6, ⟨Lc6, hQ6, l6, y6, z6⟩, st6⟩ := Jvm.LawKit.callS X5 hx (y := (⟨"com/example/dual_box/dualbox/RetryPolicy", "withBudget", "(I)Lcom/example/dual_box/dualbox/RetryPolicy;"⟩ : MethodName)) hown (mvT hZ (hw _ (List.mem_of_getElem? (i := 5) rfl))) (mvT hZ (hw _ (List.mem_of_getElem? (i := 6) rfl))) (mvT hZ (hw _ (List.mem_of_getElem? (i := 7) rfl))) (mvT hZ (hw _ (List.mem_of_getElem? (i := 8) rfl))) (by decide) (backOf (W := 0) (rm2 l Z a0 hw [] b T5.heap n0 (Nat.le_trans Z0 K5.1) ((by rw [hd_b]; exact own_bud _) : ¬ (b < (1 : Int32)))) hZ (hw _ (List.mem_of_getElem? (i := 8) rfl)) (hw _ (List.mem_of_getElem? (i := 7) rfl)) (by decide) (by decide)) (g := (mkF m 19 #[.val (.int p1), .val (.int p2), .val (.int p3), .val (.int a), .val (.int b), .val (.ref bx5_rb), .unset, .unset, .unset, .unset] [(.int b)])) rfl (by rw [hml]; rfl) (argsL := [(.int b)]) (rest := []) (lenOf pd_0_1 rfl) rfl (by show 2 * 0 + _ ≤ _; exact Nat.le_of_eq rfl) (hb hby at_19) (fun _ _ => ⟨rfl, rfl, (by decide : 1 + 1 ≤ _), (by decide : 1 + 1 ≤ _)⟩)
  dsimp only [Pt.U, Pt.locs, Pt.cells, Pt.slots] at X6 l6 y6 z6 st6 hQ6
  subst l6 y6 z6
  obtain ⟨bx6_rb, rfl, N6q, K6q, w6_0, w6_1, sx6_0⟩ := hQ6
  have c7 : Exa Z T6.heap bx5_rb "com/example/dual_box/dualbox/RetryPolicy" := w5_0.keep K6q
  have c8 : Fld Z T6.heap bx5_rb "com/example/dual_box/dualbox/RetryPolicy" "budget" "I" (.int a) := w5_1.keep K6q nin0
  have sz6_0 : h0.size ≤ bx6_rb := Nat.le_trans K5.1 sx6_0
  have ge6_0 : n0 ≤ bx6_rb := Nat.le_trans Z0 sz6_0
  have ne9 : bx5_rb ≠ bx6_rb := Nat.ne_of_lt (Nat.lt_of_lt_of_le w5_0.lt sx6_0)
  have K6 : Keep h0 T6.heap [] := K5.trans K6q all0
  have N6 := Fr.app N5 N6q
  refine own_step st6 ?_
  show own_G p.tables e below _ (T6.setTop (mkF m 22 #[.val (.int p1), .val (.int p2), .val (.int p3), .val (.int a), .val (.int b), .val (.ref bx5_rb), .unset, .unset, .unset, .unset] [(.ref bx6_rb)]))
  refine own_step (fun t k => XS.astore X6.here hx rfl (hb hby at_22) rfl rfl (l' := #[.val (.int p1), .val (.int p2), .val (.int p3), .val (.int a), .val (.int b), .val (.ref bx5_rb), .val (.ref bx6_rb), .unset, .unset, .unset]) rfl k) ?_
  show own_G p.tables e below _ (T6.setTop (mkF m 24 #[.val (.int p1), .val (.int p2), .val (.int p3), .val (.int a), .val (.int b), .val (.ref bx5_rb), .val (.ref bx6_rb), .unset, .unset, .unset] []))
  refine own_step (fun t k => XS.aload X6.here hx rfl (hb hby at_24) rfl rfl k) ?_
  show own_G p.tables e below _ (T6.setTop (mkF m 26 #[.val (.int p1), .val (.int p2), .val (.int p3), .val (.int a), .val (.int b), .val (.ref bx5_rb), .val (.ref bx6_rb), .unset, .unset, .unset] [(.ref bx5_rb)]))
  obtain ⟨cq10, kq10, q10a, q10b, q10c⟩ := isOf hZ rfl c7
  obtain ⟨_, _, ⟨T10, L10, k10, n10⟩, -, X10, ⟨Lc10, hQ10, l10, y10, z10⟩, st10⟩ := X6.virtualBack hx (y := (⟨"com/example/dual_box/dualbox/RetryPolicy", "budget", "()I"⟩ : MethodName)) (z := (⟨"com/example/dual_box/dualbox/RetryPolicy", "budget", "()I"⟩ : MethodName)) hown (mvT hZ (hw _ (List.mem_of_getElem? (i := 22) rfl))) (mvT hZ (hw _ (List.mem_of_getElem? (i := 23) rfl))) (notFace_of_selects (args := #[]) (mvT hZ (hw _ (List.mem_of_getElem? (i := 25) rfl)))) (mvT hZ (hw _ (List.mem_of_getElem? (i := 25) rfl))) (mvT hZ (hw _ (List.mem_of_getElem? (i := 24) rfl))) (by decide) (backOf (W := 0) (rm6 l Z a0 hw [] bx5_rb a T6.heap n0 (Nat.le_trans Z0 K6.1) c8) hZ (hw _ (List.mem_of_getElem? (i := 26) rfl)) (hw _ (List.mem_of_getElem? (i := 7) rfl)) (by decide) (by decide)) q10a q10c (g := (mkF m 26 #[.val (.int p1), .val (.int p2), .val (.int p3), .val (.int a), .val (.int b), .val (.ref bx5_rb), .val (.ref bx6_rb), .unset, .unset, .unset] [(.ref bx5_rb)])) rfl (by rw [hml]; rfl) (Steps.refl _) (argsL := []) (rest := []) (lenOf pd_0_2 rfl) rfl (by show 2 * 0 + _ ≤ _; exact Nat.le_of_eq rfl) (hb hby at_26) (fun _ _ => ⟨rfl, rfl, (by decide : 2 + 0 ≤ _), (by decide : 2 + 0 ≤ _)⟩)
  dsimp only [Pt.U, Pt.locs, Pt.cells, Pt.slots] at X10 l10 y10 z10 st10 hQ10
  subst l10 y10 z10
  obtain ⟨rfl, N10q, e10⟩ := hQ10
  have N10 := Fr.app N6 N10q
  refine own_step (fun t k => st10.trans k) ?_
  show own_G p.tables e below _ (T10.setTop (mkF m 29 #[.val (.int p1), .val (.int p2), .val (.int p3), .val (.int a), .val (.int b), .val (.ref bx5_rb), .val (.ref bx6_rb), .unset, .unset, .unset] [(.int a)]))
  refine own_step (fun t k => XS.iloadN X10.here hx rfl (hb hby at_29) rfl k) ?_
  show own_G p.tables e below _ (T10.setTop (mkF m 30 #[.val (.int p1), .val (.int p2), .val (.int p3), .val (.int a), .val (.int b), .val (.ref bx5_rb), .val (.ref bx6_rb), .unset, .unset, .unset] [(.int a), (.int a)]))
  have hk11 : a = a := rfl
  refine own_step (fun t k => XS.icmpNo X10.here hx rfl (hb hby at_30) rfl ((teq hk11).2) k) ?_
  show own_G p.tables e below _ (T10.setTop (mkF m 33 #[.val (.int p1), .val (.int p2), .val (.int p3), .val (.int a), .val (.int b), .val (.ref bx5_rb), .val (.ref bx6_rb), .unset, .unset, .unset] []))
  refine own_step (fun t k => XS.aload X10.here hx rfl (hb hby at_33) rfl rfl k) ?_
  show own_G p.tables e below _ (T10.setTop (mkF m 35 #[.val (.int p1), .val (.int p2), .val (.int p3), .val (.int a), .val (.int b), .val (.ref bx5_rb), .val (.ref bx6_rb), .unset, .unset, .unset] [(.ref bx6_rb)]))
  obtain ⟨cq12, kq12, q12a, q12b, q12c⟩ := isOf hZ e10 w6_0
  obtain ⟨_, _, ⟨T12, L12, k12, n12⟩, -, X12, ⟨Lc12, hQ12, l12, y12, z12⟩, st12⟩ := X10.virtualBack hx (y := (⟨"com/example/dual_box/dualbox/RetryPolicy", "budget", "()I"⟩ : MethodName)) (z := (⟨"com/example/dual_box/dualbox/RetryPolicy", "budget", "()I"⟩ : MethodName)) hown (mvT hZ (hw _ (List.mem_of_getElem? (i := 22) rfl))) (mvT hZ (hw _ (List.mem_of_getElem? (i := 23) rfl))) (notFace_of_selects (args := #[]) (mvT hZ (hw _ (List.mem_of_getElem? (i := 25) rfl)))) (mvT hZ (hw _ (List.mem_of_getElem? (i := 25) rfl))) (mvT hZ (hw _ (List.mem_of_getElem? (i := 24) rfl))) (by decide) (backOf (W := 0) (rm6 l Z a0 hw [] bx6_rb b T6.heap n0 (Nat.le_trans Z0 K6.1) w6_1) hZ (hw _ (List.mem_of_getElem? (i := 26) rfl)) (hw _ (List.mem_of_getElem? (i := 7) rfl)) (by decide) (by decide)) q12a q12c (g := (mkF m 35 #[.val (.int p1), .val (.int p2), .val (.int p3), .val (.int a), .val (.int b), .val (.ref bx5_rb), .val (.ref bx6_rb), .unset, .unset, .unset] [(.ref bx6_rb)])) rfl (by rw [hml]; rfl) (Steps.refl _) (argsL := []) (rest := []) (lenOf pd_0_2 rfl) rfl (by show 2 * 0 + _ ≤ _; exact Nat.le_of_eq rfl) (hb hby at_35) (fun _ _ => ⟨rfl, e10, (by decide : 2 + 0 ≤ _), (by decide : 2 + 0 ≤ _)⟩)
  dsimp only [Pt.U, Pt.locs, Pt.cells, Pt.slots] at X12 l12 y12 z12 st12 hQ12
  subst l12 y12 z12
  obtain ⟨rfl, N12q, e12⟩ := hQ12
  have N12 := Fr.app N10 N12q
  refine own_step (fun t k => st12.trans k) ?_
  show own_G p.tables e below _ (T12.setTop (mkF m 38 #[.val (.int p1), .val (.int p2), .val (.int p3), .val (.int a), .val (.int b), .val (.ref bx5_rb), .val (.ref bx6_rb), .unset, .unset, .unset] [(.int b)]))
  refine own_step (fun t k => XS.iload X12.here hx rfl (hb hby at_38) rfl k) ?_
  show own_G p.tables e below _ (T12.setTop (mkF m 40 #[.val (.int p1), .val (.int p2), .val (.int p3), .val (.int a), .val (.int b), .val (.ref bx5_rb), .val (.ref bx6_rb), .unset, .unset, .unset] [(.int b), (.int b)]))
  have hk13 : b = b := rfl
  refine own_step (fun t k => XS.icmpNo X12.here hx rfl (hb hby at_40) rfl ((teq hk13).2) k) ?_
  show own_G p.tables e below _ (T12.setTop (mkF m 43 #[.val (.int p1), .val (.int p2), .val (.int p3), .val (.int a), .val (.int b), .val (.ref bx5_rb), .val (.ref bx6_rb), .unset, .unset, .unset] []))
  refine own_step (fun t k => XS.iconst X12.here hx rfl (hb hby at_43) k) ?_
  show own_G p.tables e below _ (T12.setTop (mkF m 44 #[.val (.int p1), .val (.int p2), .val (.int p3), .val (.int a), .val (.int b), .val (.ref bx5_rb), .val (.ref bx6_rb), .unset, .unset, .unset] [(.int (1 : Int32))]))
  refine own_step (fun t k => XS.goto X12.here hx rfl (pc0 := 44) (pc' := 48) rfl (hb hby at_44) (by decide) (by decide) k) ?_
  show own_G p.tables e below _ (T12.setTop (mkF m 48 #[.val (.int p1), .val (.int p2), .val (.int p3), .val (.int a), .val (.int b), .val (.ref bx5_rb), .val (.ref bx6_rb), .unset, .unset, .unset] [(.int (1 : Int32))]))
  refine own_step (fun t k => XS.istore X12.here hx rfl (hb hby at_48) rfl (l' := #[.val (.int p1), .val (.int p2), .val (.int p3), .val (.int a), .val (.int b), .val (.ref bx5_rb), .val (.ref bx6_rb), .val (.int (1 : Int32)), .unset, .unset]) rfl k) ?_
  show own_G p.tables e below _ (T12.setTop (mkF m 50 #[.val (.int p1), .val (.int p2), .val (.int p3), .val (.int a), .val (.int b), .val (.ref bx5_rb), .val (.ref bx6_rb), .val (.int (1 : Int32)), .unset, .unset] []))
  refine own_step (fun t k => XS.aload X12.here hx rfl (hb hby at_50) rfl rfl k) ?_
  show own_G p.tables e below _ (T12.setTop (mkF m 52 #[.val (.int p1), .val (.int p2), .val (.int p3), .val (.int a), .val (.int b), .val (.ref bx5_rb), .val (.ref bx6_rb), .val (.int (1 : Int32)), .unset, .unset] [(.ref bx5_rb)]))
  refine own_step (fun t k => XS.iloadN X12.here hx rfl (hb hby at_52) rfl k) ?_
  show own_G p.tables e below _ (T12.setTop (mkF m 53 #[.val (.int p1), .val (.int p2), .val (.int p3), .val (.int a), .val (.int b), .val (.ref bx5_rb), .val (.ref bx6_rb), .val (.int (1 : Int32)), .unset, .unset] [(.int a), (.ref bx5_rb)]))
  obtain ⟨cq14, kq14, q14a, q14b, q14c⟩ := isOf hZ e12 c7
  obtain ⟨_, _, ⟨T14, L14, k14, n14⟩, -, X14, ⟨Lc14, hQ14, l14, y14, z14⟩, st14⟩ := X12.virtualBack hx (y := (⟨"com/example/dual_box/dualbox/RetryPolicy", "isSpent", "(I)Z"⟩ : MethodName)) (z := (⟨"com/example/dual_box/dualbox/RetryPolicy", "isSpent", "(I)Z"⟩ : MethodName)) hown (mvT hZ (hw _ (List.mem_of_getElem? (i := 27) rfl))) (mvT hZ (hw _ (List.mem_of_getElem? (i := 28) rfl))) (notFace_of_selects (args := #[]) (mvT hZ (hw _ (List.mem_of_getElem? (i := 30) rfl)))) (mvT hZ (hw _ (List.mem_of_getElem? (i := 30) rfl))) (mvT hZ (hw _ (List.mem_of_getElem? (i := 29) rfl))) (by decide) (backOf (W := 0) (rm7 l Z a0 hw [] bx5_rb a a T6.heap n0 (Nat.le_trans Z0 K6.1) c8) hZ (hw _ (List.mem_of_getElem? (i := 31) rfl)) (hw _ (List.mem_of_getElem? (i := 7) rfl)) (by decide) (by decide)) q14a q14c (g := (mkF m 53 #[.val (.int p1), .val (.int p2), .val (.int p3), .val (.int a), .val (.int b), .val (.ref bx5_rb), .val (.ref bx6_rb), .val (.int (1 : Int32)), .unset, .unset] [(.int a), (.ref bx5_rb)])) rfl (by rw [hml]; rfl) (Steps.refl _) (argsL := [(.int a)]) (rest := []) (lenOf pd_0_3 rfl) rfl (by show 2 * 0 + _ ≤ _; exact Nat.le_of_eq rfl) (hb hby at_53) (fun _ _ => ⟨rfl, e12, (by decide : 2 + 0 ≤ _), (by decide : 2 + 0 ≤ _)⟩)
  dsimp only [Pt.U, Pt.locs, Pt.cells, Pt.slots] at X14 l14 y14 z14 st14 hQ14
  subst l14 y14 z14
  obtain ⟨rfl, N14q, e14⟩ := hQ14
  have N14 := Fr.app N12 N14q
  refine own_step (fun t k => st14.trans k) ?_
  show own_G p.tables e below _ (T14.setTop (mkF m 56 #[.val (.int p1), .val (.int p2), .val (.int p3), .val (.int a), .val (.int b), .val (.ref bx5_rb), .val (.ref bx6_rb), .val (.int (1 : Int32)), .unset, .unset] [(.int (own_f7 a a))]))
  have hk15 : ¬ ((own_f7 a a) = (0 : Int32)) := own_sp1 _
  refine own_step (fun t k => XS.ifNo X14.here hx rfl (hb hby at_56) rfl ((if0 _ _).trans (feq hk15).1) k) ?_
  show own_G p.tables e below _ (T14.setTop (mkF m 59 #[.val (.int p1), .val (.int p2), .val (.int p3), .val (.int a), .val (.int b), .val (.ref bx5_rb), .val (.ref bx6_rb), .val (.int (1 : Int32)), .unset, .unset] []))
  refine own_step (fun t k => XS.aload X14.here hx rfl (hb hby at_59) rfl rfl k) ?_
  show own_G p.tables e below _ (T14.setTop (mkF m 61 #[.val (.int p1), .val (.int p2), .val (.int p3), .val (.int a), .val (.int b), .val (.ref bx5_rb), .val (.ref bx6_rb), .val (.int (1 : Int32)), .unset, .unset] [(.ref bx5_rb)]))
  refine own_step (fun t k => XS.iloadN X14.here hx rfl (hb hby at_61) rfl k) ?_
  show own_G p.tables e below _ (T14.setTop (mkF m 62 #[.val (.int p1), .val (.int p2), .val (.int p3), .val (.int a), .val (.int b), .val (.ref bx5_rb), .val (.ref bx6_rb), .val (.int (1 : Int32)), .unset, .unset] [(.int a), (.ref bx5_rb)]))
  refine own_step (fun t k => XS.iconst X14.here hx rfl (hb hby at_62) k) ?_
  show own_G p.tables e below _ (T14.setTop (mkF m 63 #[.val (.int p1), .val (.int p2), .val (.int p3), .val (.int a), .val (.int b), .val (.ref bx5_rb), .val (.ref bx6_rb), .val (.int (1 : Int32)), .unset, .unset] [(.int (1 : Int32)), (.int a), (.ref bx5_rb)]))
  refine own_step (fun t k => XS.isub X14.here hx rfl (hb hby at_63) rfl k) ?_
  show own_G p.tables e below _ (T14.setTop (mkF m 64 #[.val (.int p1), .val (.int p2), .val (.int p3), .val (.int a), .val (.int b), .val (.ref bx5_rb), .val (.ref bx6_rb), .val (.int (1 : Int32)), .unset, .unset] [(.int (a - (1 : Int32))), (.ref bx5_rb)]))
  obtain ⟨cq16, kq16, q16a, q16b, q16c⟩ := isOf hZ e14 c7
  obtain ⟨_, _, ⟨T16, L16, k16, n16⟩, -, X16, ⟨Lc16, hQ16, l16, y16, z16⟩, st16⟩ := X14.virtualBack hx (y := (⟨"com/example/dual_box/dualbox/RetryPolicy", "isSpent", "(I)Z"⟩ : MethodName)) (z := (⟨"com/example/dual_box/dualbox/RetryPolicy", "isSpent", "(I)Z"⟩ : MethodName)) hown (mvT hZ (hw _ (List.mem_of_getElem? (i := 27) rfl))) (mvT hZ (hw _ (List.mem_of_getElem? (i := 28) rfl))) (notFace_of_selects (args := #[]) (mvT hZ (hw _ (List.mem_of_getElem? (i := 30) rfl)))) (mvT hZ (hw _ (List.mem_of_getElem? (i := 30) rfl))) (mvT hZ (hw _ (List.mem_of_getElem? (i := 29) rfl))) (by decide) (backOf (W := 0) (rm7 l Z a0 hw [] bx5_rb (a - (1 : Int32)) a T6.heap n0 (Nat.le_trans Z0 K6.1) c8) hZ (hw _ (List.mem_of_getElem? (i := 31) rfl)) (hw _ (List.mem_of_getElem? (i := 7) rfl)) (by decide) (by decide)) q16a q16c (g := (mkF m 64 #[.val (.int p1), .val (.int p2), .val (.int p3), .val (.int a), .val (.int b), .val (.ref bx5_rb), .val (.ref bx6_rb), .val (.int (1 : Int32)), .unset, .unset] [(.int (a - (1 : Int32))), (.ref bx5_rb)])) rfl (by rw [hml]; rfl) (Steps.refl _) (argsL := [(.int (a - (1 : Int32)))]) (rest := []) (lenOf pd_0_3 rfl) rfl (by show 2 * 0 + _ ≤ _; exact Nat.le_of_eq rfl) (hb hby at_64) (fun _ _ => ⟨rfl, e14, (by decide : 2 + 0 ≤ _), (by decide : 2 + 0 ≤ _)⟩)
  dsimp only [Pt.U, Pt.locs, Pt.cells, Pt.slots] at X16 l16 y16 z16 st16 hQ16
  subst l16 y16 z16
  obtain ⟨rfl, N16q, e16⟩ := hQ16
  have N16 := Fr.app N14 N16q
  refine own_step (fun t k => st16.trans k) ?_
  show own_G p.tables e below _ (T16.setTop (mkF m 67 #[.val (.int p1), .val (.int p2), .val (.int p3), .val (.int a), .val (.int b), .val (.ref bx5_rb), .val (.ref bx6_rb), .val (.int (1 : Int32)), .unset, .unset] [(.int (own_f7 (a - (1 : Int32)) a))]))
  have hk17 : (own_f7 (a - (1 : Int32)) a) = (0 : Int32) := own_sp2 _ (by rw [hd_a]; exact own_bud _)
  refine own_step (fun t k => XS.ifNo X16.here hx rfl (hb hby at_67) rfl ((if0 _ _).trans (teq hk17).2) k) ?_
  show own_G p.tables e below _ (T16.setTop (mkF m 70 #[.val (.int p1), .val (.int p2), .val (.int p3), .val (.int a), .val (.int b), .val (.ref bx5_rb), .val (.ref bx6_rb), .val (.int (1 : Int32)), .unset, .unset] []))
  refine own_step (fun t k => XS.iconst X16.here hx rfl (hb hby at_70) k) ?_
  show own_G p.tables e below _ (T16.setTop (mkF m 71 #[.val (.int p1), .val (.int p2), .val (.int p3), .val (.int a), .val (.int b), .val (.ref bx5_rb), .val (.ref bx6_rb), .val (.int (1 : Int32)), .unset, .unset] [(.int (1 : Int32))]))
  refine own_step (fun t k => XS.goto X16.here hx rfl (pc0 := 71) (pc' := 75) rfl (hb hby at_71) (by decide) (by decide) k) ?_
  show own_G p.tables e below _ (T16.setTop (mkF m 75 #[.val (.int p1), .val (.int p2), .val (.int p3), .val (.int a), .val (.int b), .val (.ref bx5_rb), .val (.ref bx6_rb), .val (.int (1 : Int32)), .unset, .unset] [(.int (1 : Int32))]))
  refine own_step (fun t k => XS.istore X16.here hx rfl (hb hby at_75) rfl (l' := #[.val (.int p1), .val (.int p2), .val (.int p3), .val (.int a), .val (.int b), .val (.ref bx5_rb), .val (.ref bx6_rb), .val (.int (1 : Int32)), .val (.int (1 : Int32)), .unset]) rfl k) ?_
  show own_G p.tables e below _ (T16.setTop (mkF m 77 #[.val (.int p1), .val (.int p2), .val (.int p3), .val (.int a), .val (.int b), .val (.ref bx5_rb), .val (.ref bx6_rb), .val (.int (1 : Int32)), .val (.int (1 : Int32)), .unset] []))
  refine own_step (fun t k => XS.aload X16.here hx rfl (hb hby at_77) rfl rfl k) ?_
  show own_G p.tables e below _ (T16.setTop (mkF m 79 #[.val (.int p1), .val (.int p2), .val (.int p3), .val (.int a), .val (.int b), .val (.ref bx5_rb), .val (.ref bx6_rb), .val (.int (1 : Int32)), .val (.int (1 : Int32)), .unset] [(.ref bx5_rb)]))
  refine own_step (fun t k => XS.iloadN X16.here hx rfl (hb hby at_79) rfl k) ?_
  show own_G p.tables e below _ (T16.setTop (mkF m 80 #[.val (.int p1), .val (.int p2), .val (.int p3), .val (.int a), .val (.int b), .val (.ref bx5_rb), .val (.ref bx6_rb), .val (.int (1 : Int32)), .val (.int (1 : Int32)), .unset] [(.int p3), (.ref bx5_rb)]))
  obtain ⟨cq18, kq18, q18a, q18b, q18c⟩ := isOf hZ e16 c7
  obtain ⟨_, _, ⟨T18, L18, k18, n18⟩, -, X18, ⟨Lc18, hQ18, l18, y18, z18⟩, st18⟩ := X16.virtualBack hx (y := (⟨"com/example/dual_box/dualbox/RetryPolicy", "isSpent", "(I)Z"⟩ : MethodName)) (z := (⟨"com/example/dual_box/dualbox/RetryPolicy", "isSpent", "(I)Z"⟩ : MethodName)) hown (mvT hZ (hw _ (List.mem_of_getElem? (i := 27) rfl))) (mvT hZ (hw _ (List.mem_of_getElem? (i := 28) rfl))) (notFace_of_selects (args := #[]) (mvT hZ (hw _ (List.mem_of_getElem? (i := 30) rfl)))) (mvT hZ (hw _ (List.mem_of_getElem? (i := 30) rfl))) (mvT hZ (hw _ (List.mem_of_getElem? (i := 29) rfl))) (by decide) (backOf (W := 0) (rm7 l Z a0 hw [] bx5_rb p3 a T6.heap n0 (Nat.le_trans Z0 K6.1) c8) hZ (hw _ (List.mem_of_getElem? (i := 31) rfl)) (hw _ (List.mem_of_getElem? (i := 7) rfl)) (by decide) (by decide)) q18a q18c (g := (mkF m 80 #[.val (.int p1), .val (.int p2), .val (.int p3), .val (.int a), .val (.int b), .val (.ref bx5_rb), .val (.ref bx6_rb), .val (.int (1 : Int32)), .val (.int (1 : Int32)), .unset] [(.int p3), (.ref bx5_rb)])) rfl (by rw [hml]; rfl) (Steps.refl _) (argsL := [(.int p3)]) (rest := []) (lenOf pd_0_3 rfl) rfl (by show 2 * 0 + _ ≤ _; exact Nat.le_of_eq rfl) (hb hby at_80) (fun _ _ => ⟨rfl, e16, (by decide : 2 + 0 ≤ _), (by decide : 2 + 0 ≤ _)⟩)
  dsimp only [Pt.U, Pt.locs, Pt.cells, Pt.slots] at X18 l18 y18 z18 st18 hQ18
  subst l18 y18 z18
  obtain ⟨rfl, N18q, e18⟩ := hQ18
  have N18 := Fr.app N16 N18q
  refine own_step (fun t k => st18.trans k) ?_
  show own_G p.tables e below _ (T18.setTop (mkF m 83 #[.val (.int p1), .val (.int p2), .val (.int p3), .val (.int a), .val (.int b), .val (.ref bx5_rb), .val (.ref bx6_rb), .val (.int (1 : Int32)), .val (.int (1 : Int32)), .unset] [(.int (own_f7 p3 a))]))
  refine own_step (fun t k => XS.iloadN X18.here hx rfl (hb hby at_83) rfl k) ?_
  show own_G p.tables e below _ (T18.setTop (mkF m 84 #[.val (.int p1), .val (.int p2), .val (.int p3), .val (.int a), .val (.int b), .val (.ref bx5_rb), .val (.ref bx6_rb), .val (.int (1 : Int32)), .val (.int (1 : Int32)), .unset] [(.int p3), (.int (own_f7 p3 a))]))
  refine own_step (fun t k => XS.iloadN X18.here hx rfl (hb hby at_84) rfl k) ?_
  show own_G p.tables e below _ (T18.setTop (mkF m 85 #[.val (.int p1), .val (.int p2), .val (.int p3), .val (.int a), .val (.int b), .val (.ref bx5_rb), .val (.ref bx6_rb), .val (.int (1 : Int32)), .val (.int (1 : Int32)), .unset] [(.int a), (.int p3), (.int (own_f7 p3 a))]))
  refine own_imp (B := T18.setTop (mkF m 93 #[.val (.int p1), .val (.int p2), .val (.int p3), .val (.int a), .val (.int b), .val (.ref bx5_rb), .val (.ref bx6_rb), .val (.int (1 : Int32)), .val (.int (1 : Int32)), .unset] [(.int (if p3 < a then (0 : Int32) else (1 : Int32))), (.int (own_f7 p3 a))])) (fun k0 => ?_) ?_
  · by_cases hc19 : p3 < a
    · simp only [if_pos hc19] at k0
      refine own_step (fun t k => XS.icmpYes X18.here hx rfl (pc0 := 85) (pc' := 92) rfl (hb hby at_85) rfl ((tlt hc19).1) (by decide) (by decide) k) ?_
      show own_G p.tables e below _ (T18.setTop (mkF m 92 #[.val (.int p1), .val (.int p2), .val (.int p3), .val (.int a), .val (.int b), .val (.ref bx5_rb), .val (.ref bx6_rb), .val (.int (1 : Int32)), .val (.int (1 : Int32)), .unset] [(.int (own_f7 p3 a))]))
      refine own_step (fun t k => XS.iconst X18.here hx rfl (hb hby at_92) k) ?_
      show own_G p.tables e below _ (T18.setTop (mkF m 93 #[.val (.int p1), .val (.int p2), .val (.int p3), .val (.int a), .val (.int b), .val (.ref bx5_rb), .val (.ref bx6_rb), .val (.int (1 : Int32)), .val (.int (1 : Int32)), .unset] [(.int (0 : Int32)), (.int (own_f7 p3 a))]))
      exact k0
    · simp only [if_neg hc19] at k0
      refine own_step (fun t k => XS.icmpNo X18.here hx rfl (hb hby at_85) rfl ((flt hc19).1) k) ?_
      show own_G p.tables e below _ (T18.setTop (mkF m 88 #[.val (.int p1), .val (.int p2), .val (.int p3), .val (.int a), .val (.int b), .val (.ref bx5_rb), .val (.ref bx6_rb), .val (.int (1 : Int32)), .val (.int (1 : Int32)), .unset] [(.int (own_f7 p3 a))]))
      refine own_step (fun t k => XS.iconst X18.here hx rfl (hb hby at_88) k) ?_
      show own_G p.tables e below _ (T18.setTop (mkF m 89 #[.val (.int p1), .val (.int p2), .val (.int p3), .val (.int a), .val (.int b), .val (.ref bx5_rb), .val (.ref bx6_rb), .val (.int (1 : Int32)), .val (.int (1 : Int32)), .unset] [(.int (1 : Int32)), (.int (own_f7 p3 a))]))
      refine own_step (fun t k => XS.goto X18.here hx rfl (pc0 := 89) (pc' := 93) rfl (hb hby at_89) (by decide) (by decide) k) ?_
      show own_G p.tables e below _ (T18.setTop (mkF m 93 #[.val (.int p1), .val (.int p2), .val (.int p3), .val (.int a), .val (.int b), .val (.ref bx5_rb), .val (.ref bx6_rb), .val (.int (1 : Int32)), .val (.int (1 : Int32)), .unset] [(.int (1 : Int32)), (.int (own_f7 p3 a))]))
      exact k0
  show own_G p.tables e below _ (T18.setTop (mkF m 93 #[.val (.int p1), .val (.int p2), .val (.int p3), .val (.int a), .val (.int b), .val (.ref bx5_rb), .val (.ref bx6_rb), .val (.int (1 : Int32)), .val (.int (1 : Int32)), .unset] [(.int (if p3 < a then (0 : Int32) else (1 : Int32))), (.int (own_f7 p3 a))]))
  refine own_nm ((if p3 < a then (0 : Int32) else (1 : Int32)) : Int32) (fun kk => T18.setTop (mkF m 93 #[.val (.int p1), .val (.int p2), .val (.int p3), .val (.int a), .val (.int b), .val (.ref bx5_rb), .val (.ref bx6_rb), .val (.int (1 : Int32)), .val (.int (1 : Int32)), .unset] [(.int kk), (.int (own_f7 p3 a))])) ?_
  intro kk hd_kk
  show own_G p.tables e below _ (T18.setTop (mkF m 93 #[.val (.int p1), .val (.int p2), .val (.int p3), .val (.int a), .val (.int b), .val (.ref bx5_rb), .val (.ref bx6_rb), .val (.int (1 : Int32)), .val (.int (1 : Int32)), .unset] [(.int kk), (.int (own_f7 p3 a))]))
  have hk20 : (own_f7 p3 a) = kk := (by rw [hd_kk]; rfl)
  refine own_step (fun t k => XS.icmpNo X18.here hx rfl (hb hby at_93) rfl ((teq hk20).2) k) ?_
  show own_G p.tables e below _ (T18.setTop (mkF m 96 #[.val (.int p1), .val (.int p2), .val (.int p3), .val (.int a), .val (.int b), .val (.ref bx5_rb), .val (.ref bx6_rb), .val (.int (1 : Int32)), .val (.int (1 : Int32)), .unset] []))
  refine own_step (fun t k => XS.iconst X18.here hx rfl (hb hby at_96) k) ?_
  show own_G p.tables e below _ (T18.setTop (mkF m 97 #[.val (.int p1), .val (.int p2), .val (.int p3), .val (.int a), .val (.int b), .val (.ref bx5_rb), .val (.ref bx6_rb), .val (.int (1 : Int32)), .val (.int (1 : Int32)), .unset] [(.int (1 : Int32))]))
  refine own_step (fun t k => XS.goto X18.here hx rfl (pc0 := 97) (pc' := 101) rfl (hb hby at_97) (by decide) (by decide) k) ?_
  show own_G p.tables e below _ (T18.setTop (mkF m 101 #[.val (.int p1), .val (.int p2), .val (.int p3), .val (.int a), .val (.int b), .val (.ref bx5_rb), .val (.ref bx6_rb), .val (.int (1 : Int32)), .val (.int (1 : Int32)), .unset] [(.int (1 : Int32))]))
  refine own_step (fun t k => XS.istore X18.here hx rfl (hb hby at_101) rfl (l' := #[.val (.int p1), .val (.int p2), .val (.int p3), .val (.int a), .val (.int b), .val (.ref bx5_rb), .val (.ref bx6_rb), .val (.int (1 : Int32)), .val (.int (1 : Int32)), .val (.int (1 : Int32))]) rfl k) ?_
  show own_G p.tables e below _ (T18.setTop (mkF m 103 #[.val (.int p1), .val (.int p2), .val (.int p3), .val (.int a), .val (.int b), .val (.ref bx5_rb), .val (.ref bx6_rb), .val (.int (1 : Int32)), .val (.int (1 : Int32)), .val (.int (1 : Int32))] []))
  refine own_step (fun t k => XS.iload X18.here hx rfl (hb hby at_103) rfl k) ?_
  show own_G p.tables e below _ (T18.setTop (mkF m 105 #[.val (.int p1), .val (.int p2), .val (.int p3), .val (.int a), .val (.int b), .val (.ref bx5_rb), .val (.ref bx6_rb), .val (.int (1 : Int32)), .val (.int (1 : Int32)), .val (.int (1 : Int32))] [(.int (1 : Int32))]))
  have hk21 : ¬ ((1 : Int32) = (0 : Int32)) := (by decide)
  refine own_step (fun t k => XS.ifNo X18.here hx rfl (hb hby at_105) rfl ((if0 _ _).trans (feq hk21).1) k) ?_
  show own_G p.tables e below _ (T18.setTop (mkF m 108 #[.val (.int p1), .val (.int p2), .val (.int p3), .val (.int a), .val (.int b), .val (.ref bx5_rb), .val (.ref bx6_rb), .val (.int (1 : Int32)), .val (.int (1 : Int32)), .val (.int (1 : Int32))] []))
  refine own_step (fun t k => XS.iload X18.here hx rfl (hb hby at_108) rfl k) ?_
  show own_G p.tables e below _ (T18.setTop (mkF m 110 #[.val (.int p1), .val (.int p2), .val (.int p3), .val (.int a), .val (.int b), .val (.ref bx5_rb), .val (.ref bx6_rb), .val (.int (1 : Int32)), .val (.int (1 : Int32)), .val (.int (1 : Int32))] [(.int (1 : Int32))]))
  have hk22 : ¬ ((1 : Int32) = (0 : Int32)) := (by decide)
  refine own_step (fun t k => XS.ifNo X18.here hx rfl (hb hby at_110) rfl ((if0 _ _).trans (feq hk22).1) k) ?_
  show own_G p.tables e below _ (T18.setTop (mkF m 113 #[.val (.int p1), .val (.int p2), .val (.int p3), .val (.int a), .val (.int b), .val (.ref bx5_rb), .val (.ref bx6_rb), .val (.int (1 : Int32)), .val (.int (1 : Int32)), .val (.int (1 : Int32))] []))
  refine own_step (fun t k => XS.iload X18.here hx rfl (hb hby at_113) rfl k) ?_
  show own_G p.tables e below _ (T18.setTop (mkF m 115 #[.val (.int p1), .val (.int p2), .val (.int p3), .val (.int a), .val (.int b), .val (.ref bx5_rb), .val (.ref bx6_rb), .val (.int (1 : Int32)), .val (.int (1 : Int32)), .val (.int (1 : Int32))] [(.int (1 : Int32))]))
  have hk23 : ¬ ((1 : Int32) = (0 : Int32)) := (by decide)
  refine own_step (fun t k => XS.ifNo X18.here hx rfl (hb hby at_115) rfl ((if0 _ _).trans (feq hk23).1) k) ?_
  show own_G p.tables e below _ (T18.setTop (mkF m 118 #[.val (.int p1), .val (.int p2), .val (.int p3), .val (.int a), .val (.int b), .val (.ref bx5_rb), .val (.ref bx6_rb), .val (.int (1 : Int32)), .val (.int (1 : Int32)), .val (.int (1 : Int32))] []))
  refine own_step (fun t k => XS.iconst X18.here hx rfl (hb hby at_118) k) ?_
  show own_G p.tables e below _ (T18.setTop (mkF m 119 #[.val (.int p1), .val (.int p2), .val (.int p3), .val (.int a), .val (.int b), .val (.ref bx5_rb), .val (.ref bx6_rb), .val (.int (1 : Int32)), .val (.int (1 : Int32)), .val (.int (1 : Int32))] [(.int (1 : Int32))]))
  refine own_step (fun t k => XS.goto X18.here hx rfl (pc0 := 119) (pc' := 123) rfl (hb hby at_119) (by decide) (by decide) k) ?_
  show own_G p.tables e below _ (T18.setTop (mkF m 123 #[.val (.int p1), .val (.int p2), .val (.int p3), .val (.int a), .val (.int b), .val (.ref bx5_rb), .val (.ref bx6_rb), .val (.int (1 : Int32)), .val (.int (1 : Int32)), .val (.int (1 : Int32))] [(.int (1 : Int32))]))
  obtain ⟨fs, hr, hrun, hended, hW, hsame⟩ := X18.leave (v := some (.int (1 : Int32))) (fun h => by rw [Bd.returns] at h; cases h)
  refine own_done (retN X18 hx (t := .boolean) Bd.returns (by simp) (hb hby at_123) hr) hrun hended ⟨_, _, rfl, ?_, ⟨_, rfl⟩, hW, hsame.mono (by decide) (by decide)⟩
  show Q0 Z p1 p2 p3 h0 n0 _ T18.heap _
  rw [e18]
  exact ⟨rfl, N18⟩
set_option maxRecDepth 65536 in
set_option maxHeartbeats 40000000 in
theorem comes_1 {Post : Tables → Env → Array Value → State → Outcome → State → Prop} (hpost : ∀ tb e args s v u, (limb_1_1.after args s (.returned v) u = true ∧ limb_1_2.after args s (.returned v) u = true ∧ True) → FrameEnd s (.returned v) u (Jvm.fieldLocs frame_1_writes args s ++ Jvm.arrayLocs frame_1_arrays args s ++ Jvm.staticLocs frame_1_statics s) 16 128 → Post tb e args s (.returned v) u) :
    ArmFor flags0 classFile x code maxLocals ret World_1 tables_1 room_1 Calls_1 rest_1 Pre_1 Post := by
  intro l hfl _ _ p e ha hc hk s m args below hf hA hF happ hP
  obtain ⟨hcalls, hrest, hpre⟩ := hP
  obtain ⟨-, -, -, hnamed, -, -, -, hat⟩ := (Spec.applies_iff hf).mp happ
  obtain ⟨hg, hn⟩ := and_e (Cond.before_iff.mp (show (Jvm.Cond.and given_1 narrow_1).before args s = true from hpre))
  obtain ⟨g1, g2⟩ := and_e hg
  obtain ⟨g3, g4⟩ := and_e g2
  obtain ⟨g5, g6⟩ := and_e g4
  obtain ⟨w0, w1, w2, rfl⟩ : ∃ w0 w1 w2 : Value, args = #[w0, w1, w2] := by
    have hs : args.size = 3 := by simpa [Cond.value, given_1] using g1
    obtain ⟨L⟩ := args
    match L, hs with
    | [w0, w1, w2], _ => exact ⟨w0, w1, w2, rfl⟩
  have hw := fun d (hd : d ∈ tables_1) => atoms_spec (ws := Jvm.Cond.code x code maxLocals ret :: tables_1) hat d (List.mem_cons_of_mem _ hd)
  obtain ⟨i0, ei0⟩ := is_v g3
  obtain rfl : w0 = (.int i0) := Option.some.inj ei0
  obtain ⟨i1, ei1⟩ := is_v g5
  obtain rfl : w1 = (.int i1) := Option.some.inj ei1
  obtain ⟨i2, ei2⟩ := is_v g6
  obtain rfl : w2 = (.int i2) := Option.some.inj ei2
  obtain ⟨n, o, h1, h2, h3, _, L, rfl, ⟨rfl, N⟩, hq⟩ := rm0 l s _ hw tables_1 i0 i1 i2 s.heap s.heap.size (Nat.le_refl _)  p e ha hc hk s m _ below hf ((Spec.applies_iff_loose hf).mp happ).1 ⟨rfl, State.Warmed39.refl s, rfl⟩ trivial
  refine ⟨n, _, h1, h2, h3, hpost _ _ _ _ _ _ ⟨Cond.after_iff.mpr rfl, Cond.after_iff.mpr (eq_i res_at (Term.int_eval (1)) rfl), trivial⟩ ⟨hq.1, hq.2.1, (hq.2.2.sift fun y hy => Or.inr (N y hy)).mono (by decide) (by decide)⟩⟩
theorem main_1_1 : Claimed_1_1 := comes_1 fun _ _ _ _ _ _ h hF => ⟨h.1, hF⟩
theorem main_1_2 : Claimed_1_2 := comes_1 fun _ _ _ _ _ _ h hF => ⟨h.2.1, hF⟩
end Jvm.Pilot.@@N@@
namespace Jvm.Pilot.@@N@@
open Jvm Jvm.ClassFile Sem Op Lib Jvm.Free Jvm.Stand Jvm.Pilot.@@N@@.Jvm.D
/-! MADE BY PROGRAM (witnessworld.py) out of the Statement's table words and the real class files: 9 classes; the members and pool entries that the words name. The judged class is class 1, her method 2. -/
namespace start1
open Jvm.ClassFile
def u (s : String) : CpInfo := .utf8 (stringToUtf16 s)
/-- a pool by its gaps: so many unusable entries, then the entry; so many at the end -/
def gap : Nat → List CpInfo → List CpInfo
  | 0, r => r
  | n + 1, r => .unusable :: gap n r
def poolList (es : List (Nat × CpInfo)) (last : Nat) : List CpInfo := es.foldr (fun e r => gap e.1 (e.2 :: r)) (gap last [])
def pool (es : List (Nat × CpInfo)) (last : Nat) : Array CpInfo := ⟨poolList es last⟩
def fileOf (pool : Array CpInfo) (this : Nat) (attrs : Array Attribute := #[]) (ms : Array MethodInfo := #[]) (fl : Nat := 33) (sup : Nat := 0) (ifs : Array Nat := #[]) (fds : Array FieldInfo := #[]) : ClassFile where
  minorVersion := 0
  majorVersion := 65
  constantPool := pool
  accessFlags := fl
  thisClass := this
  superClass := sup
  interfaces := ifs
  fields := fds
  methods := ms
  attributes := attrs
def plain (name : String) (sup : Option ClassId) : Class where
  name := name
  kind := .ordinary
  loader := none
  accessFlags := 33
  super := sup
  interfaces := #[]
  cf := none
  fields := #[]
  methods := #[]
  instanceTypes := #[]
  staticTypes := #[]
  resolved := #[]
  callSites := []
  init := .initialized
  statics := none
  mirror := none

def pool0 : Array CpInfo := pool [(5, u "<init>"), (0, u "()V"), (1, .class_ 10), (1, u "java/lang/Object")] 113

def k0c0 : Code := { maxStack := 0, maxLocals := 1, code := object_method_1_code, exceptionTable := #[], attributes := #[] }
def k0m0 : Method := { name := "<init>", desc := "()V", sig := { parameters := [], returnType := none }, accessFlags := 1, code := some k0c0 }
/-- java/lang/Object -/
def k0 : Class := { plain "java/lang/Object" none with
  accessFlags := 33
  interfaces := #[]
  cf := some (fileOf pool0 8 #[] #[{ accessFlags := 1, nameIndex := 5, descriptorIndex := 6, attributes := #[] }] 33 0 #[] #[])
  fields := #[]
  methods := #[k0m0]
  instanceTypes := #[]
  staticTypes := #[]
  resolved := Array.replicate 124 none
  statics := none }

def pool1 : Array CpInfo := pool [(2, .class_ 4), (1, u "java/lang/Object"), (0, u "<init>"), (0, u "()V"), (0, .integer 2147483647), (0, .methodref 9 10), (0, .class_ 11), (0, .nameAndType 12 13), (0, u "com/example/dual_box/dualbox/RetryPolicyWithBudgetPinLaw"), (0, u "budgetOf"), (0, u "(I)I"), (0, .methodref 15 16), (0, .class_ 17), (0, .nameAndType 18 19), (0, u "com/example/dual_box/dualbox/RetryPolicy"), (0, u "withBudget"), (0, u "(I)Lcom/example/dual_box/dualbox/RetryPolicy;"), (0, .methodref 15 21), (0, .nameAndType 22 23), (0, u "budget"), (0, u "()I"), (0, .methodref 15 25), (0, .nameAndType 26 27), (0, u "isSpent"), (0, u "(I)Z"), (3, u "law"), (0, u "(III)Z")] 2

def k1m0 : Method := { name := "<init>", desc := "()V", sig := { parameters := [], returnType := none }, accessFlags := 1, code := none }
def k1c1 : Code := { maxStack := 2, maxLocals := 2, code := method_2_code, exceptionTable := #[], attributes := #[] }
def k1m1 : Method := { name := "budgetOf", desc := "(I)I", sig := { parameters := [.int], returnType := some .int }, accessFlags := 10, code := some k1c1 }
def k1c2 : Code := { maxStack := 3, maxLocals := 10, code := code, exceptionTable := #[], attributes := #[] }
def k1m2 : Method := { name := "law", desc := "(III)Z", sig := { parameters := [.int, .int, .int], returnType := some .boolean }, accessFlags := 9, code := some k1c2 }
/-- com/example/dual_box/dualbox/RetryPolicyWithBudgetPinLaw -/
def k1 : Class := { plain "com/example/dual_box/dualbox/RetryPolicyWithBudgetPinLaw" (some 0) with
  accessFlags := 49
  interfaces := #[]
  cf := some (fileOf pool1 9 #[] #[{ accessFlags := 1, nameIndex := 5, descriptorIndex := 6, attributes := #[] }, { accessFlags := 10, nameIndex := 12, descriptorIndex := 13, attributes := #[] }, { accessFlags := 9, nameIndex := 31, descriptorIndex := 32, attributes := #[] }] 49 2 #[] #[])
  fields := #[]
  methods := #[k1m0, k1m1, k1m2]
  instanceTypes := #[]
  staticTypes := #[]
  resolved := Array.replicate 35 none
  statics := none }

def pool2 : Array CpInfo := pool [(1, .methodref 2 3), (0, .class_ 4), (0, .nameAndType 5 6), (0, u "java/lang/Object"), (0, u "<init>"), (0, u "()V"), (0, .fieldref 8 9), (0, .class_ 10), (0, .nameAndType 11 12), (0, u "com/example/dual_box/dualbox/RetryPolicy"), (0, u "budget"), (0, u "I"), (2, u "DEFAULTS"), (0, u "Lcom/example/dual_box/dualbox/RetryPolicy;"), (0, .methodref 8 18), (0, .nameAndType 19 20), (0, u "requireBudget"), (0, u "(I)I"), (0, .methodref 8 22), (0, .nameAndType 5 23), (0, u "(I)V"), (42, u "DEFAULT_BUDGET"), (2, u "FIRST_DELAY_MILLIS"), (0, u "J"), (0, u "LAST_DOUBLING"), (1, u "MAX_DELAY_MILLIS"), (0, u "MIN_JITTER_MILLIS"), (0, u "MAX_JITTER_MILLIS"), (4, u "withBudget"), (0, u "(I)Lcom/example/dual_box/dualbox/RetryPolicy;"), (1, u "()I"), (0, u "isSpent"), (0, u "(I)Z")] 19

def k2c0 : Code := { maxStack := 2, maxLocals := 2, code := prog_12_method_1_code, exceptionTable := #[], attributes := #[] }
def k2m0 : Method := { name := "<init>", desc := "(I)V", sig := { parameters := [.int], returnType := none }, accessFlags := 2, code := some k2c0 }
def k2c1 : Code := { maxStack := 3, maxLocals := 1, code := prog_12_method_3_code, exceptionTable := #[], attributes := #[] }
def k2m1 : Method := { name := "withBudget", desc := "(I)Lcom/example/dual_box/dualbox/RetryPolicy;", sig := { parameters := [.int], returnType := some (.object "com/example/dual_box/dualbox/RetryPolicy") }, accessFlags := 9, code := some k2c1 }
def k2c2 : Code := { maxStack := 3, maxLocals := 1, code := prog_12_method_4_code, exceptionTable := #[], attributes := #[] }
def k2m2 : Method := { name := "requireBudget", desc := "(I)I", sig := { parameters := [.int], returnType := some .int }, accessFlags := 8, code := some k2c2 }
def k2c3 : Code := { maxStack := 1, maxLocals := 1, code := prog_12_method_5_code, exceptionTable := #[], attributes := #[] }
def k2m3 : Method := { name := "budget", desc := "()I", sig := { parameters := [], returnType := some .int }, accessFlags := 1, code := some k2c3 }
def k2c4 : Code := { maxStack := 2, maxLocals := 2, code := prog_12_method_6_code, exceptionTable := #[], attributes := #[] }
def k2m4 : Method := { name := "isSpent", desc := "(I)Z", sig := { parameters := [.int], returnType := some .boolean }, accessFlags := 0, code := some k2c4 }
/-- com/example/dual_box/dualbox/RetryPolicy -/
def k2 : Class := { plain "com/example/dual_box/dualbox/RetryPolicy" (some 0) with
  accessFlags := 49
  interfaces := #[]
  cf := some (fileOf pool2 8 #[] #[{ accessFlags := 2, nameIndex := 5, descriptorIndex := 23, attributes := #[] }, { accessFlags := 9, nameIndex := 80, descriptorIndex := 81, attributes := #[] }, { accessFlags := 8, nameIndex := 19, descriptorIndex := 20, attributes := #[] }, { accessFlags := 1, nameIndex := 11, descriptorIndex := 83, attributes := #[] }, { accessFlags := 0, nameIndex := 84, descriptorIndex := 85, attributes := #[] }] 49 2 #[] #[{ accessFlags := 25, nameIndex := 66, descriptorIndex := 12, attributes := #[] }, { accessFlags := 26, nameIndex := 69, descriptorIndex := 70, attributes := #[] }, { accessFlags := 26, nameIndex := 71, descriptorIndex := 12, attributes := #[] }, { accessFlags := 26, nameIndex := 73, descriptorIndex := 70, attributes := #[] }, { accessFlags := 26, nameIndex := 74, descriptorIndex := 70, attributes := #[] }, { accessFlags := 26, nameIndex := 75, descriptorIndex := 70, attributes := #[] }, { accessFlags := 26, nameIndex := 15, descriptorIndex := 16, attributes := #[] }, { accessFlags := 18, nameIndex := 11, descriptorIndex := 12, attributes := #[] }])
  fields := #[{ name := "DEFAULT_BUDGET", type := .int, accessFlags := 25, slot := 0, constantValue := 0 }, { name := "FIRST_DELAY_MILLIS", type := .long, accessFlags := 26, slot := 1, constantValue := 0 }, { name := "LAST_DOUBLING", type := .int, accessFlags := 26, slot := 2, constantValue := 0 }, { name := "MAX_DELAY_MILLIS", type := .long, accessFlags := 26, slot := 3, constantValue := 0 }, { name := "MIN_JITTER_MILLIS", type := .long, accessFlags := 26, slot := 4, constantValue := 0 }, { name := "MAX_JITTER_MILLIS", type := .long, accessFlags := 26, slot := 5, constantValue := 0 }, { name := "DEFAULTS", type := (.object "com/example/dual_box/dualbox/RetryPolicy"), accessFlags := 26, slot := 6, constantValue := 0 }, { name := "budget", type := .int, accessFlags := 18, slot := 0, constantValue := 0 }]
  methods := #[k2m0, k2m1, k2m2, k2m3, k2m4]
  instanceTypes := #[.int]
  staticTypes := #[.int, .long, .int, .long, .long, .long, (.object "com/example/dual_box/dualbox/RetryPolicy")]
  resolved := Array.replicate 105 none
  statics := none }

def pool3 : Array CpInfo := pool [(1, u "java/lang/Cloneable"), (0, .class_ 1), (0, u "java/lang/Object"), (0, .class_ 3)] 3

/-- java/lang/Cloneable -/
def k3 : Class := { plain "java/lang/Cloneable" (some 0) with
  accessFlags := 1537
  interfaces := #[]
  cf := some (fileOf pool3 2 #[] #[] 1537 4 #[] #[])
  fields := #[]
  methods := #[]
  instanceTypes := #[]
  staticTypes := #[]
  resolved := Array.replicate 8 none
  statics := none }

def pool4 : Array CpInfo := pool [(1, u "java/io/Serializable"), (0, .class_ 1), (0, u "java/lang/Object"), (0, .class_ 3)] 3

/-- java/io/Serializable -/
def k4 : Class := { plain "java/io/Serializable" (some 0) with
  accessFlags := 1537
  interfaces := #[]
  cf := some (fileOf pool4 2 #[] #[] 1537 4 #[] #[])
  fields := #[]
  methods := #[]
  instanceTypes := #[]
  staticTypes := #[]
  resolved := Array.replicate 8 none
  statics := none }

/-- the primitive byte -/
def k5 : Class := { plain "byte" none with kind := .primitive 'B', accessFlags := 0x411 }
/-- [B -/
def k6 : Class := { plain "[B" (some 0) with kind := .array 5 .byte, interfaces := #[3, 4], accessFlags := 1041 }

/-- the primitive int -/
def k7 : Class := { plain "int" none with kind := .primitive 'I', accessFlags := 0x411 }
/-- [I -/
def k8 : Class := { plain "[I" (some 0) with kind := .array 7 .int, interfaces := #[3, 4], accessFlags := 1041 }

def heap : Heap := #[]
def classes : Array Class := #[k0, k1, k2, k3, k4, k5, k6, k7, k8]
def interned : List (Array UInt16 × Addr) := []
def slotsUsed : Nat := 0
def theMethod : MethodId := ⟨1, 2⟩
def args0 : Array Value := #[.int 5, .int 7, .int 1]
def aboutOver (below : List Frame) : State where
  vm := { classes := classes, interned := interned.toArray }
  heap := heap
  slotsUsed := slotsUsed
  threads := #[{ frames := .invoking theMethod args0 :: below }]
def below0 : List Frame := [.native { method := ⟨0, 0⟩, args := #[] }]
def about1 : State := aboutOver below0
def p0 : Program := .bare "" "" ""
def e0 : Env := launch0.env 0 0 0
theorem w_frames : about1.frames = Frame.invoking theMethod args0 :: below0 := rfl
set_option maxRecDepth 65536 in
theorem w_args : argsFit about1.vm theMethod args0 = true := by decide +kernel
set_option maxRecDepth 65536 in
theorem w_heap : heapFits about1 = true := by decide +kernel
set_option maxRecDepth 65536 in
theorem w_runnable : about1.curStatus? = some .runnable := by decide +kernel
set_option maxRecDepth 65536 in
theorem w_alone : about1.alone = true := by decide +kernel
set_option maxRecDepth 65536 in
theorem w_named : about1.methodNamed? x = some theMethod := by decide +kernel
set_option maxRecDepth 65536 in
theorem w_hears : about1.hears theMethod below0 = true := by decide +kernel
set_option maxRecDepth 65536 in
theorem w_ripe : about1.ripe theMethod args0 below0 = true := by decide +kernel
theorem w_running : about1.status = .running := rfl
set_option maxRecDepth 65536 in
theorem w_room : about1.hasRoom e0.platform room_1 = true :=
  launch0.hasRoom_least _ room_1 (by decide +kernel) (by decide +kernel) (by decide +kernel) (by decide +kernel) (by decide +kernel) (by decide +kernel)
theorem allAtoms_all (ts : List Jvm.Cond) (a : Array Jvm.Value) (st : Jvm.State) : (allAtoms ts).before a st = ts.all (fun c => c.before a st) := by
  induction ts with
  | nil => rfl
  | cons c t ih =>
    show (Jvm.Cond.and c (allAtoms t)).before a st = _
    rw [Jvm.Cond.before_and, ih, List.all_cons]
def words1 : List Jvm.Cond := Jvm.Cond.code x code maxLocals ret :: tables_1
/-- a 'code' word, met by the world's own term for the bytes: nothing is compared byte by byte -/
theorem code_word {y : MethodName} {bytes : ByteArray} {mx : Nat} {rt : Option FieldType} {a : Array Value} {s : State} {m : MethodId} {meth : Method} {c : Code} (h1 : s.methodNamed? y = some m) (h2 : s.vm.method? m = some meth) (h3 : meth.code = some c) (h4 : c.code = bytes)
    (h5 : (c.maxLocals == mx && c.exceptionTable.isEmpty && decide (c.maxStack ≤ mostOperands) && decide (meth.sig.returnType = rt) && !meth.locks && decide (parseMethodDescriptor y.desc = some meth.sig)) = true) : (Jvm.Cond.code y bytes mx rt).before a s = true := by
  simp only [Bool.and_eq_true, beq_iff_eq, Bool.not_eq_true', decide_eq_true_eq] at h5
  obtain ⟨⟨⟨⟨⟨g1, g2⟩, g3⟩, g4⟩, g5⟩, g6⟩ := h5
  simp [Cond.before, Cond.holds, Cond.value, h1, h2, h3, h4, g1, g2, g3, g4, g5, g6]
def isCode : Jvm.Cond → Bool
  | .code _ _ _ _ => true
  | _ => false
theorem all_split {L : List Jvm.Cond} {P : Jvm.Cond → Bool} (h1 : L.all (fun c => isCode c || P c) = true) (h2 : ∀ c ∈ L.filter isCode, P c = true) : L.all P = true := by
  refine List.all_eq_true.mpr fun c hc => ?_
  have h := List.all_eq_true.mp h1 c hc
  rcases Bool.eq_false_or_eq_true (isCode c) with hi | hi
  · exact h2 c (List.mem_filter.mpr ⟨hc, hi⟩)
  · simpa [hi] using h
set_option maxRecDepth 65536 in
theorem w_c0 : (Jvm.Cond.code x code maxLocals ret).before args0 about1 = true := code_word (m := ⟨1, 2⟩) (meth := k1m2) (c := k1c2) (by decide +kernel) rfl rfl rfl (by decide +kernel)
set_option maxRecDepth 65536 in
theorem w_c1 : (Jvm.Cond.code ({ cls := "com/example/dual_box/dualbox/RetryPolicyWithBudgetPinLaw", name := "budgetOf", desc := "(I)I" } : Jvm.MethodName) method_2_code (2 : Nat) (Option.some Jvm.ClassFile.FieldType.int)).before args0 about1 = true := code_word (m := ⟨1, 1⟩) (meth := k1m1) (c := k1c1) (by decide +kernel) rfl rfl rfl (by decide +kernel)
set_option maxRecDepth 65536 in
theorem w_c2 : (Jvm.Cond.code ({ cls := "com/example/dual_box/dualbox/RetryPolicy", name := "withBudget", desc := "(I)Lcom/example/dual_box/dualbox/RetryPolicy;" } : Jvm.MethodName) prog_12_method_3_code (1 : Nat) (Option.some (Jvm.ClassFile.FieldType.object "com/example/dual_box/dualbox/RetryPolicy"))).before args0 about1 = true := code_word (m := ⟨2, 1⟩) (meth := k2m1) (c := k2c1) (by decide +kernel) rfl rfl rfl (by decide +kernel)
set_option maxRecDepth 65536 in
theorem w_c3 : (Jvm.Cond.code ({ cls := "com/example/dual_box/dualbox/RetryPolicy", name := "requireBudget", desc := "(I)I" } : Jvm.MethodName) prog_12_method_4_code (1 : Nat) (Option.some Jvm.ClassFile.FieldType.int)).before args0 about1 = true := code_word (m := ⟨2, 2⟩) (meth := k2m2) (c := k2c2) (by decide +kernel) rfl rfl rfl (by decide +kernel)
set_option maxRecDepth 65536 in
theorem w_c4 : (Jvm.Cond.code ({ cls := "com/example/dual_box/dualbox/RetryPolicy", name := "<init>", desc := "(I)V" } : Jvm.MethodName) prog_12_method_1_code (2 : Nat) (Option.none : Option Jvm.ClassFile.FieldType)).before args0 about1 = true := code_word (m := ⟨2, 0⟩) (meth := k2m0) (c := k2c0) (by decide +kernel) rfl rfl rfl (by decide +kernel)
set_option maxRecDepth 65536 in
theorem w_c5 : (Jvm.Cond.code ({ cls := "java/lang/Object", name := "<init>", desc := "()V" } : Jvm.MethodName) object_method_1_code (1 : Nat) (Option.none : Option Jvm.ClassFile.FieldType)).before args0 about1 = true := code_word (m := ⟨0, 0⟩) (meth := k0m0) (c := k0c0) (by decide +kernel) rfl rfl rfl (by decide +kernel)
set_option maxRecDepth 65536 in
theorem w_c6 : (Jvm.Cond.code ({ cls := "com/example/dual_box/dualbox/RetryPolicy", name := "budget", desc := "()I" } : Jvm.MethodName) prog_12_method_5_code (1 : Nat) (Option.some Jvm.ClassFile.FieldType.int)).before args0 about1 = true := code_word (m := ⟨2, 3⟩) (meth := k2m3) (c := k2c3) (by decide +kernel) rfl rfl rfl (by decide +kernel)
set_option maxRecDepth 65536 in
theorem w_c7 : (Jvm.Cond.code ({ cls := "com/example/dual_box/dualbox/RetryPolicy", name := "isSpent", desc := "(I)Z" } : Jvm.MethodName) prog_12_method_6_code (2 : Nat) (Option.some Jvm.ClassFile.FieldType.boolean)).before args0 about1 = true := code_word (m := ⟨2, 4⟩) (meth := k2m4) (c := k2c4) (by decide +kernel) rfl rfl rfl (by decide +kernel)
def codes1 : List Jvm.Cond := [Jvm.Cond.code x code maxLocals ret, Jvm.Cond.code ({ cls := "com/example/dual_box/dualbox/RetryPolicyWithBudgetPinLaw", name := "budgetOf", desc := "(I)I" } : Jvm.MethodName) method_2_code (2 : Nat) (Option.some Jvm.ClassFile.FieldType.int), Jvm.Cond.code ({ cls := "com/example/dual_box/dualbox/RetryPolicy", name := "withBudget", desc := "(I)Lcom/example/dual_box/dualbox/RetryPolicy;" } : Jvm.MethodName) prog_12_method_3_code (1 : Nat) (Option.some (Jvm.ClassFile.FieldType.object "com/example/dual_box/dualbox/RetryPolicy")), Jvm.Cond.code ({ cls := "com/example/dual_box/dualbox/RetryPolicy", name := "requireBudget", desc := "(I)I" } : Jvm.MethodName) prog_12_method_4_code (1 : Nat) (Option.some Jvm.ClassFile.FieldType.int), Jvm.Cond.code ({ cls := "com/example/dual_box/dualbox/RetryPolicy", name := "<init>", desc := "(I)V" } : Jvm.MethodName) prog_12_method_1_code (2 : Nat) (Option.none : Option Jvm.ClassFile.FieldType), Jvm.Cond.code ({ cls := "java/lang/Object", name := "<init>", desc := "()V" } : Jvm.MethodName) object_method_1_code (1 : Nat) (Option.none : Option Jvm.ClassFile.FieldType), Jvm.Cond.code ({ cls := "com/example/dual_box/dualbox/RetryPolicy", name := "budget", desc := "()I" } : Jvm.MethodName) prog_12_method_5_code (1 : Nat) (Option.some Jvm.ClassFile.FieldType.int), Jvm.Cond.code ({ cls := "com/example/dual_box/dualbox/RetryPolicy", name := "isSpent", desc := "(I)Z" } : Jvm.MethodName) prog_12_method_6_code (2 : Nat) (Option.some Jvm.ClassFile.FieldType.boolean)]
set_option maxRecDepth 65536 in
theorem codes_eq : words1.filter isCode = codes1 := rfl
theorem w_codes : ∀ c ∈ words1.filter isCode, c.before args0 about1 = true := by
  rw [codes_eq]
  intro c hc
  simp only [codes1, List.mem_cons, List.not_mem_nil, or_false] at hc
  rcases hc with rfl | rfl | rfl | rfl | rfl | rfl | rfl | rfl
  · exact w_c0
  · exact w_c1
  · exact w_c2
  · exact w_c3
  · exact w_c4
  · exact w_c5
  · exact w_c6
  · exact w_c7
set_option maxRecDepth 65536 in
theorem w_t1 : (words1.take 24).all (fun c => isCode c || c.before args0 about1) = true := by decide +kernel
set_option maxRecDepth 65536 in
theorem w_t2 : (words1.drop 24).all (fun c => isCode c || c.before args0 about1) = true := by decide +kernel
theorem w_tables : (allAtoms (Jvm.Cond.code x code maxLocals ret :: tables_1)).before args0 about1 = true := by
  rw [allAtoms_all]
  show words1.all (fun c => c.before args0 about1) = true
  refine all_split ?_ w_codes
  rw [← List.take_append_drop 24 words1, List.all_append, w_t1, w_t2]
  rfl
set_option maxRecDepth 65536 in
theorem w_case : (Jvm.Cond.and given_1 narrow_1).before args0 about1 = true := by decide +kernel
theorem w_applies : (headSpec (Jvm.Cond.code x code maxLocals ret :: tables_1) room_1).applies x e0.platform about1 = true :=
  (Spec.applies_iff w_frames).mpr ⟨w_running, w_runnable, w_alone, w_named, w_hears, w_ripe, w_room, w_tables⟩
theorem atStart : AtStart classFile x code maxLocals ret World_1 tables_1 room_1 Calls_1 rest_1 Pre_1 launch0 p0 e0 about1 theMethod args0 below0 :=
  ⟨lists_1, trivial, launch0.admits_env _ _ _, launch0.least_env, fairChoices_fair.cas, fairChoices_fair.clock, w_frames, w_args, w_heap, w_applies, trivial, trivial, w_case⟩
end start1
theorem witness_1 : WitnessClaimed_1 := ⟨start1.p0, start1.e0, start1.about1, start1.theMethod, start1.args0, start1.below0, start1.atStart⟩
end Jvm.Pilot.@@N@@
