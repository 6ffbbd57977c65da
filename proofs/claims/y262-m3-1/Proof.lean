import JvmDerived
import JvmDerived.Pilot.@@N@@Statement
import JvmDerived.Pilot.@@N@@Code
set_option linter.unusedVariables false
set_option linter.unusedSimpArgs false
@@BLOCK:NumsL.lean.txt@@
namespace Jvm.RoadKit
open Sem ClassFile Op Lib Jvm.Stand Jvm.Free Jvm.LawKit
section New
variable {p : Program} {l : Launch} {e : Env} {R : Room} {s : State} {m : MethodId} {args : Array Value} {below : List Frame} {meth : Method} {c : Code} {T : State} {locs : List Loc} {cells slots : Nat}
theorem retI (X : Stand p l e R s m args below meth c T locs cells slots) (hx : p.tables.exec = Jvm.exec) {pc : Nat} {Ls : Array Slot} {z : Int32} {rest : List Value} (hret : meth.sig.returnType = some .int) (hd : decode c.code pc = .ok (.ireturn, 1)) {fs : List Frame}
    (hl : ∀ (f : JFrame) (acts : List Action), f.method = m → f.locked = none → f.entered = [] → (doReturn e (T.setTop f) acts (some (.int z))).1 = T.setFrames fs) : Steps p.tables e below (T.setTop (mkF m pc Ls (.int z :: rest))) (T.setFrames fs) := by
  have hm' : T.vm.method? m = some meth := X.method'
  have hn : narrow .int (.int z) = .int z := rfl
  show Steps p.tables e below (T.setTop { method := m, pc := pc, locals := Ls, stack := _ :: rest, locked := none }) _
  jvm_step X.here [X.here.top, hx, hd, hm', hret, hn]
  first | (intro acts; rw [hl _ acts rfl rfl rfl]) | rw [hl _ _ rfl rfl rfl]
  exact Steps.refl _
theorem own_retJ (X : Stand p l e R s m args below meth c T locs cells slots) (hx : p.tables.exec = Jvm.exec) {pc : Nat} {Ls : Array Slot} {z : Int64} {rest : List Value} (hret : meth.sig.returnType = some .long) (hd : decode c.code pc = .ok (.lreturn, 1)) {fs : List Frame}
    (hl : ∀ (f : JFrame) (acts : List Action), f.method = m → f.locked = none → f.entered = [] → (doReturn e (T.setTop f) acts (some (.long z))).1 = T.setFrames fs) : Steps p.tables e below (T.setTop (mkF m pc Ls (.long z :: rest))) (T.setFrames fs) := by
  have hm' : T.vm.method? m = some meth := X.method'
  show Steps p.tables e below (T.setTop { method := m, pc := pc, locals := Ls, stack := _ :: rest, locked := none }) _
  jvm_step X.here [X.here.top, hx, hd, hm', hret, narrow]
  first | (intro acts; rw [hl _ acts rfl rfl rfl]) | rw [hl _ _ rfl rfl rfl]
  exact Steps.refl _
theorem own_retA (X : Stand p l e R s m args below meth c T locs cells slots) (hx : p.tables.exec = Jvm.exec) {pc : Nat} {Ls : Array Slot} {b : Addr} {t : FieldType} {rest : List Value} (hret : meth.sig.returnType = some t) (ht : t.isReference = true) (hb0 : b = b) (hd : decode c.code pc = .ok (.areturn, 1)) {fs : List Frame}
    (hl : ∀ (f : JFrame) (acts : List Action), f.method = m → f.locked = none → f.entered = [] → (doReturn e (T.setTop f) acts (some (.ref b))).1 = T.setFrames fs) : Steps p.tables e below (T.setTop (mkF m pc Ls (.ref b :: rest))) (T.setFrames fs) := by
  have hm' : T.vm.method? m = some meth := X.method'
  show Steps p.tables e below (T.setTop { method := m, pc := pc, locals := Ls, stack := _ :: rest, locked := none }) _
  jvm_step X.here [X.here.top, hx, hd, hm', hret, Value.isRef, ht]
  first | (intro acts; rw [hl _ acts rfl rfl rfl]) | rw [hl _ _ rfl rfl rfl]
  exact Steps.refl _
end New
/-- a walk's goal at the state A -/
def own_G (tb : Tables) (e : Env) (below : List Frame) (P : Outcome → State → Prop) (A : State) : Prop := ∃ s₂ o, Steps tb e below A s₂ ∧ s₂.status = .running ∧ Ended s₂ below o ∧ P o s₂
section Go
variable {tb : Tables} {e : Env} {below : List Frame} {P : Outcome → State → Prop} {A B : State}
theorem own_step (h : ∀ t, Steps tb e below B t → Steps tb e below A t) (k : own_G tb e below P B) : own_G tb e below P A := by
  obtain ⟨s₂, o, h1, h2⟩ := k
  exact ⟨s₂, o, h _ h1, h2⟩
theorem own_start (h : ∀ t, Steps tb e below B t → Steps tb e below A t) (k : own_G tb e below P B) : ∃ s₂ o, Steps tb e below A s₂ ∧ s₂.status = .running ∧ Ended s₂ below o ∧ P o s₂ := own_step h k
theorem own_done {s₂ : State} {o : Outcome} (h1 : Steps tb e below A s₂) (h2 : s₂.status = .running) (h3 : Ended s₂ below o) (h4 : P o s₂) : own_G tb e below P A := ⟨s₂, o, h1, h2, h3, h4⟩
theorem own_nm {α : Type} (x : α) (F : α → State) (h : ∀ v, v = x → own_G tb e below P (F v)) : own_G tb e below P (F x) := h x rfl
theorem own_gen (h : ∀ P', P' = P → own_G tb e below P' A) : own_G tb e below P A := h P rfl
theorem own_imp (h : own_G tb e below P B → own_G tb e below P A) (k : own_G tb e below P B) : own_G tb e below P A := h k
end Go

end Jvm.RoadKit
namespace Jvm.Pilot.@@N@@
open Jvm Jvm.ClassFile Sem Op Lib Jvm.Free Jvm.Stand Jvm.LawKit Jvm.RoadKit Bundle Jvm.Pilot.@@N@@.Jvm.D

theorem d1_0 : decode prog_34_method_4_code 0 = .ok (.lload_n 0, 1) := by decide +kernel
theorem d1_1 : decode prog_34_method_4_code 1 = .ok (.lload_n 3, 1) := by decide +kernel
theorem d1_2 : decode prog_34_method_4_code 2 = .ok (.lcmp, 1) := by decide +kernel
theorem d1_3 : decode prog_34_method_4_code 3 = .ok (.ifCond .lt 15, 3) := by decide +kernel
theorem d1_6 : decode prog_34_method_4_code 6 = .ok (.lload_n 0, 1) := by decide +kernel
theorem d1_7 : decode prog_34_method_4_code 7 = .ok (.lload_n 3, 1) := by decide +kernel
theorem d1_8 : decode prog_34_method_4_code 8 = .ok (.lcmp, 1) := by decide +kernel
theorem d1_9 : decode prog_34_method_4_code 9 = .ok (.ifCond .ne 13, 3) := by decide +kernel
theorem d1_12 : decode prog_34_method_4_code 12 = .ok (.iload_n 2, 1) := by decide +kernel
theorem d1_13 : decode prog_34_method_4_code 13 = .ok (.iload 5, 2) := by decide +kernel
theorem d1_15 : decode prog_34_method_4_code 15 = .ok (.if_icmp .ge 7, 3) := by decide +kernel
theorem d1_18 : decode prog_34_method_4_code 18 = .ok (.iconst 1, 1) := by decide +kernel
theorem d1_19 : decode prog_34_method_4_code 19 = .ok (.goto 4, 3) := by decide +kernel
theorem d1_22 : decode prog_34_method_4_code 22 = .ok (.iconst 0, 1) := by decide +kernel
theorem d1_23 : decode prog_34_method_4_code 23 = .ok (.ireturn, 1) := by decide +kernel
theorem pn_1 : plainName "com/example/leafcode/leafcode/NodeQueue" = true := by first | (simp [plainName, overriddenIn]; done) | decide +kernel
theorem ef_1 (m : MethodId) (q1 : Int64) (p2 : Int32) (q3 : Int64) (p4 : Int32) : entryFrame m #[(.long q1), (.int p2), (.long q3), (.int p4)] 6 = mkF m 0 #[.val (.long q1), .second, .val (.int p2), .val (.long q3), .second, .val (.int p4)] [] := by first | (simp [entryFrame, mkF, argsToLocals, Value.category]; done) | rfl
def own_f1 (q1 : Int64) (p2 : Int32) (q3 : Int64) (p4 : Int32) : Int32 :=
  (if q1 < q3 then (1 : Int32) else (if q1 = q3 then (if p2 < p4 then (1 : Int32) else (0 : Int32)) else (0 : Int32)))
def Q1 (Z : State) (q1 : Int64) (p2 : Int32) (q3 : Int64) (p4 : Int32) (h0 : Heap) (n0 : Nat) (v : Option Value) (h : Heap) (L : List Loc) : Prop := v = some (.int (own_f1 q1 p2 q3 p4)) ∧ Fr n0 L ∧ h = h0
set_option maxRecDepth 65536 in
set_option maxHeartbeats 40000000 in
theorem rm1 (l : Launch) (Z : State) (a0 : Array Value) (hw : ∀ d ∈ tables_1, d.before a0 Z = true) (ws : List Jvm.Cond) (q1 : Int64) (p2 : Int32) (q3 : Int64) (p4 : Int32) (h0 : Heap) (n0 : Nat) (Z0 : n0 ≤ h0.size) :
    MetFree l (⟨"com/example/leafcode/leafcode/NodeQueue", "precedes", "(JIJI)Z"⟩ : MethodName) (head1 (Jvm.Cond.code (⟨"com/example/leafcode/leafcode/NodeQueue", "precedes", "(JIJI)Z"⟩ : MethodName) prog_34_method_4_code 6 (some .boolean) :: ws) ({ frames := 0, cells := 0, slots := 0, locals := 0 } : Room)) (fun a U => a = #[(.long q1), (.int p2), (.long q3), (.int p4)] ∧ Z.Warmed39 U.vm ∧ U.heap = h0) (fun _ _ _ _ _ => True) (fun _ U o U' => ∃ v L, o = .returned v ∧ Q1 Z q1 p2 q3 p4 h0 n0 v U'.heap L ∧ FrameEnd U o U' L ({ frames := 0, cells := 0, slots := 0, locals := 0 } : Room).cells ({ frames := 0, cells := 0, slots := 0, locals := 0 } : Room).slots) := by
  refine MetFree.of_bodySF (plainFor_of_name pn_1) hisR ?_
  intro p e s m args below meth c s₁ Bd hml0 hP hK
  obtain ⟨rfl, hZ, hh⟩ := hP
  have hx := Bd.exec
  have hby := Bd.bytes
  have hml : c.maxLocals = 6 := hml0
  have hown : s.vm.findClass "com/example/leafcode/leafcode/NodeQueue" = some m.cls := findClass_of_methodNamed Bd.named
  have hnm := (name_of_methodNamed Bd.named Bd.method).1
  have X0 : Stand p l e ({ frames := 0, cells := 0, slots := 0, locals := 0 } : Room) s m #[(.long q1), (.int p2), (.long q3), (.int p4)] below meth c s₁ [] 0 0 := Stand.of_body Bd
  have e0 : s₁.heap = h0 := by rw [← hh, Bd.state]; rfl
  have N0 := Fr.nil n0
  refine own_start (fun t k => castTop (ef_1 m q1 p2 q3 p4) k) ?_
  show own_G p.tables e below _ (s₁.setTop (mkF m 0 #[.val (.long q1), .second, .val (.int p2), .val (.long q3), .second, .val (.int p4)] []))
  refine own_step (fun t k => XS.lloadN X0.here hx rfl (hb hby d1_0) rfl k) ?_
  show own_G p.tables e below _ (s₁.setTop (mkF m 1 #[.val (.long q1), .second, .val (.int p2), .val (.long q3), .second, .val (.int p4)] [(.long q1)]))
  refine own_step (fun t k => XS.lloadN X0.here hx rfl (hb hby d1_1) rfl k) ?_
  show own_G p.tables e below _ (s₁.setTop (mkF m 2 #[.val (.long q1), .second, .val (.int p2), .val (.long q3), .second, .val (.int p4)] [(.long q3), (.long q1)]))
  refine own_step (fun t k => XS.lcmp X0.here hx rfl (hb hby d1_2) rfl k) ?_
  show own_G p.tables e below _ (s₁.setTop (mkF m 3 #[.val (.long q1), .second, .val (.int p2), .val (.long q3), .second, .val (.int p4)] [(.int (lcmpW q1 q3))]))
  by_cases hc1 : q1 < q3
  · skip
    refine own_step (fun t k => XS.ifYes X0.here hx rfl (pc0 := 3) (pc' := 18) rfl (hb hby d1_3) rfl ((if0 _ _).trans (tlt ((lw_lt _ _).mpr hc1)).1) (by decide) (by decide) k) ?_
    show own_G p.tables e below _ (s₁.setTop (mkF m 18 #[.val (.long q1), .second, .val (.int p2), .val (.long q3), .second, .val (.int p4)] []))
    refine own_step (fun t k => XS.iconst X0.here hx rfl (hb hby d1_18) k) ?_
    show own_G p.tables e below _ (s₁.setTop (mkF m 19 #[.val (.long q1), .second, .val (.int p2), .val (.long q3), .second, .val (.int p4)] [(.int (1 : Int32))]))
    refine own_step (fun t k => XS.goto X0.here hx rfl (pc0 := 19) (pc' := 23) rfl (hb hby d1_19) (by decide) (by decide) k) ?_
    show own_G p.tables e below _ (s₁.setTop (mkF m 23 #[.val (.long q1), .second, .val (.int p2), .val (.long q3), .second, .val (.int p4)] [(.int (1 : Int32))]))
    obtain ⟨fs, hr, hrun, hended, hW, hsame⟩ := X0.leave (v := some (.int (1 : Int32))) (fun h => by rw [Bd.returns] at h; cases h)
    refine own_done (retN X0 hx (t := .boolean) Bd.returns (by simp) (hb hby d1_23) hr) hrun hended ⟨_, _, rfl, ?_, ⟨_, rfl⟩, hW, hsame.mono (by decide) (by decide)⟩
    show Q1 Z q1 p2 q3 p4 h0 n0 _ s₁.heap _
    rw [e0]
    exact ⟨congrArg (fun z => some (Value.int z)) (show (1 : Int32) = (own_f1 q1 p2 q3 p4) from by unfold own_f1; simp only [if_pos hc1]), N0, rfl⟩
  · skip
    refine own_step (fun t k => XS.ifNo X0.here hx rfl (hb hby d1_3) rfl ((if0 _ _).trans (flt (fun q => hc1 ((lw_lt _ _).mp q))).1) k) ?_
    show own_G p.tables e below _ (s₁.setTop (mkF m 6 #[.val (.long q1), .second, .val (.int p2), .val (.long q3), .second, .val (.int p4)] []))
    refine own_step (fun t k => XS.lloadN X0.here hx rfl (hb hby d1_6) rfl k) ?_
    show own_G p.tables e below _ (s₁.setTop (mkF m 7 #[.val (.long q1), .second, .val (.int p2), .val (.long q3), .second, .val (.int p4)] [(.long q1)]))
    refine own_step (fun t k => XS.lloadN X0.here hx rfl (hb hby d1_7) rfl k) ?_
    show own_G p.tables e below _ (s₁.setTop (mkF m 8 #[.val (.long q1), .second, .val (.int p2), .val (.long q3), .second, .val (.int p4)] [(.long q3), (.long q1)]))
    refine own_step (fun t k => XS.lcmp X0.here hx rfl (hb hby d1_8) rfl k) ?_
    show own_G p.tables e below _ (s₁.setTop (mkF m 9 #[.val (.long q1), .second, .val (.int p2), .val (.long q3), .second, .val (.int p4)] [(.int (lcmpW q1 q3))]))
    by_cases hc2 : q1 = q3
    · skip
      refine own_step (fun t k => XS.ifNo X0.here hx rfl (hb hby d1_9) rfl ((if0 _ _).trans (teq ((lw_eq _ _).mpr hc2)).2) k) ?_
      show own_G p.tables e below _ (s₁.setTop (mkF m 12 #[.val (.long q1), .second, .val (.int p2), .val (.long q3), .second, .val (.int p4)] []))
      refine own_step (fun t k => XS.iloadN X0.here hx rfl (hb hby d1_12) rfl k) ?_
      show own_G p.tables e below _ (s₁.setTop (mkF m 13 #[.val (.long q1), .second, .val (.int p2), .val (.long q3), .second, .val (.int p4)] [(.int p2)]))
      refine own_step (fun t k => XS.iload X0.here hx rfl (hb hby d1_13) rfl k) ?_
      show own_G p.tables e below _ (s₁.setTop (mkF m 15 #[.val (.long q1), .second, .val (.int p2), .val (.long q3), .second, .val (.int p4)] [(.int p4), (.int p2)]))
      by_cases hc3 : p2 < p4
      · skip
        refine own_step (fun t k => XS.icmpNo X0.here hx rfl (hb hby d1_15) rfl ((tlt hc3).2.1) k) ?_
        show own_G p.tables e below _ (s₁.setTop (mkF m 18 #[.val (.long q1), .second, .val (.int p2), .val (.long q3), .second, .val (.int p4)] []))
        refine own_step (fun t k => XS.iconst X0.here hx rfl (hb hby d1_18) k) ?_
        show own_G p.tables e below _ (s₁.setTop (mkF m 19 #[.val (.long q1), .second, .val (.int p2), .val (.long q3), .second, .val (.int p4)] [(.int (1 : Int32))]))
        refine own_step (fun t k => XS.goto X0.here hx rfl (pc0 := 19) (pc' := 23) rfl (hb hby d1_19) (by decide) (by decide) k) ?_
        show own_G p.tables e below _ (s₁.setTop (mkF m 23 #[.val (.long q1), .second, .val (.int p2), .val (.long q3), .second, .val (.int p4)] [(.int (1 : Int32))]))
        obtain ⟨fs, hr, hrun, hended, hW, hsame⟩ := X0.leave (v := some (.int (1 : Int32))) (fun h => by rw [Bd.returns] at h; cases h)
        refine own_done (retN X0 hx (t := .boolean) Bd.returns (by simp) (hb hby d1_23) hr) hrun hended ⟨_, _, rfl, ?_, ⟨_, rfl⟩, hW, hsame.mono (by decide) (by decide)⟩
        show Q1 Z q1 p2 q3 p4 h0 n0 _ s₁.heap _
        rw [e0]
        exact ⟨congrArg (fun z => some (Value.int z)) (show (1 : Int32) = (own_f1 q1 p2 q3 p4) from by unfold own_f1; simp only [if_neg hc1, if_pos hc2, if_pos hc3]), N0, rfl⟩
      · skip
        refine own_step (fun t k => XS.icmpYes X0.here hx rfl (pc0 := 15) (pc' := 22) rfl (hb hby d1_15) rfl ((flt hc3).2.1) (by decide) (by decide) k) ?_
        show own_G p.tables e below _ (s₁.setTop (mkF m 22 #[.val (.long q1), .second, .val (.int p2), .val (.long q3), .second, .val (.int p4)] []))
        refine own_step (fun t k => XS.iconst X0.here hx rfl (hb hby d1_22) k) ?_
        show own_G p.tables e below _ (s₁.setTop (mkF m 23 #[.val (.long q1), .second, .val (.int p2), .val (.long q3), .second, .val (.int p4)] [(.int (0 : Int32))]))
        obtain ⟨fs, hr, hrun, hended, hW, hsame⟩ := X0.leave (v := some (.int (0 : Int32))) (fun h => by rw [Bd.returns] at h; cases h)
        refine own_done (retN X0 hx (t := .boolean) Bd.returns (by simp) (hb hby d1_23) hr) hrun hended ⟨_, _, rfl, ?_, ⟨_, rfl⟩, hW, hsame.mono (by decide) (by decide)⟩
        show Q1 Z q1 p2 q3 p4 h0 n0 _ s₁.heap _
        rw [e0]
        exact ⟨congrArg (fun z => some (Value.int z)) (show (0 : Int32) = (own_f1 q1 p2 q3 p4) from by unfold own_f1; simp only [if_neg hc1, if_pos hc2, if_neg hc3]), N0, rfl⟩
    · skip
      refine own_step (fun t k => XS.ifYes X0.here hx rfl (pc0 := 9) (pc' := 22) rfl (hb hby d1_9) rfl ((if0 _ _).trans (feq (fun q => hc2 ((lw_eq _ _).mp q))).2) (by decide) (by decide) k) ?_
      show own_G p.tables e below _ (s₁.setTop (mkF m 22 #[.val (.long q1), .second, .val (.int p2), .val (.long q3), .second, .val (.int p4)] []))
      refine own_step (fun t k => XS.iconst X0.here hx rfl (hb hby d1_22) k) ?_
      show own_G p.tables e below _ (s₁.setTop (mkF m 23 #[.val (.long q1), .second, .val (.int p2), .val (.long q3), .second, .val (.int p4)] [(.int (0 : Int32))]))
      obtain ⟨fs, hr, hrun, hended, hW, hsame⟩ := X0.leave (v := some (.int (0 : Int32))) (fun h => by rw [Bd.returns] at h; cases h)
      refine own_done (retN X0 hx (t := .boolean) Bd.returns (by simp) (hb hby d1_23) hr) hrun hended ⟨_, _, rfl, ?_, ⟨_, rfl⟩, hW, hsame.mono (by decide) (by decide)⟩
      show Q1 Z q1 p2 q3 p4 h0 n0 _ s₁.heap _
      rw [e0]
      exact ⟨congrArg (fun z => some (Value.int z)) (show (0 : Int32) = (own_f1 q1 p2 q3 p4) from by unfold own_f1; simp only [if_neg hc1, if_neg hc2]), N0, rfl⟩
theorem d2_0 : decode method_3_code 0 = .ok (.lload_n 0, 1) := by decide +kernel
theorem d2_1 : decode method_3_code 1 = .ok (.lload_n 3, 1) := by decide +kernel
theorem d2_2 : decode method_3_code 2 = .ok (.lcmp, 1) := by decide +kernel
theorem d2_3 : decode method_3_code 3 = .ok (.ifCond .ge 5, 3) := by decide +kernel
theorem d2_6 : decode method_3_code 6 = .ok (.iconst 1, 1) := by decide +kernel
theorem d2_7 : decode method_3_code 7 = .ok (.ireturn, 1) := by decide +kernel
theorem d2_8 : decode method_3_code 8 = .ok (.lload_n 0, 1) := by decide +kernel
theorem d2_9 : decode method_3_code 9 = .ok (.lload_n 3, 1) := by decide +kernel
theorem d2_10 : decode method_3_code 10 = .ok (.lcmp, 1) := by decide +kernel
theorem d2_11 : decode method_3_code 11 = .ok (.ifCond .le 5, 3) := by decide +kernel
theorem d2_14 : decode method_3_code 14 = .ok (.iconst 0, 1) := by decide +kernel
theorem d2_15 : decode method_3_code 15 = .ok (.ireturn, 1) := by decide +kernel
theorem d2_16 : decode method_3_code 16 = .ok (.iload_n 2, 1) := by decide +kernel
theorem d2_17 : decode method_3_code 17 = .ok (.iload 5, 2) := by decide +kernel
theorem d2_19 : decode method_3_code 19 = .ok (.if_icmp .ge 5, 3) := by decide +kernel
theorem d2_22 : decode method_3_code 22 = .ok (.iconst 1, 1) := by decide +kernel
theorem d2_23 : decode method_3_code 23 = .ok (.ireturn, 1) := by decide +kernel
theorem d2_24 : decode method_3_code 24 = .ok (.iconst 0, 1) := by decide +kernel
theorem d2_25 : decode method_3_code 25 = .ok (.ireturn, 1) := by decide +kernel
theorem pn_2 : plainName "com/example/leafcode/leafcode/NodeQueuePrecedesPinLaw" = true := by first | (simp [plainName, overriddenIn]; done) | decide +kernel
theorem ef_2 (m : MethodId) (q1 : Int64) (p2 : Int32) (q3 : Int64) (p4 : Int32) : entryFrame m #[(.long q1), (.int p2), (.long q3), (.int p4)] 6 = mkF m 0 #[.val (.long q1), .second, .val (.int p2), .val (.long q3), .second, .val (.int p4)] [] := by first | (simp [entryFrame, mkF, argsToLocals, Value.category]; done) | rfl
def own_f2 (q1 : Int64) (p2 : Int32) (q3 : Int64) (p4 : Int32) : Int32 :=
  (if q1 < q3 then (1 : Int32) else (if q3 < q1 then (0 : Int32) else (if p2 < p4 then (1 : Int32) else (0 : Int32))))
def Q2 (Z : State) (q1 : Int64) (p2 : Int32) (q3 : Int64) (p4 : Int32) (h0 : Heap) (n0 : Nat) (v : Option Value) (h : Heap) (L : List Loc) : Prop := v = some (.int (own_f2 q1 p2 q3 p4)) ∧ Fr n0 L ∧ h = h0
set_option maxRecDepth 65536 in
set_option maxHeartbeats 40000000 in
theorem rm2 (l : Launch) (Z : State) (a0 : Array Value) (hw : ∀ d ∈ tables_1, d.before a0 Z = true) (ws : List Jvm.Cond) (q1 : Int64) (p2 : Int32) (q3 : Int64) (p4 : Int32) (h0 : Heap) (n0 : Nat) (Z0 : n0 ≤ h0.size) :
    MetFree l (⟨"com/example/leafcode/leafcode/NodeQueuePrecedesPinLaw", "expected", "(JIJI)Z"⟩ : MethodName) (head1 (Jvm.Cond.code (⟨"com/example/leafcode/leafcode/NodeQueuePrecedesPinLaw", "expected", "(JIJI)Z"⟩ : MethodName) method_3_code 6 (some .boolean) :: ws) ({ frames := 0, cells := 0, slots := 0, locals := 0 } : Room)) (fun a U => a = #[(.long q1), (.int p2), (.long q3), (.int p4)] ∧ Z.Warmed39 U.vm ∧ U.heap = h0) (fun _ _ _ _ _ => True) (fun _ U o U' => ∃ v L, o = .returned v ∧ Q2 Z q1 p2 q3 p4 h0 n0 v U'.heap L ∧ FrameEnd U o U' L ({ frames := 0, cells := 0, slots := 0, locals := 0 } : Room).cells ({ frames := 0, cells := 0, slots := 0, locals := 0 } : Room).slots) := by
  refine MetFree.of_bodySF (plainFor_of_name pn_2) hisR ?_
  intro p e s m args below meth c s₁ Bd hml0 hP hK
  obtain ⟨rfl, hZ, hh⟩ := hP
  have hx := Bd.exec
  have hby := Bd.bytes
  have hml : c.maxLocals = 6 := hml0
  have hown : s.vm.findClass "com/example/leafcode/leafcode/NodeQueuePrecedesPinLaw" = some m.cls := findClass_of_methodNamed Bd.named
  have hnm := (name_of_methodNamed Bd.named Bd.method).1
  have X0 : Stand p l e ({ frames := 0, cells := 0, slots := 0, locals := 0 } : Room) s m #[(.long q1), (.int p2), (.long q3), (.int p4)] below meth c s₁ [] 0 0 := Stand.of_body Bd
  have e0 : s₁.heap = h0 := by rw [← hh, Bd.state]; rfl
  have N0 := Fr.nil n0
  refine own_start (fun t k => castTop (ef_2 m q1 p2 q3 p4) k) ?_
  show own_G p.tables e below _ (s₁.setTop (mkF m 0 #[.val (.long q1), .second, .val (.int p2), .val (.long q3), .second, .val (.int p4)] []))
  refine own_step (fun t k => XS.lloadN X0.here hx rfl (hb hby d2_0) rfl k) ?_
  show own_G p.tables e below _ (s₁.setTop (mkF m 1 #[.val (.long q1), .second, .val (.int p2), .val (.long q3), .second, .val (.int p4)] [(.long q1)]))
  refine own_step (fun t k => XS.lloadN X0.here hx rfl (hb hby d2_1) rfl k) ?_
  show own_G p.tables e below _ (s₁.setTop (mkF m 2 #[.val (.long q1), .second, .val (.int p2), .val (.long q3), .second, .val (.int p4)] [(.long q3), (.long q1)]))
  refine own_step (fun t k => XS.lcmp X0.here hx rfl (hb hby d2_2) rfl k) ?_
  show own_G p.tables e below _ (s₁.setTop (mkF m 3 #[.val (.long q1), .second, .val (.int p2), .val (.long q3), .second, .val (.int p4)] [(.int (lcmpW q1 q3))]))
  by_cases hc1 : q1 < q3
  · skip
    refine own_step (fun t k => XS.ifNo X0.here hx rfl (hb hby d2_3) rfl ((if0 _ _).trans (tlt ((lw_lt _ _).mpr hc1)).2.1) k) ?_
    show own_G p.tables e below _ (s₁.setTop (mkF m 6 #[.val (.long q1), .second, .val (.int p2), .val (.long q3), .second, .val (.int p4)] []))
    refine own_step (fun t k => XS.iconst X0.here hx rfl (hb hby d2_6) k) ?_
    show own_G p.tables e below _ (s₁.setTop (mkF m 7 #[.val (.long q1), .second, .val (.int p2), .val (.long q3), .second, .val (.int p4)] [(.int (1 : Int32))]))
    obtain ⟨fs, hr, hrun, hended, hW, hsame⟩ := X0.leave (v := some (.int (1 : Int32))) (fun h => by rw [Bd.returns] at h; cases h)
    refine own_done (retN X0 hx (t := .boolean) Bd.returns (by simp) (hb hby d2_7) hr) hrun hended ⟨_, _, rfl, ?_, ⟨_, rfl⟩, hW, hsame.mono (by decide) (by decide)⟩
    show Q2 Z q1 p2 q3 p4 h0 n0 _ s₁.heap _
    rw [e0]
    exact ⟨congrArg (fun z => some (Value.int z)) (show (1 : Int32) = (own_f2 q1 p2 q3 p4) from by unfold own_f2; simp only [if_pos hc1]), N0, rfl⟩
  · skip
    refine own_step (fun t k => XS.ifYes X0.here hx rfl (pc0 := 3) (pc' := 8) rfl (hb hby d2_3) rfl ((if0 _ _).trans (flt (fun q => hc1 ((lw_lt _ _).mp q))).2.1) (by decide) (by decide) k) ?_
    show own_G p.tables e below _ (s₁.setTop (mkF m 8 #[.val (.long q1), .second, .val (.int p2), .val (.long q3), .second, .val (.int p4)] []))
    refine own_step (fun t k => XS.lloadN X0.here hx rfl (hb hby d2_8) rfl k) ?_
    show own_G p.tables e below _ (s₁.setTop (mkF m 9 #[.val (.long q1), .second, .val (.int p2), .val (.long q3), .second, .val (.int p4)] [(.long q1)]))
    refine own_step (fun t k => XS.lloadN X0.here hx rfl (hb hby d2_9) rfl k) ?_
    show own_G p.tables e below _ (s₁.setTop (mkF m 10 #[.val (.long q1), .second, .val (.int p2), .val (.long q3), .second, .val (.int p4)] [(.long q3), (.long q1)]))
    refine own_step (fun t k => XS.lcmp X0.here hx rfl (hb hby d2_10) rfl k) ?_
    show own_G p.tables e below _ (s₁.setTop (mkF m 11 #[.val (.long q1), .second, .val (.int p2), .val (.long q3), .second, .val (.int p4)] [(.int (lcmpW q1 q3))]))
    by_cases hc2 : q3 < q1
    · skip
      refine own_step (fun t k => XS.ifNo X0.here hx rfl (hb hby d2_11) rfl ((if0 _ _).trans (tlt ((lw_gt _ _).mpr hc2)).2.2.2) k) ?_
      show own_G p.tables e below _ (s₁.setTop (mkF m 14 #[.val (.long q1), .second, .val (.int p2), .val (.long q3), .second, .val (.int p4)] []))
      refine own_step (fun t k => XS.iconst X0.here hx rfl (hb hby d2_14) k) ?_
      show own_G p.tables e below _ (s₁.setTop (mkF m 15 #[.val (.long q1), .second, .val (.int p2), .val (.long q3), .second, .val (.int p4)] [(.int (0 : Int32))]))
      obtain ⟨fs, hr, hrun, hended, hW, hsame⟩ := X0.leave (v := some (.int (0 : Int32))) (fun h => by rw [Bd.returns] at h; cases h)
      refine own_done (retN X0 hx (t := .boolean) Bd.returns (by simp) (hb hby d2_15) hr) hrun hended ⟨_, _, rfl, ?_, ⟨_, rfl⟩, hW, hsame.mono (by decide) (by decide)⟩
      show Q2 Z q1 p2 q3 p4 h0 n0 _ s₁.heap _
      rw [e0]
      exact ⟨congrArg (fun z => some (Value.int z)) (show (0 : Int32) = (own_f2 q1 p2 q3 p4) from by unfold own_f2; simp only [if_neg hc1, if_pos hc2]), N0, rfl⟩
    · skip
      refine own_step (fun t k => XS.ifYes X0.here hx rfl (pc0 := 11) (pc' := 16) rfl (hb hby d2_11) rfl ((if0 _ _).trans (flt (fun q => hc2 ((lw_gt _ _).mp q))).2.2.2) (by decide) (by decide) k) ?_
      show own_G p.tables e below _ (s₁.setTop (mkF m 16 #[.val (.long q1), .second, .val (.int p2), .val (.long q3), .second, .val (.int p4)] []))
      refine own_step (fun t k => XS.iloadN X0.here hx rfl (hb hby d2_16) rfl k) ?_
      show own_G p.tables e below _ (s₁.setTop (mkF m 17 #[.val (.long q1), .second, .val (.int p2), .val (.long q3), .second, .val (.int p4)] [(.int p2)]))
      refine own_step (fun t k => XS.iload X0.here hx rfl (hb hby d2_17) rfl k) ?_
      show own_G p.tables e below _ (s₁.setTop (mkF m 19 #[.val (.long q1), .second, .val (.int p2), .val (.long q3), .second, .val (.int p4)] [(.int p4), (.int p2)]))
      by_cases hc3 : p2 < p4
      · skip
        refine own_step (fun t k => XS.icmpNo X0.here hx rfl (hb hby d2_19) rfl ((tlt hc3).2.1) k) ?_
        show own_G p.tables e below _ (s₁.setTop (mkF m 22 #[.val (.long q1), .second, .val (.int p2), .val (.long q3), .second, .val (.int p4)] []))
        refine own_step (fun t k => XS.iconst X0.here hx rfl (hb hby d2_22) k) ?_
        show own_G p.tables e below _ (s₁.setTop (mkF m 23 #[.val (.long q1), .second, .val (.int p2), .val (.long q3), .second, .val (.int p4)] [(.int (1 : Int32))]))
        obtain ⟨fs, hr, hrun, hended, hW, hsame⟩ := X0.leave (v := some (.int (1 : Int32))) (fun h => by rw [Bd.returns] at h; cases h)
        refine own_done (retN X0 hx (t := .boolean) Bd.returns (by simp) (hb hby d2_23) hr) hrun hended ⟨_, _, rfl, ?_, ⟨_, rfl⟩, hW, hsame.mono (by decide) (by decide)⟩
        show Q2 Z q1 p2 q3 p4 h0 n0 _ s₁.heap _
        rw [e0]
        exact ⟨congrArg (fun z => some (Value.int z)) (show (1 : Int32) = (own_f2 q1 p2 q3 p4) from by unfold own_f2; simp only [if_neg hc1, if_neg hc2, if_pos hc3]), N0, rfl⟩
      · skip
        refine own_step (fun t k => XS.icmpYes X0.here hx rfl (pc0 := 19) (pc' := 24) rfl (hb hby d2_19) rfl ((flt hc3).2.1) (by decide) (by decide) k) ?_
        show own_G p.tables e below _ (s₁.setTop (mkF m 24 #[.val (.long q1), .second, .val (.int p2), .val (.long q3), .second, .val (.int p4)] []))
        refine own_step (fun t k => XS.iconst X0.here hx rfl (hb hby d2_24) k) ?_
        show own_G p.tables e below _ (s₁.setTop (mkF m 25 #[.val (.long q1), .second, .val (.int p2), .val (.long q3), .second, .val (.int p4)] [(.int (0 : Int32))]))
        obtain ⟨fs, hr, hrun, hended, hW, hsame⟩ := X0.leave (v := some (.int (0 : Int32))) (fun h => by rw [Bd.returns] at h; cases h)
        refine own_done (retN X0 hx (t := .boolean) Bd.returns (by simp) (hb hby d2_25) hr) hrun hended ⟨_, _, rfl, ?_, ⟨_, rfl⟩, hW, hsame.mono (by decide) (by decide)⟩
        show Q2 Z q1 p2 q3 p4 h0 n0 _ s₁.heap _
        rw [e0]
        exact ⟨congrArg (fun z => some (Value.int z)) (show (0 : Int32) = (own_f2 q1 p2 q3 p4) from by unfold own_f2; simp only [if_neg hc1, if_neg hc2, if_neg hc3]), N0, rfl⟩

theorem own_eq (a : Int64) (b : Int32) (c : Int64) (d : Int32) : own_f1 a b c d = own_f2 a b c d := by
  unfold own_f1 own_f2
  by_cases h1 : a < c
  · simp only [if_pos h1]
  · by_cases h2 : c < a
    · have h3 : ¬ a = c := fun q => by subst q; exact h1 h2
      simp only [if_neg h1, if_pos h2, if_neg h3]
    · have h3 : a = c := by
        rw [Int64.lt_iff_toInt_lt] at h1 h2
        exact Int64.toInt_inj.mp (by omega)
      simp only [if_neg h1, if_neg h2, if_pos h3]

theorem pn_0 : plainName "com/example/leafcode/leafcode/NodeQueuePrecedesPinLaw" = true := by first | (simp [plainName, overriddenIn]; done) | decide +kernel
theorem pd_0_0 : parseMethodDescriptor "(JIJI)Z" = some ⟨[.long, .int, .long, .int], some .boolean⟩ := by decide +kernel
theorem ef_0 (m : MethodId) (q1 : Int64) (p2 : Int32) (q3 : Int64) (p4 : Int32) (p5 : Int32) : entryFrame m #[(.long q1), (.int p2), (.long q3), (.int p4), (.int p5)] maxLocals = mkF m 0 #[.val (.long q1), .second, .val (.int p2), .val (.long q3), .second, .val (.int p4), .val (.int p5), .unset, .unset, .unset, .unset, .unset] [] := by first | (simp [entryFrame, mkF, argsToLocals, Value.category, maxLocals]; done) | rfl
def Q0 (Z : State) (q1 : Int64) (p2 : Int32) (q3 : Int64) (p4 : Int32) (p5 : Int32) (h0 : Heap) (n0 : Nat) (v : Option Value) (h : Heap) (L : List Loc) : Prop := v = some (.int (1 : Int32)) ∧ Fr n0 L
set_option maxRecDepth 65536 in
set_option maxHeartbeats 40000000 in
theorem rm0 (l : Launch) (Z : State) (a0 : Array Value) (hw : ∀ d ∈ tables_1, d.before a0 Z = true) (ws : List Jvm.Cond) (q1 : Int64) (p2 : Int32) (q3 : Int64) (p4 : Int32) (p5 : Int32) (h0 : Heap) (n0 : Nat) (Z0 : n0 ≤ h0.size) :
    MetFree l x (head1 (Jvm.Cond.code x code maxLocals ret :: ws) room_1) (fun a U => a = #[(.long q1), (.int p2), (.long q3), (.int p4), (.int p5)] ∧ Z.Warmed39 U.vm ∧ U.heap = h0) (fun _ _ _ _ _ => True) (fun _ U o U' => ∃ v L, o = .returned v ∧ Q0 Z q1 p2 q3 p4 p5 h0 n0 v U'.heap L ∧ FrameEnd U o U' L room_1.cells room_1.slots) := by
  refine MetFree.of_bodySF (plainFor_of_name pn_0) hisR ?_
  intro p e s m args below meth c s₁ Bd hml0 hP hK
  obtain ⟨rfl, hZ, hh⟩ := hP
  have hx := Bd.exec
  have hby := Bd.bytes
  have hml : c.maxLocals = 12 := hml0
  have hown : s.vm.findClass "com/example/leafcode/leafcode/NodeQueuePrecedesPinLaw" = some m.cls := findClass_of_methodNamed Bd.named
  have hnm := (name_of_methodNamed Bd.named Bd.method).1
  have X0 : Stand p l e room_1 s m #[(.long q1), (.int p2), (.long q3), (.int p4), (.int p5)] below meth c s₁ [] 0 0 := Stand.of_body Bd
  have e0 : s₁.heap = h0 := by rw [← hh, Bd.state]; rfl
  have N0 := Fr.nil n0
  refine own_start (fun t k => castTop (ef_0 m q1 p2 q3 p4 p5) k) ?_
  show own_G p.tables e below _ (s₁.setTop (mkF m 0 #[.val (.long q1), .second, .val (.int p2), .val (.long q3), .second, .val (.int p4), .val (.int p5), .unset, .unset, .unset, .unset, .unset] []))
  refine own_step (fun t k => XS.iload X0.here hx rfl (hb hby at_0) rfl k) ?_
  show own_G p.tables e below _ (s₁.setTop (mkF m 2 #[.val (.long q1), .second, .val (.int p2), .val (.long q3), .second, .val (.int p4), .val (.int p5), .unset, .unset, .unset, .unset, .unset] [(.int p5)]))
  refine own_step (fun t k => XS.iconst X0.here hx rfl (hb hby at_2) k) ?_
  show own_G p.tables e below _ (s₁.setTop (mkF m 3 #[.val (.long q1), .second, .val (.int p2), .val (.long q3), .second, .val (.int p4), .val (.int p5), .unset, .unset, .unset, .unset, .unset] [(.int (1 : Int32)), (.int p5)]))
  refine own_step (fun t k => XS.iand X0.here hx rfl (hb hby at_3) rfl k) ?_
  show own_G p.tables e below _ (s₁.setTop (mkF m 4 #[.val (.long q1), .second, .val (.int p2), .val (.long q3), .second, .val (.int p4), .val (.int p5), .unset, .unset, .unset, .unset, .unset] [(.int (p5 &&& (1 : Int32)))]))
  refine own_imp (B := s₁.setTop (mkF m 12 #[.val (.long q1), .second, .val (.int p2), .val (.long q3), .second, .val (.int p4), .val (.int p5), .unset, .unset, .unset, .unset, .unset] [(.long (if (p5 &&& (1 : Int32)) = (0 : Int32) then q3 else q1))])) (fun k0 => ?_) ?_
  · by_cases hc1 : (p5 &&& (1 : Int32)) = (0 : Int32)
    · simp only [if_pos hc1] at k0
      refine own_step (fun t k => XS.ifYes X0.here hx rfl (pc0 := 4) (pc' := 11) rfl (hb hby at_4) rfl ((if0 _ _).trans (teq hc1).1) (by decide) (by decide) k) ?_
      show own_G p.tables e below _ (s₁.setTop (mkF m 11 #[.val (.long q1), .second, .val (.int p2), .val (.long q3), .second, .val (.int p4), .val (.int p5), .unset, .unset, .unset, .unset, .unset] []))
      refine own_step (fun t k => XS.lloadN X0.here hx rfl (hb hby at_11) rfl k) ?_
      show own_G p.tables e below _ (s₁.setTop (mkF m 12 #[.val (.long q1), .second, .val (.int p2), .val (.long q3), .second, .val (.int p4), .val (.int p5), .unset, .unset, .unset, .unset, .unset] [(.long q3)]))
      exact k0
    · simp only [if_neg hc1] at k0
      refine own_step (fun t k => XS.ifNo X0.here hx rfl (hb hby at_4) rfl ((if0 _ _).trans (feq hc1).1) k) ?_
      show own_G p.tables e below _ (s₁.setTop (mkF m 7 #[.val (.long q1), .second, .val (.int p2), .val (.long q3), .second, .val (.int p4), .val (.int p5), .unset, .unset, .unset, .unset, .unset] []))
      refine own_step (fun t k => XS.lloadN X0.here hx rfl (hb hby at_7) rfl k) ?_
      show own_G p.tables e below _ (s₁.setTop (mkF m 8 #[.val (.long q1), .second, .val (.int p2), .val (.long q3), .second, .val (.int p4), .val (.int p5), .unset, .unset, .unset, .unset, .unset] [(.long q1)]))
      refine own_step (fun t k => XS.goto X0.here hx rfl (pc0 := 8) (pc' := 12) rfl (hb hby at_8) (by decide) (by decide) k) ?_
      show own_G p.tables e below _ (s₁.setTop (mkF m 12 #[.val (.long q1), .second, .val (.int p2), .val (.long q3), .second, .val (.int p4), .val (.int p5), .unset, .unset, .unset, .unset, .unset] [(.long q1)]))
      exact k0
  show own_G p.tables e below _ (s₁.setTop (mkF m 12 #[.val (.long q1), .second, .val (.int p2), .val (.long q3), .second, .val (.int p4), .val (.int p5), .unset, .unset, .unset, .unset, .unset] [(.long (if (p5 &&& (1 : Int32)) = (0 : Int32) then q3 else q1))]))
  refine own_nm ((if (p5 &&& (1 : Int32)) = (0 : Int32) then q3 else q1) : Int64) (fun wb => s₁.setTop (mkF m 12 #[.val (.long q1), .second, .val (.int p2), .val (.long q3), .second, .val (.int p4), .val (.int p5), .unset, .unset, .unset, .unset, .unset] [(.long wb)])) ?_
  intro wb hd_wb
  show own_G p.tables e below _ (s₁.setTop (mkF m 12 #[.val (.long q1), .second, .val (.int p2), .val (.long q3), .second, .val (.int p4), .val (.int p5), .unset, .unset, .unset, .unset, .unset] [(.long wb)]))
  refine own_step (fun t k => XS.lstore X0.here hx rfl (hb hby at_12) rfl (l' := #[.val (.long q1), .second, .val (.int p2), .val (.long q3), .second, .val (.int p4), .val (.int p5), .val (.long wb), .second, .unset, .unset, .unset]) rfl k) ?_
  show own_G p.tables e below _ (s₁.setTop (mkF m 14 #[.val (.long q1), .second, .val (.int p2), .val (.long q3), .second, .val (.int p4), .val (.int p5), .val (.long wb), .second, .unset, .unset, .unset] []))
  refine own_step (fun t k => XS.iload X0.here hx rfl (hb hby at_14) rfl k) ?_
  show own_G p.tables e below _ (s₁.setTop (mkF m 16 #[.val (.long q1), .second, .val (.int p2), .val (.long q3), .second, .val (.int p4), .val (.int p5), .val (.long wb), .second, .unset, .unset, .unset] [(.int p5)]))
  refine own_step (fun t k => XS.iconst X0.here hx rfl (hb hby at_16) k) ?_
  show own_G p.tables e below _ (s₁.setTop (mkF m 17 #[.val (.long q1), .second, .val (.int p2), .val (.long q3), .second, .val (.int p4), .val (.int p5), .val (.long wb), .second, .unset, .unset, .unset] [(.int (2 : Int32)), (.int p5)]))
  refine own_step (fun t k => XS.iand X0.here hx rfl (hb hby at_17) rfl k) ?_
  show own_G p.tables e below _ (s₁.setTop (mkF m 18 #[.val (.long q1), .second, .val (.int p2), .val (.long q3), .second, .val (.int p4), .val (.int p5), .val (.long wb), .second, .unset, .unset, .unset] [(.int (p5 &&& (2 : Int32)))]))
  refine own_imp (B := s₁.setTop (mkF m 27 #[.val (.long q1), .second, .val (.int p2), .val (.long q3), .second, .val (.int p4), .val (.int p5), .val (.long wb), .second, .unset, .unset, .unset] [(.int (if (p5 &&& (2 : Int32)) = (0 : Int32) then p4 else p2))])) (fun k0 => ?_) ?_
  · by_cases hc2 : (p5 &&& (2 : Int32)) = (0 : Int32)
    · simp only [if_pos hc2] at k0
      refine own_step (fun t k => XS.ifYes X0.here hx rfl (pc0 := 18) (pc' := 25) rfl (hb hby at_18) rfl ((if0 _ _).trans (teq hc2).1) (by decide) (by decide) k) ?_
      show own_G p.tables e below _ (s₁.setTop (mkF m 25 #[.val (.long q1), .second, .val (.int p2), .val (.long q3), .second, .val (.int p4), .val (.int p5), .val (.long wb), .second, .unset, .unset, .unset] []))
      refine own_step (fun t k => XS.iload X0.here hx rfl (hb hby at_25) rfl k) ?_
      show own_G p.tables e below _ (s₁.setTop (mkF m 27 #[.val (.long q1), .second, .val (.int p2), .val (.long q3), .second, .val (.int p4), .val (.int p5), .val (.long wb), .second, .unset, .unset, .unset] [(.int p4)]))
      exact k0
    · simp only [if_neg hc2] at k0
      refine own_step (fun t k => XS.ifNo X0.here hx rfl (hb hby at_18) rfl ((if0 _ _).trans (feq hc2).1) k) ?_
      show own_G p.tables e below _ (s₁.setTop (mkF m 21 #[.val (.long q1), .second, .val (.int p2), .val (.long q3), .second, .val (.int p4), .val (.int p5), .val (.long wb), .second, .unset, .unset, .unset] []))
      refine own_step (fun t k => XS.iloadN X0.here hx rfl (hb hby at_21) rfl k) ?_
      show own_G p.tables e below _ (s₁.setTop (mkF m 22 #[.val (.long q1), .second, .val (.int p2), .val (.long q3), .second, .val (.int p4), .val (.int p5), .val (.long wb), .second, .unset, .unset, .unset] [(.int p2)]))
      refine own_step (fun t k => XS.goto X0.here hx rfl (pc0 := 22) (pc' := 27) rfl (hb hby at_22) (by decide) (by decide) k) ?_
      show own_G p.tables e below _ (s₁.setTop (mkF m 27 #[.val (.long q1), .second, .val (.int p2), .val (.long q3), .second, .val (.int p4), .val (.int p5), .val (.long wb), .second, .unset, .unset, .unset] [(.int p2)]))
      exact k0
  show own_G p.tables e below _ (s₁.setTop (mkF m 27 #[.val (.long q1), .second, .val (.int p2), .val (.long q3), .second, .val (.int p4), .val (.int p5), .val (.long wb), .second, .unset, .unset, .unset] [(.int (if (p5 &&& (2 : Int32)) = (0 : Int32) then p4 else p2))]))
  refine own_nm ((if (p5 &&& (2 : Int32)) = (0 : Int32) then p4 else p2) : Int32) (fun bb => s₁.setTop (mkF m 27 #[.val (.long q1), .second, .val (.int p2), .val (.long q3), .second, .val (.int p4), .val (.int p5), .val (.long wb), .second, .unset, .unset, .unset] [(.int bb)])) ?_
  intro bb hd_bb
  show own_G p.tables e below _ (s₁.setTop (mkF m 27 #[.val (.long q1), .second, .val (.int p2), .val (.long q3), .second, .val (.int p4), .val (.int p5), .val (.long wb), .second, .unset, .unset, .unset] [(.int bb)]))
  refine own_step (fun t k => XS.istore X0.here hx rfl (hb hby at_27) rfl (l' := #[.val (.long q1), .second, .val (.int p2), .val (.long q3), .second, .val (.int p4), .val (.int p5), .val (.long wb), .second, .val (.int bb), .unset, .unset]) rfl k) ?_
  show own_G p.tables e below _ (s₁.setTop (mkF m 29 #[.val (.long q1), .second, .val (.int p2), .val (.long q3), .second, .val (.int p4), .val (.int p5), .val (.long wb), .second, .val (.int bb), .unset, .unset] []))
  refine own_step (fun t k => XS.lloadN X0.here hx rfl (hb hby at_29) rfl k) ?_
  show own_G p.tables e below _ (s₁.setTop (mkF m 30 #[.val (.long q1), .second, .val (.int p2), .val (.long q3), .second, .val (.int p4), .val (.int p5), .val (.long wb), .second, .val (.int bb), .unset, .unset] [(.long q1)]))
  refine own_step (fun t k => XS.iloadN X0.here hx rfl (hb hby at_30) rfl k) ?_
  show own_G p.tables e below _ (s₁.setTop (mkF m 31 #[.val (.long q1), .second, .val (.int p2), .val (.long q3), .second, .val (.int p4), .val (.int p5), .val (.long wb), .second, .val (.int bb), .unset, .unset] [(.int p2), (.long q1)]))
  refine own_step (fun t k => XS.lload X0.here hx rfl (hb hby at_31) rfl k) ?_
  show own_G p.tables e below _ (s₁.setTop (mkF m 33 #[.val (.long q1), .second, .val (.int p2), .val (.long q3), .second, .val (.int p4), .val (.int p5), .val (.long wb), .second, .val (.int bb), .unset, .unset] [(.long wb), (.int p2), (.long q1)]))
  refine own_step (fun t k => XS.iload X0.here hx rfl (hb hby at_33) rfl k) ?_
  show own_G p.tables e below _ (s₁.setTop (mkF m 35 #[.val (.long q1), .second, .val (.int p2), .val (.long q3), .second, .val (.int p4), .val (.int p5), .val (.long wb), .second, .val (.int bb), .unset, .unset] [(.int bb), (.long wb), (.int p2), (.long q1)]))
  obtain ⟨_, _, ⟨T3, L3, k3, n3⟩, -, X3, ⟨Lc3, hQ3, l3, y3, z3⟩, st3⟩ := Jvm.LawKit.callS X0 hx (y := (⟨"com/example/leafcode/leafcode/NodeQueue", "precedes", "(JIJI)Z"⟩ : MethodName)) hown (mvT hZ (hw _ (List.mem_of_getElem? (i := 0) rfl))) (mvT hZ (hw _ (List.mem_of_getElem? (i := 1) rfl))) (mvT hZ (hw _ (List.mem_of_getElem? (i := 2) rfl))) (mvT hZ (hw _ (List.mem_of_getElem? (i := 3) rfl))) (by decide) (backOf (W := 0) (rm1 l Z a0 hw [] q1 p2 wb bb h0 n0 (Nat.le_trans Z0 (Keep.refl h0 []).1) ) hZ (hw _ (List.mem_of_getElem? (i := 3) rfl)) (hw _ (List.mem_of_getElem? (i := 2) rfl)) (by decide) (by decide)) (g := (mkF m 35 #[.val (.long q1), .second, .val (.int p2), .val (.long q3), .second, .val (.int p4), .val (.int p5), .val (.long wb), .second, .val (.int bb), .unset, .unset] [(.int bb), (.long wb), (.int p2), (.long q1)])) rfl (by rw [hml]; rfl) (argsL := [(.long q1), (.int p2), (.long wb), (.int bb)]) (rest := []) (lenOf pd_0_0 rfl) rfl (by show 2 * 0 + _ ≤ _; exact Nat.le_of_eq rfl) (hb hby at_35) (fun _ _ => ⟨rfl, e0, (by decide : 0 + 0 ≤ _), (by decide : 0 + 0 ≤ _)⟩)
  dsimp only [Pt.U, Pt.locs, Pt.cells, Pt.slots] at X3 l3 y3 z3 st3 hQ3
  subst l3 y3 z3
  obtain ⟨rfl, N3q, e3⟩ := hQ3
  have N3 := Fr.app N0 N3q
  refine own_step st3 ?_
  show own_G p.tables e below _ (T3.setTop (mkF m 38 #[.val (.long q1), .second, .val (.int p2), .val (.long q3), .second, .val (.int p4), .val (.int p5), .val (.long wb), .second, .val (.int bb), .unset, .unset] [(.int (own_f1 q1 p2 wb bb))]))
  refine own_step (fun t k => XS.istore X3.here hx rfl (hb hby at_38) rfl (l' := #[.val (.long q1), .second, .val (.int p2), .val (.long q3), .second, .val (.int p4), .val (.int p5), .val (.long wb), .second, .val (.int bb), .val (.int (own_f1 q1 p2 wb bb)), .unset]) rfl k) ?_
  show own_G p.tables e below _ (T3.setTop (mkF m 40 #[.val (.long q1), .second, .val (.int p2), .val (.long q3), .second, .val (.int p4), .val (.int p5), .val (.long wb), .second, .val (.int bb), .val (.int (own_f1 q1 p2 wb bb)), .unset] []))
  refine own_step (fun t k => XS.lload X3.here hx rfl (hb hby at_40) rfl k) ?_
  show own_G p.tables e below _ (T3.setTop (mkF m 42 #[.val (.long q1), .second, .val (.int p2), .val (.long q3), .second, .val (.int p4), .val (.int p5), .val (.long wb), .second, .val (.int bb), .val (.int (own_f1 q1 p2 wb bb)), .unset] [(.long wb)]))
  refine own_step (fun t k => XS.iload X3.here hx rfl (hb hby at_42) rfl k) ?_
  show own_G p.tables e below _ (T3.setTop (mkF m 44 #[.val (.long q1), .second, .val (.int p2), .val (.long q3), .second, .val (.int p4), .val (.int p5), .val (.long wb), .second, .val (.int bb), .val (.int (own_f1 q1 p2 wb bb)), .unset] [(.int bb), (.long wb)]))
  refine own_step (fun t k => XS.lloadN X3.here hx rfl (hb hby at_44) rfl k) ?_
  show own_G p.tables e below _ (T3.setTop (mkF m 45 #[.val (.long q1), .second, .val (.int p2), .val (.long q3), .second, .val (.int p4), .val (.int p5), .val (.long wb), .second, .val (.int bb), .val (.int (own_f1 q1 p2 wb bb)), .unset] [(.long q1), (.int bb), (.long wb)]))
  refine own_step (fun t k => XS.iloadN X3.here hx rfl (hb hby at_45) rfl k) ?_
  show own_G p.tables e below _ (T3.setTop (mkF m 46 #[.val (.long q1), .second, .val (.int p2), .val (.long q3), .second, .val (.int p4), .val (.int p5), .val (.long wb), .second, .val (.int bb), .val (.int (own_f1 q1 p2 wb bb)), .unset] [(.int p2), (.long q1), (.int bb), (.long wb)]))
  obtain ⟨_, _, ⟨T4, L4, k4, n4⟩, -, X4, ⟨Lc4, hQ4, l4, y4, z4⟩, st4⟩ := Jvm.LawKit.callS X3 hx (y := (⟨"com/example/leafcode/leafcode/NodeQueue", "precedes", "(JIJI)Z"⟩ : MethodName)) hown (mvT hZ (hw _ (List.mem_of_getElem? (i := 0) rfl))) (mvT hZ (hw _ (List.mem_of_getElem? (i := 1) rfl))) (mvT hZ (hw _ (List.mem_of_getElem? (i := 2) rfl))) (mvT hZ (hw _ (List.mem_of_getElem? (i := 3) rfl))) (by decide) (backOf (W := 0) (rm1 l Z a0 hw [] wb bb q1 p2 h0 n0 (Nat.le_trans Z0 (Keep.refl h0 []).1) ) hZ (hw _ (List.mem_of_getElem? (i := 3) rfl)) (hw _ (List.mem_of_getElem? (i := 2) rfl)) (by decide) (by decide)) (g := (mkF m 46 #[.val (.long q1), .second, .val (.int p2), .val (.long q3), .second, .val (.int p4), .val (.int p5), .val (.long wb), .second, .val (.int bb), .val (.int (own_f1 q1 p2 wb bb)), .unset] [(.int p2), (.long q1), (.int bb), (.long wb)])) rfl (by rw [hml]; rfl) (argsL := [(.long wb), (.int bb), (.long q1), (.int p2)]) (rest := []) (lenOf pd_0_0 rfl) rfl (by show 2 * 0 + _ ≤ _; exact Nat.le_of_eq rfl) (hb hby at_46) (fun _ _ => ⟨rfl, e3, (by decide : 0 + 0 ≤ _), (by decide : 0 + 0 ≤ _)⟩)
  dsimp only [Pt.U, Pt.locs, Pt.cells, Pt.slots] at X4 l4 y4 z4 st4 hQ4
  subst l4 y4 z4
  obtain ⟨rfl, N4q, e4⟩ := hQ4
  have N4 := Fr.app N3 N4q
  refine own_step st4 ?_
  show own_G p.tables e below _ (T4.setTop (mkF m 49 #[.val (.long q1), .second, .val (.int p2), .val (.long q3), .second, .val (.int p4), .val (.int p5), .val (.long wb), .second, .val (.int bb), .val (.int (own_f1 q1 p2 wb bb)), .unset] [(.int (own_f1 wb bb q1 p2))]))
  refine own_step (fun t k => XS.istore X4.here hx rfl (hb hby at_49) rfl (l' := #[.val (.long q1), .second, .val (.int p2), .val (.long q3), .second, .val (.int p4), .val (.int p5), .val (.long wb), .second, .val (.int bb), .val (.int (own_f1 q1 p2 wb bb)), .val (.int (own_f1 wb bb q1 p2))]) rfl k) ?_
  show own_G p.tables e below _ (T4.setTop (mkF m 51 #[.val (.long q1), .second, .val (.int p2), .val (.long q3), .second, .val (.int p4), .val (.int p5), .val (.long wb), .second, .val (.int bb), .val (.int (own_f1 q1 p2 wb bb)), .val (.int (own_f1 wb bb q1 p2))] []))
  refine own_step (fun t k => XS.iload X4.here hx rfl (hb hby at_51) rfl k) ?_
  show own_G p.tables e below _ (T4.setTop (mkF m 53 #[.val (.long q1), .second, .val (.int p2), .val (.long q3), .second, .val (.int p4), .val (.int p5), .val (.long wb), .second, .val (.int bb), .val (.int (own_f1 q1 p2 wb bb)), .val (.int (own_f1 wb bb q1 p2))] [(.int (own_f1 q1 p2 wb bb))]))
  refine own_step (fun t k => XS.lloadN X4.here hx rfl (hb hby at_53) rfl k) ?_
  show own_G p.tables e below _ (T4.setTop (mkF m 54 #[.val (.long q1), .second, .val (.int p2), .val (.long q3), .second, .val (.int p4), .val (.int p5), .val (.long wb), .second, .val (.int bb), .val (.int (own_f1 q1 p2 wb bb)), .val (.int (own_f1 wb bb q1 p2))] [(.long q1), (.int (own_f1 q1 p2 wb bb))]))
  refine own_step (fun t k => XS.iloadN X4.here hx rfl (hb hby at_54) rfl k) ?_
  show own_G p.tables e below _ (T4.setTop (mkF m 55 #[.val (.long q1), .second, .val (.int p2), .val (.long q3), .second, .val (.int p4), .val (.int p5), .val (.long wb), .second, .val (.int bb), .val (.int (own_f1 q1 p2 wb bb)), .val (.int (own_f1 wb bb q1 p2))] [(.int p2), (.long q1), (.int (own_f1 q1 p2 wb bb))]))
  refine own_step (fun t k => XS.lload X4.here hx rfl (hb hby at_55) rfl k) ?_
  show own_G p.tables e below _ (T4.setTop (mkF m 57 #[.val (.long q1), .second, .val (.int p2), .val (.long q3), .second, .val (.int p4), .val (.int p5), .val (.long wb), .second, .val (.int bb), .val (.int (own_f1 q1 p2 wb bb)), .val (.int (own_f1 wb bb q1 p2))] [(.long wb), (.int p2), (.long q1), (.int (own_f1 q1 p2 wb bb))]))
  refine own_step (fun t k => XS.iload X4.here hx rfl (hb hby at_57) rfl k) ?_
  show own_G p.tables e below _ (T4.setTop (mkF m 59 #[.val (.long q1), .second, .val (.int p2), .val (.long q3), .second, .val (.int p4), .val (.int p5), .val (.long wb), .second, .val (.int bb), .val (.int (own_f1 q1 p2 wb bb)), .val (.int (own_f1 wb bb q1 p2))] [(.int bb), (.long wb), (.int p2), (.long q1), (.int (own_f1 q1 p2 wb bb))]))
  obtain ⟨_, _, ⟨T5, L5, k5, n5⟩, -, X5, ⟨Lc5, hQ5, l5, y5, z5⟩, st5⟩ := Jvm.LawKit.callS X4 hx (y := (⟨"com/example/leafcode/leafcode/NodeQueuePrecedesPinLaw", "expected", "(JIJI)Z"⟩ : MethodName)) hown (mvT hZ (hw _ (List.mem_of_getElem? (i := 4) rfl))) (mvT hZ (hw _ (List.mem_of_getElem? (i := 5) rfl))) (mvT hZ (hw _ (List.mem_of_getElem? (i := 6) rfl))) (mvT hZ (hw _ (List.mem_of_getElem? (i := 7) rfl))) (by decide) (backOf (W := 1) (rm2 l Z a0 hw [] q1 p2 wb bb h0 n0 (Nat.le_trans Z0 (Keep.refl h0 []).1) ) hZ (hw _ (List.mem_of_getElem? (i := 7) rfl)) (hw _ (List.mem_of_getElem? (i := 6) rfl)) (by decide) (by decide)) (g := (mkF m 59 #[.val (.long q1), .second, .val (.int p2), .val (.long q3), .second, .val (.int p4), .val (.int p5), .val (.long wb), .second, .val (.int bb), .val (.int (own_f1 q1 p2 wb bb)), .val (.int (own_f1 wb bb q1 p2))] [(.int bb), (.long wb), (.int p2), (.long q1), (.int (own_f1 q1 p2 wb bb))])) rfl (by rw [hml]; rfl) (argsL := [(.long q1), (.int p2), (.long wb), (.int bb)]) (rest := [(.int (own_f1 q1 p2 wb bb))]) (lenOf pd_0_0 rfl) rfl (by show 2 * 0 + _ ≤ _; exact Nat.le_of_eq rfl) (hb hby at_59) (fun _ _ => ⟨rfl, e4, (by decide : 0 + 0 ≤ _), (by decide : 0 + 0 ≤ _)⟩)
  dsimp only [Pt.U, Pt.locs, Pt.cells, Pt.slots] at X5 l5 y5 z5 st5 hQ5
  subst l5 y5 z5
  obtain ⟨rfl, N5q, e5⟩ := hQ5
  have N5 := Fr.app N4 N5q
  refine own_step st5 ?_
  show own_G p.tables e below _ (T5.setTop (mkF m 62 #[.val (.long q1), .second, .val (.int p2), .val (.long q3), .second, .val (.int p4), .val (.int p5), .val (.long wb), .second, .val (.int bb), .val (.int (own_f1 q1 p2 wb bb)), .val (.int (own_f1 wb bb q1 p2))] [(.int (own_f2 q1 p2 wb bb)), (.int (own_f1 q1 p2 wb bb))]))
  have hk6 : (own_f1 q1 p2 wb bb) = (own_f2 q1 p2 wb bb) := own_eq _ _ _ _
  refine own_step (fun t k => XS.icmpNo X5.here hx rfl (hb hby at_62) rfl ((teq hk6).2) k) ?_
  show own_G p.tables e below _ (T5.setTop (mkF m 65 #[.val (.long q1), .second, .val (.int p2), .val (.long q3), .second, .val (.int p4), .val (.int p5), .val (.long wb), .second, .val (.int bb), .val (.int (own_f1 q1 p2 wb bb)), .val (.int (own_f1 wb bb q1 p2))] []))
  refine own_step (fun t k => XS.iload X5.here hx rfl (hb hby at_65) rfl k) ?_
  show own_G p.tables e below _ (T5.setTop (mkF m 67 #[.val (.long q1), .second, .val (.int p2), .val (.long q3), .second, .val (.int p4), .val (.int p5), .val (.long wb), .second, .val (.int bb), .val (.int (own_f1 q1 p2 wb bb)), .val (.int (own_f1 wb bb q1 p2))] [(.int (own_f1 wb bb q1 p2))]))
  refine own_step (fun t k => XS.lload X5.here hx rfl (hb hby at_67) rfl k) ?_
  show own_G p.tables e below _ (T5.setTop (mkF m 69 #[.val (.long q1), .second, .val (.int p2), .val (.long q3), .second, .val (.int p4), .val (.int p5), .val (.long wb), .second, .val (.int bb), .val (.int (own_f1 q1 p2 wb bb)), .val (.int (own_f1 wb bb q1 p2))] [(.long wb), (.int (own_f1 wb bb q1 p2))]))
  refine own_step (fun t k => XS.iload X5.here hx rfl (hb hby at_69) rfl k) ?_
  show own_G p.tables e below _ (T5.setTop (mkF m 71 #[.val (.long q1), .second, .val (.int p2), .val (.long q3), .second, .val (.int p4), .val (.int p5), .val (.long wb), .second, .val (.int bb), .val (.int (own_f1 q1 p2 wb bb)), .val (.int (own_f1 wb bb q1 p2))] [(.int bb), (.long wb), (.int (own_f1 wb bb q1 p2))]))
  refine own_step (fun t k => XS.lloadN X5.here hx rfl (hb hby at_71) rfl k) ?_
  show own_G p.tables e below _ (T5.setTop (mkF m 72 #[.val (.long q1), .second, .val (.int p2), .val (.long q3), .second, .val (.int p4), .val (.int p5), .val (.long wb), .second, .val (.int bb), .val (.int (own_f1 q1 p2 wb bb)), .val (.int (own_f1 wb bb q1 p2))] [(.long q1), (.int bb), (.long wb), (.int (own_f1 wb bb q1 p2))]))
  refine own_step (fun t k => XS.iloadN X5.here hx rfl (hb hby at_72) rfl k) ?_
  show own_G p.tables e below _ (T5.setTop (mkF m 73 #[.val (.long q1), .second, .val (.int p2), .val (.long q3), .second, .val (.int p4), .val (.int p5), .val (.long wb), .second, .val (.int bb), .val (.int (own_f1 q1 p2 wb bb)), .val (.int (own_f1 wb bb q1 p2))] [(.int p2), (.long q1), (.int bb), (.long wb), (.int (own_f1 wb bb q1 p2))]))
  obtain ⟨_, _, ⟨T7, L7, k7, n7⟩, -, X7, ⟨Lc7, hQ7, l7, y7, z7⟩, st7⟩ := Jvm.LawKit.callS X5 hx (y := (⟨"com/example/leafcode/leafcode/NodeQueuePrecedesPinLaw", "expected", "(JIJI)Z"⟩ : MethodName)) hown (mvT hZ (hw _ (List.mem_of_getElem? (i := 4) rfl))) (mvT hZ (hw _ (List.mem_of_getElem? (i := 5) rfl))) (mvT hZ (hw _ (List.mem_of_getElem? (i := 6) rfl))) (mvT hZ (hw _ (List.mem_of_getElem? (i := 7) rfl))) (by decide) (backOf (W := 1) (rm2 l Z a0 hw [] wb bb q1 p2 h0 n0 (Nat.le_trans Z0 (Keep.refl h0 []).1) ) hZ (hw _ (List.mem_of_getElem? (i := 7) rfl)) (hw _ (List.mem_of_getElem? (i := 6) rfl)) (by decide) (by decide)) (g := (mkF m 73 #[.val (.long q1), .second, .val (.int p2), .val (.long q3), .second, .val (.int p4), .val (.int p5), .val (.long wb), .second, .val (.int bb), .val (.int (own_f1 q1 p2 wb bb)), .val (.int (own_f1 wb bb q1 p2))] [(.int p2), (.long q1), (.int bb), (.long wb), (.int (own_f1 wb bb q1 p2))])) rfl (by rw [hml]; rfl) (argsL := [(.long wb), (.int bb), (.long q1), (.int p2)]) (rest := [(.int (own_f1 wb bb q1 p2))]) (lenOf pd_0_0 rfl) rfl (by show 2 * 0 + _ ≤ _; exact Nat.le_of_eq rfl) (hb hby at_73) (fun _ _ => ⟨rfl, e5, (by decide : 0 + 0 ≤ _), (by decide : 0 + 0 ≤ _)⟩)
  dsimp only [Pt.U, Pt.locs, Pt.cells, Pt.slots] at X7 l7 y7 z7 st7 hQ7
  subst l7 y7 z7
  obtain ⟨rfl, N7q, e7⟩ := hQ7
  have N7 := Fr.app N5 N7q
  refine own_step st7 ?_
  show own_G p.tables e below _ (T7.setTop (mkF m 76 #[.val (.long q1), .second, .val (.int p2), .val (.long q3), .second, .val (.int p4), .val (.int p5), .val (.long wb), .second, .val (.int bb), .val (.int (own_f1 q1 p2 wb bb)), .val (.int (own_f1 wb bb q1 p2))] [(.int (own_f2 wb bb q1 p2)), (.int (own_f1 wb bb q1 p2))]))
  have hk8 : (own_f1 wb bb q1 p2) = (own_f2 wb bb q1 p2) := own_eq _ _ _ _
  refine own_step (fun t k => XS.icmpNo X7.here hx rfl (hb hby at_76) rfl ((teq hk8).2) k) ?_
  show own_G p.tables e below _ (T7.setTop (mkF m 79 #[.val (.long q1), .second, .val (.int p2), .val (.long q3), .second, .val (.int p4), .val (.int p5), .val (.long wb), .second, .val (.int bb), .val (.int (own_f1 q1 p2 wb bb)), .val (.int (own_f1 wb bb q1 p2))] []))
  refine own_step (fun t k => XS.iconst X7.here hx rfl (hb hby at_79) k) ?_
  show own_G p.tables e below _ (T7.setTop (mkF m 80 #[.val (.long q1), .second, .val (.int p2), .val (.long q3), .second, .val (.int p4), .val (.int p5), .val (.long wb), .second, .val (.int bb), .val (.int (own_f1 q1 p2 wb bb)), .val (.int (own_f1 wb bb q1 p2))] [(.int (1 : Int32))]))
  refine own_step (fun t k => XS.goto X7.here hx rfl (pc0 := 80) (pc' := 84) rfl (hb hby at_80) (by decide) (by decide) k) ?_
  show own_G p.tables e below _ (T7.setTop (mkF m 84 #[.val (.long q1), .second, .val (.int p2), .val (.long q3), .second, .val (.int p4), .val (.int p5), .val (.long wb), .second, .val (.int bb), .val (.int (own_f1 q1 p2 wb bb)), .val (.int (own_f1 wb bb q1 p2))] [(.int (1 : Int32))]))
  obtain ⟨fs, hr, hrun, hended, hW, hsame⟩ := X7.leave (v := some (.int (1 : Int32))) (fun h => by rw [Bd.returns] at h; cases h)
  refine own_done (retN X7 hx (t := .boolean) Bd.returns (by simp) (hb hby at_84) hr) hrun hended ⟨_, _, rfl, ?_, ⟨_, rfl⟩, hW, hsame.mono (by decide) (by decide)⟩
  show Q0 Z q1 p2 q3 p4 p5 h0 n0 _ T7.heap _
  rw [e7]
  exact ⟨rfl, N7⟩
set_option maxRecDepth 65536 in
set_option maxHeartbeats 40000000 in
theorem comes_1 {Post : Tables → Env → Array Value → State → Outcome → State → Prop} (hpost : ∀ tb e args s v u, (limb_1_1.after args s (.returned v) u = true ∧ limb_1_2.after args s (.returned v) u = true ∧ True) → FrameEnd s (.returned v) u (Jvm.fieldLocs frame_1_writes args s ++ Jvm.arrayLocs frame_1_arrays args s ++ Jvm.staticLocs frame_1_statics s) 0 0 → Post tb e args s (.returned v) u) :
    ArmFor flags0 classFile x code maxLocals ret World_1 tables_1 room_1 Calls_1 rest_1 Pre_1 Post := by
  intro l hfl _ _ p e ha hc hk s m args below hf hA hF happ hP
  obtain ⟨hcalls, hrest, hpre⟩ := hP
  obtain ⟨-, -, -, hnamed, -, -, -, hat⟩ := (Spec.applies_iff hf).mp happ
  obtain ⟨hg, hn⟩ := and_e (Cond.before_iff.mp (show (Jvm.Cond.and given_1 narrow_1).before args s = true from hpre))
  obtain ⟨g1, g2⟩ := and_e hg
  obtain ⟨g3, g4⟩ := and_e g2
  obtain ⟨g5, g6⟩ := and_e g4
  obtain ⟨g7, g8⟩ := and_e g6
  obtain ⟨g9, g10⟩ := and_e g8
  obtain ⟨w0, w1, w2, w3, w4, rfl⟩ : ∃ w0 w1 w2 w3 w4 : Value, args = #[w0, w1, w2, w3, w4] := by
    have hs : args.size = 5 := by simpa [Cond.value, given_1] using g1
    obtain ⟨L⟩ := args
    match L, hs with
    | [w0, w1, w2, w3, w4], _ => exact ⟨w0, w1, w2, w3, w4, rfl⟩
  have hw := fun d (hd : d ∈ tables_1) => atoms_spec (ws := Jvm.Cond.code x code maxLocals ret :: tables_1) hat d (List.mem_cons_of_mem _ hd)
  obtain ⟨i0, ei0⟩ := isL_v g3
  obtain rfl : w0 = (.long i0) := Option.some.inj ei0
  obtain ⟨i1, ei1⟩ := is_v g5
  obtain rfl : w1 = (.int i1) := Option.some.inj ei1
  obtain ⟨i2, ei2⟩ := isL_v g7
  obtain rfl : w2 = (.long i2) := Option.some.inj ei2
  obtain ⟨i3, ei3⟩ := is_v g9
  obtain rfl : w3 = (.int i3) := Option.some.inj ei3
  obtain ⟨i4, ei4⟩ := is_v g10
  obtain rfl : w4 = (.int i4) := Option.some.inj ei4
  obtain ⟨n, o, h1, h2, h3, _, L, rfl, ⟨rfl, N⟩, hq⟩ := rm0 l s _ hw tables_1 i0 i1 i2 i3 i4 s.heap s.heap.size (Nat.le_refl _)  p e ha hc hk s m _ below hf ((Spec.applies_iff_loose hf).mp happ).1 ⟨rfl, State.Warmed39.refl s, rfl⟩ trivial
  refine ⟨n, _, h1, h2, h3, hpost _ _ _ _ _ _ ⟨Cond.after_iff.mpr rfl, Cond.after_iff.mpr (eq_i res_at (Term.int_eval (1)) rfl), trivial⟩ ⟨hq.1, hq.2.1, (hq.2.2.sift fun y hy => Or.inr (N y hy)).mono (by decide) (by decide)⟩⟩
theorem main_1_1 : Claimed_1_1 := comes_1 fun _ _ _ _ _ _ h hF => ⟨h.1, hF⟩
theorem main_1_2 : Claimed_1_2 := comes_1 fun _ _ _ _ _ _ h hF => ⟨h.2.1, hF⟩
end Jvm.Pilot.@@N@@
namespace Jvm.Pilot.@@N@@
open Jvm Jvm.ClassFile Sem Op Lib Jvm.Free Jvm.Stand Jvm.Pilot.@@N@@.Jvm.D
/-! MADE BY PROGRAM (witnessworld.py) out of the Statement's table words and the real class files: 9 classes; the members and pool entries that the words name. The judged class is class 1, her method 1. -/
namespace start1
open Jvm.ClassFile
def u (s : String) : CpInfo := .utf8 (stringToUtf16 s)
/-- a pool by its gaps: so many unusable entries, then the entry; so many at the end -/
def gap : Nat → List CpInfo → List CpInfo
  | 0, r => r
  | n + 1, r => .unusable :: gap n r
def poolList (es : List (Nat × CpInfo)) (last : Nat) : List CpInfo := es.foldr (fun e r => gap e.1 (e.2 :: r)) (gap last [])
def pool (es : List (Nat × CpInfo)) (last : Nat) : Array CpInfo := ⟨poolList es last⟩
def fileOf (pool : Array CpInfo) (this : Nat) (attrs : Array Attribute := #[]) (ms : Array MethodInfo := #[]) (fl : Nat := 33) (sup : Nat := 0) (ifs : Array Nat := #[]) (fds : Array FieldInfo := #[]) : ClassFile where
  minorVersion := 0
  majorVersion := 65
  constantPool := pool
  accessFlags := fl
  thisClass := this
  superClass := sup
  interfaces := ifs
  fields := fds
  methods := ms
  attributes := attrs
def plain (name : String) (sup : Option ClassId) : Class where
  name := name
  kind := .ordinary
  loader := none
  accessFlags := 33
  super := sup
  interfaces := #[]
  cf := none
  fields := #[]
  methods := #[]
  instanceTypes := #[]
  staticTypes := #[]
  resolved := #[]
  callSites := []
  init := .initialized
  statics := none
  mirror := none

def pool0 : Array CpInfo := pool [(5, u "<init>"), (0, u "()V"), (1, .class_ 10), (1, u "java/lang/Object")] 113

def k0m0 : Method := { name := "<init>", desc := "()V", sig := { parameters := [], returnType := none }, accessFlags := 1, code := none }
/-- java/lang/Object -/
def k0 : Class := { plain "java/lang/Object" none with
  accessFlags := 33
  interfaces := #[]
  cf := some (fileOf pool0 8 #[] #[{ accessFlags := 1, nameIndex := 5, descriptorIndex := 6, attributes := #[] }] 33 0 #[] #[])
  fields := #[]
  methods := #[k0m0]
  instanceTypes := #[]
  staticTypes := #[]
  resolved := Array.replicate 124 none
  statics := none }

def pool1 : Array CpInfo := pool [(2, .class_ 4), (1, u "java/lang/Object"), (0, u "<init>"), (0, u "()V"), (0, .interfaceMethodref 8 9), (0, .class_ 10), (0, .nameAndType 11 12), (0, u "com/example/leafcode/leafcode/NodeQueue"), (0, u "precedes"), (0, u "(JIJI)Z"), (0, .methodref 14 15), (0, .class_ 16), (0, .nameAndType 17 12), (0, u "com/example/leafcode/leafcode/NodeQueuePrecedesPinLaw"), (0, u "expected"), (2, u "law"), (0, u "(JIJII)Z")] 3

def k1m0 : Method := { name := "<init>", desc := "()V", sig := { parameters := [], returnType := none }, accessFlags := 1, code := none }
def k1c1 : Code := { maxStack := 7, maxLocals := 12, code := code, exceptionTable := #[], attributes := #[] }
def k1m1 : Method := { name := "law", desc := "(JIJII)Z", sig := { parameters := [.long, .int, .long, .int, .int], returnType := some .boolean }, accessFlags := 9, code := some k1c1 }
def k1c2 : Code := { maxStack := 4, maxLocals := 6, code := method_3_code, exceptionTable := #[], attributes := #[] }
def k1m2 : Method := { name := "expected", desc := "(JIJI)Z", sig := { parameters := [.long, .int, .long, .int], returnType := some .boolean }, accessFlags := 10, code := some k1c2 }
/-- com/example/leafcode/leafcode/NodeQueuePrecedesPinLaw -/
def k1 : Class := { plain "com/example/leafcode/leafcode/NodeQueuePrecedesPinLaw" (some 0) with
  accessFlags := 49
  interfaces := #[]
  cf := some (fileOf pool1 14 #[] #[{ accessFlags := 1, nameIndex := 5, descriptorIndex := 6, attributes := #[] }, { accessFlags := 9, nameIndex := 20, descriptorIndex := 21, attributes := #[] }, { accessFlags := 10, nameIndex := 17, descriptorIndex := 12, attributes := #[] }] 49 2 #[] #[])
  fields := #[]
  methods := #[k1m0, k1m1, k1m2]
  instanceTypes := #[]
  staticTypes := #[]
  resolved := Array.replicate 25 none
  statics := none }

def pool2 : Array CpInfo := pool [(1, .class_ 2), (0, u "com/example/leafcode/leafcode/NodeQueue"), (0, .class_ 4), (0, u "java/lang/Object"), (6, u "precedes"), (0, u "(JIJI)Z")] 5

def k2c0 : Code := { maxStack := 4, maxLocals := 6, code := prog_34_method_4_code, exceptionTable := #[], attributes := #[] }
def k2m0 : Method := { name := "precedes", desc := "(JIJI)Z", sig := { parameters := [.long, .int, .long, .int], returnType := some .boolean }, accessFlags := 9, code := some k2c0 }
/-- com/example/leafcode/leafcode/NodeQueue -/
def k2 : Class := { plain "com/example/leafcode/leafcode/NodeQueue" (some 0) with
  accessFlags := 1536
  interfaces := #[]
  cf := some (fileOf pool2 1 #[] #[{ accessFlags := 9, nameIndex := 11, descriptorIndex := 12, attributes := #[] }] 1536 3 #[] #[])
  fields := #[]
  methods := #[k2m0]
  instanceTypes := #[]
  staticTypes := #[]
  resolved := Array.replicate 18 none
  statics := none }

def pool3 : Array CpInfo := pool [(1, u "java/lang/Cloneable"), (0, .class_ 1), (0, u "java/lang/Object"), (0, .class_ 3)] 3

/-- java/lang/Cloneable -/
def k3 : Class := { plain "java/lang/Cloneable" (some 0) with
  accessFlags := 1537
  interfaces := #[]
  cf := some (fileOf pool3 2 #[] #[] 1537 4 #[] #[])
  fields := #[]
  methods := #[]
  instanceTypes := #[]
  staticTypes := #[]
  resolved := Array.replicate 8 none
  statics := none }

def pool4 : Array CpInfo := pool [(1, u "java/io/Serializable"), (0, .class_ 1), (0, u "java/lang/Object"), (0, .class_ 3)] 3

/-- java/io/Serializable -/
def k4 : Class := { plain "java/io/Serializable" (some 0) with
  accessFlags := 1537
  interfaces := #[]
  cf := some (fileOf pool4 2 #[] #[] 1537 4 #[] #[])
  fields := #[]
  methods := #[]
  instanceTypes := #[]
  staticTypes := #[]
  resolved := Array.replicate 8 none
  statics := none }

/-- the primitive byte -/
def k5 : Class := { plain "byte" none with kind := .primitive 'B', accessFlags := 0x411 }
/-- [B -/
def k6 : Class := { plain "[B" (some 0) with kind := .array 5 .byte, interfaces := #[3, 4], accessFlags := 1041 }

/-- the primitive int -/
def k7 : Class := { plain "int" none with kind := .primitive 'I', accessFlags := 0x411 }
/-- [I -/
def k8 : Class := { plain "[I" (some 0) with kind := .array 7 .int, interfaces := #[3, 4], accessFlags := 1041 }

def heap : Heap := #[]
def classes : Array Class := #[k0, k1, k2, k3, k4, k5, k6, k7, k8]
def interned : List (Array UInt16 × Addr) := []
def slotsUsed : Nat := 0
def theMethod : MethodId := ⟨1, 1⟩
def args0 : Array Value := #[.long 5, .int 1, .long 7, .int 2, .int 3]
def aboutOver (below : List Frame) : State where
  vm := { classes := classes, interned := interned.toArray }
  heap := heap
  slotsUsed := slotsUsed
  threads := #[{ frames := .invoking theMethod args0 :: below }]
def below0 : List Frame := [.native { method := ⟨0, 0⟩, args := #[] }]
def about1 : State := aboutOver below0
def p0 : Program := .bare "" "" ""
def e0 : Env := launch0.env 0 0 0
theorem w_frames : about1.frames = Frame.invoking theMethod args0 :: below0 := rfl
set_option maxRecDepth 65536 in
theorem w_args : argsFit about1.vm theMethod args0 = true := by decide +kernel
set_option maxRecDepth 65536 in
theorem w_heap : heapFits about1 = true := by decide +kernel
set_option maxRecDepth 65536 in
theorem w_runnable : about1.curStatus? = some .runnable := by decide +kernel
set_option maxRecDepth 65536 in
theorem w_alone : about1.alone = true := by decide +kernel
set_option maxRecDepth 65536 in
theorem w_named : about1.methodNamed? x = some theMethod := by decide +kernel
set_option maxRecDepth 65536 in
theorem w_hears : about1.hears theMethod below0 = true := by decide +kernel
set_option maxRecDepth 65536 in
theorem w_ripe : about1.ripe theMethod args0 below0 = true := by decide +kernel
theorem w_running : about1.status = .running := rfl
set_option maxRecDepth 65536 in
theorem w_room : about1.hasRoom e0.platform room_1 = true :=
  launch0.hasRoom_least _ room_1 (by decide +kernel) (by decide +kernel) (by decide +kernel) (by decide +kernel) (by decide +kernel) (by decide +kernel)
theorem allAtoms_all (ts : List Jvm.Cond) (a : Array Jvm.Value) (st : Jvm.State) : (allAtoms ts).before a st = ts.all (fun c => c.before a st) := by
  induction ts with
  | nil => rfl
  | cons c t ih =>
    show (Jvm.Cond.and c (allAtoms t)).before a st = _
    rw [Jvm.Cond.before_and, ih, List.all_cons]
def words1 : List Jvm.Cond := Jvm.Cond.code x code maxLocals ret :: tables_1
/-- a 'code' word, met by the world's own term for the bytes: nothing is compared byte by byte -/
theorem code_word {y : MethodName} {bytes : ByteArray} {mx : Nat} {rt : Option FieldType} {a : Array Value} {s : State} {m : MethodId} {meth : Method} {c : Code} (h1 : s.methodNamed? y = some m) (h2 : s.vm.method? m = some meth) (h3 : meth.code = some c) (h4 : c.code = bytes)
    (h5 : (c.maxLocals == mx && c.exceptionTable.isEmpty && decide (c.maxStack ≤ mostOperands) && decide (meth.sig.returnType = rt) && !meth.locks && decide (parseMethodDescriptor y.desc = some meth.sig)) = true) : (Jvm.Cond.code y bytes mx rt).before a s = true := by
  simp only [Bool.and_eq_true, beq_iff_eq, Bool.not_eq_true', decide_eq_true_eq] at h5
  obtain ⟨⟨⟨⟨⟨g1, g2⟩, g3⟩, g4⟩, g5⟩, g6⟩ := h5
  simp [Cond.before, Cond.holds, Cond.value, h1, h2, h3, h4, g1, g2, g3, g4, g5, g6]
def isCode : Jvm.Cond → Bool
  | .code _ _ _ _ => true
  | _ => false
theorem all_split {L : List Jvm.Cond} {P : Jvm.Cond → Bool} (h1 : L.all (fun c => isCode c || P c) = true) (h2 : ∀ c ∈ L.filter isCode, P c = true) : L.all P = true := by
  refine List.all_eq_true.mpr fun c hc => ?_
  have h := List.all_eq_true.mp h1 c hc
  rcases Bool.eq_false_or_eq_true (isCode c) with hi | hi
  · exact h2 c (List.mem_filter.mpr ⟨hc, hi⟩)
  · simpa [hi] using h
set_option maxRecDepth 65536 in
theorem w_c0 : (Jvm.Cond.code x code maxLocals ret).before args0 about1 = true := code_word (m := ⟨1, 1⟩) (meth := k1m1) (c := k1c1) (by decide +kernel) rfl rfl rfl (by decide +kernel)
set_option maxRecDepth 65536 in
theorem w_c1 : (Jvm.Cond.code ({ cls := "com/example/leafcode/leafcode/NodeQueue", name := "precedes", desc := "(JIJI)Z" } : Jvm.MethodName) prog_34_method_4_code (6 : Nat) (Option.some Jvm.ClassFile.FieldType.boolean)).before args0 about1 = true := code_word (m := ⟨2, 0⟩) (meth := k2m0) (c := k2c0) (by decide +kernel) rfl rfl rfl (by decide +kernel)
set_option maxRecDepth 65536 in
theorem w_c2 : (Jvm.Cond.code ({ cls := "com/example/leafcode/leafcode/NodeQueuePrecedesPinLaw", name := "expected", desc := "(JIJI)Z" } : Jvm.MethodName) method_3_code (6 : Nat) (Option.some Jvm.ClassFile.FieldType.boolean)).before args0 about1 = true := code_word (m := ⟨1, 2⟩) (meth := k1m2) (c := k1c2) (by decide +kernel) rfl rfl rfl (by decide +kernel)
def codes1 : List Jvm.Cond := [Jvm.Cond.code x code maxLocals ret, Jvm.Cond.code ({ cls := "com/example/leafcode/leafcode/NodeQueue", name := "precedes", desc := "(JIJI)Z" } : Jvm.MethodName) prog_34_method_4_code (6 : Nat) (Option.some Jvm.ClassFile.FieldType.boolean), Jvm.Cond.code ({ cls := "com/example/leafcode/leafcode/NodeQueuePrecedesPinLaw", name := "expected", desc := "(JIJI)Z" } : Jvm.MethodName) method_3_code (6 : Nat) (Option.some Jvm.ClassFile.FieldType.boolean)]
set_option maxRecDepth 65536 in
theorem codes_eq : words1.filter isCode = codes1 := rfl
theorem w_codes : ∀ c ∈ words1.filter isCode, c.before args0 about1 = true := by
  rw [codes_eq]
  intro c hc
  simp only [codes1, List.mem_cons, List.not_mem_nil, or_false] at hc
  rcases hc with rfl | rfl | rfl
  · exact w_c0
  · exact w_c1
  · exact w_c2
set_option maxRecDepth 65536 in
theorem w_t1 : words1.all (fun c => isCode c || c.before args0 about1) = true := by decide +kernel
theorem w_tables : (allAtoms (Jvm.Cond.code x code maxLocals ret :: tables_1)).before args0 about1 = true := by
  rw [allAtoms_all]
  show words1.all (fun c => c.before args0 about1) = true
  refine all_split ?_ w_codes
  rw [w_t1]
set_option maxRecDepth 65536 in
theorem w_case : (Jvm.Cond.and given_1 narrow_1).before args0 about1 = true := by decide +kernel
theorem w_applies : (headSpec (Jvm.Cond.code x code maxLocals ret :: tables_1) room_1).applies x e0.platform about1 = true :=
  (Spec.applies_iff w_frames).mpr ⟨w_running, w_runnable, w_alone, w_named, w_hears, w_ripe, w_room, w_tables⟩
theorem atStart : AtStart classFile x code maxLocals ret World_1 tables_1 room_1 Calls_1 rest_1 Pre_1 launch0 p0 e0 about1 theMethod args0 below0 :=
  ⟨lists_1, trivial, launch0.admits_env _ _ _, launch0.least_env, fairChoices_fair.cas, fairChoices_fair.clock, w_frames, w_args, w_heap, w_applies, trivial, trivial, w_case⟩
end start1
theorem witness_1 : WitnessClaimed_1 := ⟨start1.p0, start1.e0, start1.about1, start1.theMethod, start1.args0, start1.below0, start1.atStart⟩
end Jvm.Pilot.@@N@@
