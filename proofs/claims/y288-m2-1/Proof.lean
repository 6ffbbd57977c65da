import JvmDerived
import JvmDerived.Pilot.@@N@@Statement
import JvmDerived.Pilot.@@N@@Code
set_option linter.unusedVariables false
set_option linter.unusedSimpArgs false
namespace Jvm.RoadKit
open Sem ClassFile Op Lib Jvm.Stand Jvm.Free Jvm.LawKit
section New
variable {p : Program} {l : Launch} {e : Env} {R : Room} {s : State} {m : MethodId} {args : Array Value} {below : List Frame} {meth : Method} {c : Code} {T : State} {locs : List Loc} {cells slots : Nat}
theorem retI (X : Stand p l e R s m args below meth c T locs cells slots) (hx : p.tables.exec = Jvm.exec) {pc : Nat} {Ls : Array Slot} {z : Int32} {rest : List Value} (hret : meth.sig.returnType = some .int) (hd : decode c.code pc = .ok (.ireturn, 1)) {fs : List Frame}
    (hl : ∀ (f : JFrame) (acts : List Action), f.method = m → f.locked = none → f.entered = [] → (doReturn e (T.setTop f) acts (some (.int z))).1 = T.setFrames fs) : Steps p.tables e below (T.setTop (mkF m pc Ls (.int z :: rest))) (T.setFrames fs) := by
  have hm' : T.vm.method? m = some meth := X.method'
  have hn : narrow .int (.int z) = .int z := rfl
  show Steps p.tables e below (T.setTop { method := m, pc := pc, locals := Ls, stack := _ :: rest, locked := none }) _
  jvm_step X.here [X.here.top, hx, hd, hm', hret, hn]
  first | (intro acts; rw [hl _ acts rfl rfl rfl]) | rw [hl _ _ rfl rfl rfl]
  exact Steps.refl _
theorem own_retJ (X : Stand p l e R s m args below meth c T locs cells slots) (hx : p.tables.exec = Jvm.exec) {pc : Nat} {Ls : Array Slot} {z : Int64} {rest : List Value} (hret : meth.sig.returnType = some .long) (hd : decode c.code pc = .ok (.lreturn, 1)) {fs : List Frame}
    (hl : ∀ (f : JFrame) (acts : List Action), f.method = m → f.locked = none → f.entered = [] → (doReturn e (T.setTop f) acts (some (.long z))).1 = T.setFrames fs) : Steps p.tables e below (T.setTop (mkF m pc Ls (.long z :: rest))) (T.setFrames fs) := by
  have hm' : T.vm.method? m = some meth := X.method'
  show Steps p.tables e below (T.setTop { method := m, pc := pc, locals := Ls, stack := _ :: rest, locked := none }) _
  jvm_step X.here [X.here.top, hx, hd, hm', hret, narrow]
  first | (intro acts; rw [hl _ acts rfl rfl rfl]) | rw [hl _ _ rfl rfl rfl]
  exact Steps.refl _
theorem own_retA (X : Stand p l e R s m args below meth c T locs cells slots) (hx : p.tables.exec = Jvm.exec) {pc : Nat} {Ls : Array Slot} {b : Addr} {t : FieldType} {rest : List Value} (hret : meth.sig.returnType = some t) (ht : t.isReference = true) (hb0 : b = b) (hd : decode c.code pc = .ok (.areturn, 1)) {fs : List Frame}
    (hl : ∀ (f : JFrame) (acts : List Action), f.method = m → f.locked = none → f.entered = [] → (doReturn e (T.setTop f) acts (some (.ref b))).1 = T.setFrames fs) : Steps p.tables e below (T.setTop (mkF m pc Ls (.ref b :: rest))) (T.setFrames fs) := by
  have hm' : T.vm.method? m = some meth := X.method'
  show Steps p.tables e below (T.setTop { method := m, pc := pc, locals := Ls, stack := _ :: rest, locked := none }) _
  jvm_step X.here [X.here.top, hx, hd, hm', hret, Value.isRef, ht]
  first | (intro acts; rw [hl _ acts rfl rfl rfl]) | rw [hl _ _ rfl rfl rfl]
  exact Steps.refl _
end New
/-- a walk's goal at the state A -/
def own_G (tb : Tables) (e : Env) (below : List Frame) (P : Outcome → State → Prop) (A : State) : Prop := ∃ s₂ o, Steps tb e below A s₂ ∧ s₂.status = .running ∧ Ended s₂ below o ∧ P o s₂
section Go
variable {tb : Tables} {e : Env} {below : List Frame} {P : Outcome → State → Prop} {A B : State}
theorem own_step (h : ∀ t, Steps tb e below B t → Steps tb e below A t) (k : own_G tb e below P B) : own_G tb e below P A := by
  obtain ⟨s₂, o, h1, h2⟩ := k
  exact ⟨s₂, o, h _ h1, h2⟩
theorem own_start (h : ∀ t, Steps tb e below B t → Steps tb e below A t) (k : own_G tb e below P B) : ∃ s₂ o, Steps tb e below A s₂ ∧ s₂.status = .running ∧ Ended s₂ below o ∧ P o s₂ := own_step h k
theorem own_done {s₂ : State} {o : Outcome} (h1 : Steps tb e below A s₂) (h2 : s₂.status = .running) (h3 : Ended s₂ below o) (h4 : P o s₂) : own_G tb e below P A := ⟨s₂, o, h1, h2, h3, h4⟩
theorem own_nm {α : Type} (x : α) (F : α → State) (h : ∀ v, v = x → own_G tb e below P (F v)) : own_G tb e below P (F x) := h x rfl
theorem own_gen (h : ∀ P', P' = P → own_G tb e below P' A) : own_G tb e below P A := h P rfl
theorem own_imp (h : own_G tb e below P B → own_G tb e below P A) (k : own_G tb e below P B) : own_G tb e below P A := h k
end Go

end Jvm.RoadKit
namespace Jvm.Pilot.@@N@@
open Jvm Jvm.ClassFile Sem Op Lib Jvm.Free Jvm.Stand Jvm.LawKit Jvm.RoadKit Bundle Jvm.Pilot.@@N@@.Jvm.D

theorem d1_0 : decode method_2_code 0 = .ok (.iload_n 0, 1) := by decide +kernel
theorem d1_1 : decode method_2_code 1 = .ok (.iconst 3, 1) := by decide +kernel
theorem d1_2 : decode method_2_code 2 = .ok (.iand, 1) := by decide +kernel
theorem d1_3 : decode method_2_code 3 = .ok (.istore_n 1, 1) := by decide +kernel
theorem d1_4 : decode method_2_code 4 = .ok (.iload_n 1, 1) := by decide +kernel
theorem d1_5 : decode method_2_code 5 = .ok (.ifCond .ne 6, 3) := by decide +kernel
theorem d1_8 : decode method_2_code 8 = .ok (.bipush 10, 2) := by decide +kernel
theorem d1_10 : decode method_2_code 10 = .ok (.ireturn, 1) := by decide +kernel
theorem d1_11 : decode method_2_code 11 = .ok (.iload_n 1, 1) := by decide +kernel
theorem d1_12 : decode method_2_code 12 = .ok (.iconst 1, 1) := by decide +kernel
theorem d1_13 : decode method_2_code 13 = .ok (.if_icmp .ne 6, 3) := by decide +kernel
theorem d1_16 : decode method_2_code 16 = .ok (.bipush 13, 2) := by decide +kernel
theorem d1_18 : decode method_2_code 18 = .ok (.ireturn, 1) := by decide +kernel
theorem d1_19 : decode method_2_code 19 = .ok (.iload_n 0, 1) := by decide +kernel
theorem d1_20 : decode method_2_code 20 = .ok (.bipush 16, 2) := by decide +kernel
theorem d1_22 : decode method_2_code 22 = .ok (.iushr, 1) := by decide +kernel
theorem d1_23 : decode method_2_code 23 = .ok (.i2c, 1) := by decide +kernel
theorem d1_24 : decode method_2_code 24 = .ok (.ireturn, 1) := by decide +kernel
theorem pn_1 : plainName "com/example/same_bytes/samebytes/TextPositionAdvancePinLaw" = true := by first | (simp [plainName, overriddenIn]; done) | decide +kernel
theorem ef_1 (m : MethodId) (p1 : Int32) : entryFrame m #[(.int p1)] 2 = mkF m 0 #[.val (.int p1), .unset] [] := by first | (simp [entryFrame, mkF, argsToLocals, Value.category]; done) | rfl
def own_f1 (p1 : Int32) : Int32 :=
  (if (p1 &&& (3 : Int32)) = (0 : Int32) then (10 : Int32) else (if (p1 &&& (3 : Int32)) = (1 : Int32) then (13 : Int32) else (nar .char (((p1.toUInt32 >>> ((16 : Int32) &&& 31).toUInt32).toInt32).toUInt32.toUInt16.toUInt32.toInt32))))
def Q1 (Z : State) (p1 : Int32) (h0 : Heap) (n0 : Nat) (v : Option Value) (h : Heap) (L : List Loc) : Prop := v = some (.int (own_f1 p1)) ∧ Fr n0 L ∧ h = h0
set_option maxRecDepth 65536 in
set_option maxHeartbeats 40000000 in
theorem rm1 (l : Launch) (Z : State) (a0 : Array Value) (hw : ∀ d ∈ tables_1, d.before a0 Z = true) (ws : List Jvm.Cond) (p1 : Int32) (h0 : Heap) (n0 : Nat) (Z0 : n0 ≤ h0.size) :
    MetFree l (⟨"com/example/same_bytes/samebytes/TextPositionAdvancePinLaw", "pick", "(I)C"⟩ : MethodName) (head1 (Jvm.Cond.code (⟨"com/example/same_bytes/samebytes/TextPositionAdvancePinLaw", "pick", "(I)C"⟩ : MethodName) method_2_code 2 (some .char) :: ws) ({ frames := 0, cells := 0, slots := 0, locals := 0 } : Room)) (fun a U => a = #[(.int p1)] ∧ Z.Warmed39 U.vm ∧ U.heap = h0) (fun _ _ _ _ _ => True) (fun _ U o U' => ∃ v L, o = .returned v ∧ Q1 Z p1 h0 n0 v U'.heap L ∧ FrameEnd U o U' L ({ frames := 0, cells := 0, slots := 0, locals := 0 } : Room).cells ({ frames := 0, cells := 0, slots := 0, locals := 0 } : Room).slots) := by
  refine MetFree.of_bodySF (plainFor_of_name pn_1) hisR ?_
  intro p e s m args below meth c s₁ Bd hml0 hP hK
  obtain ⟨rfl, hZ, hh⟩ := hP
  have hx := Bd.exec
  have hby := Bd.bytes
  have hml : c.maxLocals = 2 := hml0
  have hown : s.vm.findClass "com/example/same_bytes/samebytes/TextPositionAdvancePinLaw" = some m.cls := findClass_of_methodNamed Bd.named
  have hnm := (name_of_methodNamed Bd.named Bd.method).1
  have X0 : Stand p l e ({ frames := 0, cells := 0, slots := 0, locals := 0 } : Room) s m #[(.int p1)] below meth c s₁ [] 0 0 := Stand.of_body Bd
  have e0 : s₁.heap = h0 := by rw [← hh, Bd.state]; rfl
  have N0 := Fr.nil n0
  refine own_start (fun t k => castTop (ef_1 m p1) k) ?_
  show own_G p.tables e below _ (s₁.setTop (mkF m 0 #[.val (.int p1), .unset] []))
  refine own_step (fun t k => XS.iloadN X0.here hx rfl (hb hby d1_0) rfl k) ?_
  show own_G p.tables e below _ (s₁.setTop (mkF m 1 #[.val (.int p1), .unset] [(.int p1)]))
  refine own_step (fun t k => XS.iconst X0.here hx rfl (hb hby d1_1) k) ?_
  show own_G p.tables e below _ (s₁.setTop (mkF m 2 #[.val (.int p1), .unset] [(.int (3 : Int32)), (.int p1)]))
  refine own_step (fun t k => XS.iand X0.here hx rfl (hb hby d1_2) rfl k) ?_
  show own_G p.tables e below _ (s₁.setTop (mkF m 3 #[.val (.int p1), .unset] [(.int (p1 &&& (3 : Int32)))]))
  refine own_step (fun t k => XS.istoreN X0.here hx rfl (hb hby d1_3) rfl (l' := #[.val (.int p1), .val (.int (p1 &&& (3 : Int32)))]) rfl k) ?_
  show own_G p.tables e below _ (s₁.setTop (mkF m 4 #[.val (.int p1), .val (.int (p1 &&& (3 : Int32)))] []))
  refine own_step (fun t k => XS.iloadN X0.here hx rfl (hb hby d1_4) rfl k) ?_
  show own_G p.tables e below _ (s₁.setTop (mkF m 5 #[.val (.int p1), .val (.int (p1 &&& (3 : Int32)))] [(.int (p1 &&& (3 : Int32)))]))
  by_cases hc1 : (p1 &&& (3 : Int32)) = (0 : Int32)
  · skip
    refine own_step (fun t k => XS.ifNo X0.here hx rfl (hb hby d1_5) rfl ((if0 _ _).trans (teq hc1).2) k) ?_
    show own_G p.tables e below _ (s₁.setTop (mkF m 8 #[.val (.int p1), .val (.int (p1 &&& (3 : Int32)))] []))
    refine own_step (fun t k => XS.bipush X0.here hx rfl (hb hby d1_8) k) ?_
    show own_G p.tables e below _ (s₁.setTop (mkF m 10 #[.val (.int p1), .val (.int (p1 &&& (3 : Int32)))] [(.int (10 : Int32))]))
    obtain ⟨fs, hr, hrun, hended, hW, hsame⟩ := X0.leave (v := some (.int (10 : Int32))) (fun h => by rw [Bd.returns] at h; cases h)
    refine own_done (retN X0 hx (t := .char) Bd.returns (by simp) (hb hby d1_10) hr) hrun hended ⟨_, _, rfl, ?_, ⟨_, rfl⟩, hW, hsame.mono (by decide) (by decide)⟩
    show Q1 Z p1 h0 n0 _ s₁.heap _
    rw [e0]
    exact ⟨congrArg (fun z => some (Value.int z)) (show (10 : Int32) = (own_f1 p1) from by unfold own_f1; simp only [if_pos hc1]), N0, rfl⟩
  · skip
    refine own_step (fun t k => XS.ifYes X0.here hx rfl (pc0 := 5) (pc' := 11) rfl (hb hby d1_5) rfl ((if0 _ _).trans (feq hc1).2) (by decide) (by decide) k) ?_
    show own_G p.tables e below _ (s₁.setTop (mkF m 11 #[.val (.int p1), .val (.int (p1 &&& (3 : Int32)))] []))
    refine own_step (fun t k => XS.iloadN X0.here hx rfl (hb hby d1_11) rfl k) ?_
    show own_G p.tables e below _ (s₁.setTop (mkF m 12 #[.val (.int p1), .val (.int (p1 &&& (3 : Int32)))] [(.int (p1 &&& (3 : Int32)))]))
    refine own_step (fun t k => XS.iconst X0.here hx rfl (hb hby d1_12) k) ?_
    show own_G p.tables e below _ (s₁.setTop (mkF m 13 #[.val (.int p1), .val (.int (p1 &&& (3 : Int32)))] [(.int (1 : Int32)), (.int (p1 &&& (3 : Int32)))]))
    by_cases hc2 : (p1 &&& (3 : Int32)) = (1 : Int32)
    · skip
      refine own_step (fun t k => XS.icmpNo X0.here hx rfl (hb hby d1_13) rfl ((teq hc2).2) k) ?_
      show own_G p.tables e below _ (s₁.setTop (mkF m 16 #[.val (.int p1), .val (.int (p1 &&& (3 : Int32)))] []))
      refine own_step (fun t k => XS.bipush X0.here hx rfl (hb hby d1_16) k) ?_
      show own_G p.tables e below _ (s₁.setTop (mkF m 18 #[.val (.int p1), .val (.int (p1 &&& (3 : Int32)))] [(.int (13 : Int32))]))
      obtain ⟨fs, hr, hrun, hended, hW, hsame⟩ := X0.leave (v := some (.int (13 : Int32))) (fun h => by rw [Bd.returns] at h; cases h)
      refine own_done (retN X0 hx (t := .char) Bd.returns (by simp) (hb hby d1_18) hr) hrun hended ⟨_, _, rfl, ?_, ⟨_, rfl⟩, hW, hsame.mono (by decide) (by decide)⟩
      show Q1 Z p1 h0 n0 _ s₁.heap _
      rw [e0]
      exact ⟨congrArg (fun z => some (Value.int z)) (show (13 : Int32) = (own_f1 p1) from by unfold own_f1; simp only [if_neg hc1, if_pos hc2]), N0, rfl⟩
    · skip
      refine own_step (fun t k => XS.icmpYes X0.here hx rfl (pc0 := 13) (pc' := 19) rfl (hb hby d1_13) rfl ((feq hc2).2) (by decide) (by decide) k) ?_
      show own_G p.tables e below _ (s₁.setTop (mkF m 19 #[.val (.int p1), .val (.int (p1 &&& (3 : Int32)))] []))
      refine own_step (fun t k => XS.iloadN X0.here hx rfl (hb hby d1_19) rfl k) ?_
      show own_G p.tables e below _ (s₁.setTop (mkF m 20 #[.val (.int p1), .val (.int (p1 &&& (3 : Int32)))] [(.int p1)]))
      refine own_step (fun t k => XS.bipush X0.here hx rfl (hb hby d1_20) k) ?_
      show own_G p.tables e below _ (s₁.setTop (mkF m 22 #[.val (.int p1), .val (.int (p1 &&& (3 : Int32)))] [(.int (16 : Int32)), (.int p1)]))
      refine own_step (fun t k => XS.iushr X0.here hx rfl (hb hby d1_22) rfl k) ?_
      show own_G p.tables e below _ (s₁.setTop (mkF m 23 #[.val (.int p1), .val (.int (p1 &&& (3 : Int32)))] [(.int ((p1.toUInt32 >>> ((16 : Int32) &&& 31).toUInt32).toInt32))]))
      refine own_step (fun t k => XS.i2c X0.here hx rfl (hb hby d1_23) rfl k) ?_
      show own_G p.tables e below _ (s₁.setTop (mkF m 24 #[.val (.int p1), .val (.int (p1 &&& (3 : Int32)))] [(.int (((p1.toUInt32 >>> ((16 : Int32) &&& 31).toUInt32).toInt32).toUInt32.toUInt16.toUInt32.toInt32))]))
      obtain ⟨fs, hr, hrun, hended, hW, hsame⟩ := X0.leave (v := some (.int (nar .char (((p1.toUInt32 >>> ((16 : Int32) &&& 31).toUInt32).toInt32).toUInt32.toUInt16.toUInt32.toInt32)))) (fun h => by rw [Bd.returns] at h; cases h)
      refine own_done (retN X0 hx (t := .char) Bd.returns (by simp) (hb hby d1_24) hr) hrun hended ⟨_, _, rfl, ?_, ⟨_, rfl⟩, hW, hsame.mono (by decide) (by decide)⟩
      show Q1 Z p1 h0 n0 _ s₁.heap _
      rw [e0]
      exact ⟨congrArg (fun z => some (Value.int z)) (show (nar .char (((p1.toUInt32 >>> ((16 : Int32) &&& 31).toUInt32).toInt32).toUInt32.toUInt16.toUInt32.toInt32)) = (own_f1 p1) from by unfold own_f1; simp only [if_neg hc1, if_neg hc2]), N0, rfl⟩
theorem d2_0 : decode prog_112_method_2_code 0 = .ok (.aload_n 0, 1) := by decide +kernel
theorem d2_1 : decode prog_112_method_2_code 1 = .ok (.invokespecial 7, 3) := by decide +kernel
theorem d2_4 : decode prog_112_method_2_code 4 = .ok (.aload_n 0, 1) := by decide +kernel
theorem d2_5 : decode prog_112_method_2_code 5 = .ok (.iload_n 1, 1) := by decide +kernel
theorem d2_6 : decode prog_112_method_2_code 6 = .ok (.putfield 12, 3) := by decide +kernel
theorem d2_9 : decode prog_112_method_2_code 9 = .ok (.aload_n 0, 1) := by decide +kernel
theorem d2_10 : decode prog_112_method_2_code 10 = .ok (.iload_n 2, 1) := by decide +kernel
theorem d2_11 : decode prog_112_method_2_code 11 = .ok (.putfield 16, 3) := by decide +kernel
theorem d2_14 : decode prog_112_method_2_code 14 = .ok (.return_, 1) := by decide +kernel
theorem pn_2 : plainName "com/example/same_bytes/samebytes/TextPosition" = true := by first | (simp [plainName, overriddenIn]; done) | decide +kernel
theorem ef_2 (m : MethodId) (a1 : Addr) (p2 : Int32) (p3 : Int32) : entryFrame m #[(.ref a1), (.int p2), (.int p3)] 3 = mkF m 0 #[.val (.ref a1), .val (.int p2), .val (.int p3)] [] := by first | (simp [entryFrame, mkF, argsToLocals, Value.category]; done) | rfl
def Q2 (Z : State) (a1 : Addr) (p2 : Int32) (p3 : Int32) (u_line_a1 : Value) (u_column_a1 : Value) (u_last_a1 : Value) (h0 : Heap) (n0 : Nat) (v : Option Value) (h : Heap) (L : List Loc) : Prop := v = none ∧ Fr n0 L ∧ Keep h0 h [a1] ∧ Fld Z h a1 "com/example/same_bytes/samebytes/TextPosition" "line" "I" (.int p2) ∧ Fld Z h a1 "com/example/same_bytes/samebytes/TextPosition" "column" "I" (.int p3) ∧ Fld Z h a1 "com/example/same_bytes/samebytes/TextPosition" "last" "C" u_last_a1
set_option maxRecDepth 65536 in
set_option maxHeartbeats 40000000 in
theorem rm2 (l : Launch) (Z : State) (a0 : Array Value) (hw : ∀ d ∈ tables_1, d.before a0 Z = true) (ws : List Jvm.Cond) (a1 : Addr) (p2 : Int32) (p3 : Int32) (u_line_a1 : Value) (u_column_a1 : Value) (u_last_a1 : Value) (h0 : Heap) (n0 : Nat) (Z0 : n0 ≤ h0.size) (fp0 : Exa Z h0 a1 "com/example/same_bytes/samebytes/TextPosition") (fp1 : Fld Z h0 a1 "com/example/same_bytes/samebytes/TextPosition" "line" "I" u_line_a1) (fp2 : Fld Z h0 a1 "com/example/same_bytes/samebytes/TextPosition" "column" "I" u_column_a1) (fp3 : Fld Z h0 a1 "com/example/same_bytes/samebytes/TextPosition" "last" "C" u_last_a1) (g_a1 : n0 ≤ a1) :
    MetFree l (⟨"com/example/same_bytes/samebytes/TextPosition", "<init>", "(II)V"⟩ : MethodName) (head1 (Jvm.Cond.code (⟨"com/example/same_bytes/samebytes/TextPosition", "<init>", "(II)V"⟩ : MethodName) prog_112_method_2_code 3 none :: ws) ({ frames := 1, cells := 0, slots := 0, locals := 12 } : Room)) (fun a U => a = #[(.ref a1), (.int p2), (.int p3)] ∧ Z.Warmed39 U.vm ∧ U.heap = h0) (fun _ _ _ _ _ => True) (fun _ U o U' => ∃ v L, o = .returned v ∧ Q2 Z a1 p2 p3 u_line_a1 u_column_a1 u_last_a1 h0 n0 v U'.heap L ∧ FrameEnd U o U' L ({ frames := 1, cells := 0, slots := 0, locals := 12 } : Room).cells ({ frames := 1, cells := 0, slots := 0, locals := 12 } : Room).slots) := by
  refine MetFree.of_bodySF (plainFor_of_name pn_2) hisR ?_
  intro p e s m args below meth c s₁ Bd hml0 hP hK
  obtain ⟨rfl, hZ, hh⟩ := hP
  have hx := Bd.exec
  have hby := Bd.bytes
  have hml : c.maxLocals = 3 := hml0
  have hown : s.vm.findClass "com/example/same_bytes/samebytes/TextPosition" = some m.cls := findClass_of_methodNamed Bd.named
  have hnm := (name_of_methodNamed Bd.named Bd.method).1
  have X0 : Stand p l e ({ frames := 1, cells := 0, slots := 0, locals := 12 } : Room) s m #[(.ref a1), (.int p2), (.int p3)] below meth c s₁ [] 0 0 := Stand.of_body Bd
  have e0 : s₁.heap = h0 := by rw [← hh, Bd.state]; rfl
  have N0 := Fr.nil n0
  refine own_start (fun t k => castTop (ef_2 m a1 p2 p3) k) ?_
  show own_G p.tables e below _ (s₁.setTop (mkF m 0 #[.val (.ref a1), .val (.int p2), .val (.int p3)] []))
  refine own_step (fun t k => XS.aloadN X0.here hx rfl (hb hby d2_0) rfl rfl k) ?_
  show own_G p.tables e below _ (s₁.setTop (mkF m 1 #[.val (.ref a1), .val (.int p2), .val (.int p3)] [(.ref a1)]))
  obtain ⟨T1, X1, e1, st1⟩ := initO X0 hx hZ hown (hw _ (List.mem_of_getElem? (i := 10) rfl)) (hw _ (List.mem_of_getElem? (i := 11) rfl)) (hw _ (List.mem_of_getElem? (i := 12) rfl)) e0 (g := (mkF m 1 #[.val (.ref a1), .val (.int p2), .val (.int p3)] [(.ref a1)])) rfl (by rw [hml]; rfl) rfl (hb hby d2_1) (by decide) (W := 0) (by show 2 * 0 + _ ≤ _; exact Nat.le_of_eq rfl) (by decide)
  refine own_step st1 ?_
  show own_G p.tables e below _ (T1.setTop (mkF m 4 #[.val (.ref a1), .val (.int p2), .val (.int p3)] []))
  refine own_step (fun t k => XS.aloadN X1.here hx rfl (hb hby d2_4) rfl rfl k) ?_
  show own_G p.tables e below _ (T1.setTop (mkF m 5 #[.val (.ref a1), .val (.int p2), .val (.int p3)] [(.ref a1)]))
  refine own_step (fun t k => XS.iloadN X1.here hx rfl (hb hby d2_5) rfl k) ?_
  show own_G p.tables e below _ (T1.setTop (mkF m 6 #[.val (.ref a1), .val (.int p2), .val (.int p3)] [(.int p2), (.ref a1)]))
  obtain ⟨T2, h2, X2, e2, W2, st2⟩ := putF X1 hx hZ hown (host := "") (Or.inl (hw _ (List.mem_of_getElem? (i := 13) rfl))) Via.refl e1 fp1 fp0 (Or.inl (hw _ (List.mem_of_getElem? (i := 14) rfl))) (hw _ (List.mem_of_getElem? (i := 5) rfl)) (ty := .int) (by decide) rfl rfl (g := (mkF m 6 #[.val (.ref a1), .val (.int p2), .val (.int p3)] [(.int p2), (.ref a1)])) rfl rfl (hb hby d2_6)
  have N2 := Fr.snoc X2 N0 g_a1
  have c3 : Fld Z h2 a1 "com/example/same_bytes/samebytes/TextPosition" "line" "I" (.int p2) := fp1.same W2
  have c4 : Exa Z h2 a1 "com/example/same_bytes/samebytes/TextPosition" := fp0.wr W2
  have c6 : Fld Z h2 a1 "com/example/same_bytes/samebytes/TextPosition" "column" "I" u_column_a1 := fp2.other W2 (Or.inr (slot_ne (Or.inl (hw _ (List.mem_of_getElem? (i := 16) rfl))) (Or.inl (hw _ (List.mem_of_getElem? (i := 14) rfl))) (by decide) (t := .int) (t' := .int) (by decide) (by decide)))
  have c7 : Fld Z h2 a1 "com/example/same_bytes/samebytes/TextPosition" "last" "C" u_last_a1 := fp3.other W2 (Or.inr (slot_ne (Or.inl (hw _ (List.mem_of_getElem? (i := 35) rfl))) (Or.inl (hw _ (List.mem_of_getElem? (i := 14) rfl))) (by decide) (t := .char) (t' := .int) (by decide) (by decide)))
  have K2 : Keep h0 h2 [a1] := (Keep.refl h0 [a1]).wr W2 (Or.inl (List.mem_of_getElem? (i := 0) rfl))
  refine own_step st2 ?_
  show own_G p.tables e below _ (T2.setTop (mkF m 9 #[.val (.ref a1), .val (.int p2), .val (.int p3)] []))
  refine own_step (fun t k => XS.aloadN X2.here hx rfl (hb hby d2_9) rfl rfl k) ?_
  show own_G p.tables e below _ (T2.setTop (mkF m 10 #[.val (.ref a1), .val (.int p2), .val (.int p3)] [(.ref a1)]))
  refine own_step (fun t k => XS.iloadN X2.here hx rfl (hb hby d2_10) rfl k) ?_
  show own_G p.tables e below _ (T2.setTop (mkF m 11 #[.val (.ref a1), .val (.int p2), .val (.int p3)] [(.int p3), (.ref a1)]))
  obtain ⟨T8, h8, X8, e8, W8, st8⟩ := putF X2 hx hZ hown (host := "") (Or.inl (hw _ (List.mem_of_getElem? (i := 15) rfl))) Via.refl e2 c6 c4 (Or.inl (hw _ (List.mem_of_getElem? (i := 16) rfl))) (hw _ (List.mem_of_getElem? (i := 5) rfl)) (ty := .int) (by decide) rfl rfl (g := (mkF m 11 #[.val (.ref a1), .val (.int p2), .val (.int p3)] [(.int p3), (.ref a1)])) rfl rfl (hb hby d2_11)
  have N8 := Fr.snoc X8 N2 g_a1
  have c9 : Fld Z h8 a1 "com/example/same_bytes/samebytes/TextPosition" "column" "I" (.int p3) := c6.same W8
  have c10 : Exa Z h8 a1 "com/example/same_bytes/samebytes/TextPosition" := c4.wr W8
  have c11 : Fld Z h8 a1 "com/example/same_bytes/samebytes/TextPosition" "line" "I" (.int p2) := c3.other W8 (Or.inr (slot_ne (Or.inl (hw _ (List.mem_of_getElem? (i := 14) rfl))) (Or.inl (hw _ (List.mem_of_getElem? (i := 16) rfl))) (by decide) (t := .int) (t' := .int) (by decide) (by decide)))
  have c13 : Fld Z h8 a1 "com/example/same_bytes/samebytes/TextPosition" "last" "C" u_last_a1 := c7.other W8 (Or.inr (slot_ne (Or.inl (hw _ (List.mem_of_getElem? (i := 35) rfl))) (Or.inl (hw _ (List.mem_of_getElem? (i := 16) rfl))) (by decide) (t := .char) (t' := .int) (by decide) (by decide)))
  have K8 : Keep h0 h8 [a1] := K2.wr W8 (Or.inl (List.mem_of_getElem? (i := 0) rfl))
  refine own_step st8 ?_
  show own_G p.tables e below _ (T8.setTop (mkF m 14 #[.val (.ref a1), .val (.int p2), .val (.int p3)] []))
  obtain ⟨fs, hr, hrun, hended, hW, hsame⟩ := X8.leave (v := none) (fun _ => rfl)
  refine own_done (X8.returnOut hx Bd.returns (hb hby d2_14) hr) hrun hended ⟨_, _, rfl, ?_, ⟨_, rfl⟩, hW, hsame.mono (by decide) (by decide)⟩
  show Q2 Z a1 p2 p3 u_line_a1 u_column_a1 u_last_a1 h0 n0 _ T8.heap _
  rw [e8]
  exact ⟨rfl, N8, K8, c11, c9, c13⟩
theorem d5_0 : decode method_3_code 0 = .ok (.iload_n 1, 1) := by decide +kernel
theorem d5_1 : decode method_3_code 1 = .ok (.bipush 10, 2) := by decide +kernel
theorem d5_3 : decode method_3_code 3 = .ok (.if_icmp .ne 13, 3) := by decide +kernel
theorem d5_6 : decode method_3_code 6 = .ok (.iload_n 0, 1) := by decide +kernel
theorem d5_7 : decode method_3_code 7 = .ok (.bipush 13, 2) := by decide +kernel
theorem d5_9 : decode method_3_code 9 = .ok (.if_icmp .ne 7, 3) := by decide +kernel
theorem d5_12 : decode method_3_code 12 = .ok (.iconst 1, 1) := by decide +kernel
theorem d5_13 : decode method_3_code 13 = .ok (.goto 4, 3) := by decide +kernel
theorem d5_16 : decode method_3_code 16 = .ok (.iconst 0, 1) := by decide +kernel
theorem d5_17 : decode method_3_code 17 = .ok (.ireturn, 1) := by decide +kernel
theorem pn_5 : plainName "com/example/same_bytes/samebytes/TextPositionAdvancePinLaw" = true := by first | (simp [plainName, overriddenIn]; done) | decide +kernel
theorem ef_5 (m : MethodId) (p1 : Int32) (p2 : Int32) : entryFrame m #[(.int p1), (.int p2)] 2 = mkF m 0 #[.val (.int p1), .val (.int p2)] [] := by first | (simp [entryFrame, mkF, argsToLocals, Value.category]; done) | rfl
def own_f5 (p1 : Int32) (p2 : Int32) : Int32 :=
  (if p2 = (10 : Int32) then (if p1 = (13 : Int32) then (1 : Int32) else (0 : Int32)) else (0 : Int32))
def Q5 (Z : State) (p1 : Int32) (p2 : Int32) (h0 : Heap) (n0 : Nat) (v : Option Value) (h : Heap) (L : List Loc) : Prop := v = some (.int (own_f5 p1 p2)) ∧ Fr n0 L ∧ h = h0
set_option maxRecDepth 65536 in
set_option maxHeartbeats 40000000 in
theorem rm5 (l : Launch) (Z : State) (a0 : Array Value) (hw : ∀ d ∈ tables_1, d.before a0 Z = true) (ws : List Jvm.Cond) (p1 : Int32) (p2 : Int32) (h0 : Heap) (n0 : Nat) (Z0 : n0 ≤ h0.size) :
    MetFree l (⟨"com/example/same_bytes/samebytes/TextPositionAdvancePinLaw", "skips", "(CC)Z"⟩ : MethodName) (head1 (Jvm.Cond.code (⟨"com/example/same_bytes/samebytes/TextPositionAdvancePinLaw", "skips", "(CC)Z"⟩ : MethodName) method_3_code 2 (some .boolean) :: ws) ({ frames := 0, cells := 0, slots := 0, locals := 0 } : Room)) (fun a U => a = #[(.int p1), (.int p2)] ∧ Z.Warmed39 U.vm ∧ U.heap = h0) (fun _ _ _ _ _ => True) (fun _ U o U' => ∃ v L, o = .returned v ∧ Q5 Z p1 p2 h0 n0 v U'.heap L ∧ FrameEnd U o U' L ({ frames := 0, cells := 0, slots := 0, locals := 0 } : Room).cells ({ frames := 0, cells := 0, slots := 0, locals := 0 } : Room).slots) := by
  refine MetFree.of_bodySF (plainFor_of_name pn_5) hisR ?_
  intro p e s m args below meth c s₁ Bd hml0 hP hK
  obtain ⟨rfl, hZ, hh⟩ := hP
  have hx := Bd.exec
  have hby := Bd.bytes
  have hml : c.maxLocals = 2 := hml0
  have hown : s.vm.findClass "com/example/same_bytes/samebytes/TextPositionAdvancePinLaw" = some m.cls := findClass_of_methodNamed Bd.named
  have hnm := (name_of_methodNamed Bd.named Bd.method).1
  have X0 : Stand p l e ({ frames := 0, cells := 0, slots := 0, locals := 0 } : Room) s m #[(.int p1), (.int p2)] below meth c s₁ [] 0 0 := Stand.of_body Bd
  have e0 : s₁.heap = h0 := by rw [← hh, Bd.state]; rfl
  have N0 := Fr.nil n0
  refine own_start (fun t k => castTop (ef_5 m p1 p2) k) ?_
  show own_G p.tables e below _ (s₁.setTop (mkF m 0 #[.val (.int p1), .val (.int p2)] []))
  refine own_step (fun t k => XS.iloadN X0.here hx rfl (hb hby d5_0) rfl k) ?_
  show own_G p.tables e below _ (s₁.setTop (mkF m 1 #[.val (.int p1), .val (.int p2)] [(.int p2)]))
  refine own_step (fun t k => XS.bipush X0.here hx rfl (hb hby d5_1) k) ?_
  show own_G p.tables e below _ (s₁.setTop (mkF m 3 #[.val (.int p1), .val (.int p2)] [(.int (10 : Int32)), (.int p2)]))
  by_cases hc1 : p2 = (10 : Int32)
  · skip
    refine own_step (fun t k => XS.icmpNo X0.here hx rfl (hb hby d5_3) rfl ((teq hc1).2) k) ?_
    show own_G p.tables e below _ (s₁.setTop (mkF m 6 #[.val (.int p1), .val (.int p2)] []))
    refine own_step (fun t k => XS.iloadN X0.here hx rfl (hb hby d5_6) rfl k) ?_
    show own_G p.tables e below _ (s₁.setTop (mkF m 7 #[.val (.int p1), .val (.int p2)] [(.int p1)]))
    refine own_step (fun t k => XS.bipush X0.here hx rfl (hb hby d5_7) k) ?_
    show own_G p.tables e below _ (s₁.setTop (mkF m 9 #[.val (.int p1), .val (.int p2)] [(.int (13 : Int32)), (.int p1)]))
    by_cases hc2 : p1 = (13 : Int32)
    · skip
      refine own_step (fun t k => XS.icmpNo X0.here hx rfl (hb hby d5_9) rfl ((teq hc2).2) k) ?_
      show own_G p.tables e below _ (s₁.setTop (mkF m 12 #[.val (.int p1), .val (.int p2)] []))
      refine own_step (fun t k => XS.iconst X0.here hx rfl (hb hby d5_12) k) ?_
      show own_G p.tables e below _ (s₁.setTop (mkF m 13 #[.val (.int p1), .val (.int p2)] [(.int (1 : Int32))]))
      refine own_step (fun t k => XS.goto X0.here hx rfl (pc0 := 13) (pc' := 17) rfl (hb hby d5_13) (by decide) (by decide) k) ?_
      show own_G p.tables e below _ (s₁.setTop (mkF m 17 #[.val (.int p1), .val (.int p2)] [(.int (1 : Int32))]))
      obtain ⟨fs, hr, hrun, hended, hW, hsame⟩ := X0.leave (v := some (.int (1 : Int32))) (fun h => by rw [Bd.returns] at h; cases h)
      refine own_done (retN X0 hx (t := .boolean) Bd.returns (by simp) (hb hby d5_17) hr) hrun hended ⟨_, _, rfl, ?_, ⟨_, rfl⟩, hW, hsame.mono (by decide) (by decide)⟩
      show Q5 Z p1 p2 h0 n0 _ s₁.heap _
      rw [e0]
      exact ⟨congrArg (fun z => some (Value.int z)) (show (1 : Int32) = (own_f5 p1 p2) from by unfold own_f5; simp only [if_pos hc1, if_pos hc2]), N0, rfl⟩
    · skip
      refine own_step (fun t k => XS.icmpYes X0.here hx rfl (pc0 := 9) (pc' := 16) rfl (hb hby d5_9) rfl ((feq hc2).2) (by decide) (by decide) k) ?_
      show own_G p.tables e below _ (s₁.setTop (mkF m 16 #[.val (.int p1), .val (.int p2)] []))
      refine own_step (fun t k => XS.iconst X0.here hx rfl (hb hby d5_16) k) ?_
      show own_G p.tables e below _ (s₁.setTop (mkF m 17 #[.val (.int p1), .val (.int p2)] [(.int (0 : Int32))]))
      obtain ⟨fs, hr, hrun, hended, hW, hsame⟩ := X0.leave (v := some (.int (0 : Int32))) (fun h => by rw [Bd.returns] at h; cases h)
      refine own_done (retN X0 hx (t := .boolean) Bd.returns (by simp) (hb hby d5_17) hr) hrun hended ⟨_, _, rfl, ?_, ⟨_, rfl⟩, hW, hsame.mono (by decide) (by decide)⟩
      show Q5 Z p1 p2 h0 n0 _ s₁.heap _
      rw [e0]
      exact ⟨congrArg (fun z => some (Value.int z)) (show (0 : Int32) = (own_f5 p1 p2) from by unfold own_f5; simp only [if_pos hc1, if_neg hc2]), N0, rfl⟩
  · skip
    refine own_step (fun t k => XS.icmpYes X0.here hx rfl (pc0 := 3) (pc' := 16) rfl (hb hby d5_3) rfl ((feq hc1).2) (by decide) (by decide) k) ?_
    show own_G p.tables e below _ (s₁.setTop (mkF m 16 #[.val (.int p1), .val (.int p2)] []))
    refine own_step (fun t k => XS.iconst X0.here hx rfl (hb hby d5_16) k) ?_
    show own_G p.tables e below _ (s₁.setTop (mkF m 17 #[.val (.int p1), .val (.int p2)] [(.int (0 : Int32))]))
    obtain ⟨fs, hr, hrun, hended, hW, hsame⟩ := X0.leave (v := some (.int (0 : Int32))) (fun h => by rw [Bd.returns] at h; cases h)
    refine own_done (retN X0 hx (t := .boolean) Bd.returns (by simp) (hb hby d5_17) hr) hrun hended ⟨_, _, rfl, ?_, ⟨_, rfl⟩, hW, hsame.mono (by decide) (by decide)⟩
    show Q5 Z p1 p2 h0 n0 _ s₁.heap _
    rw [e0]
    exact ⟨congrArg (fun z => some (Value.int z)) (show (0 : Int32) = (own_f5 p1 p2) from by unfold own_f5; simp only [if_neg hc1]), N0, rfl⟩
theorem d6_0 : decode method_4_code 0 = .ok (.iload_n 0, 1) := by decide +kernel
theorem d6_1 : decode method_4_code 1 = .ok (.bipush 10, 2) := by decide +kernel
theorem d6_3 : decode method_4_code 3 = .ok (.if_icmp .eq 9, 3) := by decide +kernel
theorem d6_6 : decode method_4_code 6 = .ok (.iload_n 0, 1) := by decide +kernel
theorem d6_7 : decode method_4_code 7 = .ok (.bipush 13, 2) := by decide +kernel
theorem d6_9 : decode method_4_code 9 = .ok (.if_icmp .ne 7, 3) := by decide +kernel
theorem d6_12 : decode method_4_code 12 = .ok (.iconst 1, 1) := by decide +kernel
theorem d6_13 : decode method_4_code 13 = .ok (.goto 4, 3) := by decide +kernel
theorem d6_16 : decode method_4_code 16 = .ok (.iconst 0, 1) := by decide +kernel
theorem d6_17 : decode method_4_code 17 = .ok (.ireturn, 1) := by decide +kernel
theorem pn_6 : plainName "com/example/same_bytes/samebytes/TextPositionAdvancePinLaw" = true := by first | (simp [plainName, overriddenIn]; done) | decide +kernel
theorem ef_6 (m : MethodId) (p1 : Int32) : entryFrame m #[(.int p1)] 1 = mkF m 0 #[.val (.int p1)] [] := by first | (simp [entryFrame, mkF, argsToLocals, Value.category]; done) | rfl
def own_f6 (p1 : Int32) : Int32 :=
  (if p1 = (10 : Int32) then (1 : Int32) else (if p1 = (13 : Int32) then (1 : Int32) else (0 : Int32)))
def Q6 (Z : State) (p1 : Int32) (h0 : Heap) (n0 : Nat) (v : Option Value) (h : Heap) (L : List Loc) : Prop := v = some (.int (own_f6 p1)) ∧ Fr n0 L ∧ h = h0
set_option maxRecDepth 65536 in
set_option maxHeartbeats 40000000 in
theorem rm6 (l : Launch) (Z : State) (a0 : Array Value) (hw : ∀ d ∈ tables_1, d.before a0 Z = true) (ws : List Jvm.Cond) (p1 : Int32) (h0 : Heap) (n0 : Nat) (Z0 : n0 ≤ h0.size) :
    MetFree l (⟨"com/example/same_bytes/samebytes/TextPositionAdvancePinLaw", "ends", "(C)Z"⟩ : MethodName) (head1 (Jvm.Cond.code (⟨"com/example/same_bytes/samebytes/TextPositionAdvancePinLaw", "ends", "(C)Z"⟩ : MethodName) method_4_code 1 (some .boolean) :: ws) ({ frames := 0, cells := 0, slots := 0, locals := 0 } : Room)) (fun a U => a = #[(.int p1)] ∧ Z.Warmed39 U.vm ∧ U.heap = h0) (fun _ _ _ _ _ => True) (fun _ U o U' => ∃ v L, o = .returned v ∧ Q6 Z p1 h0 n0 v U'.heap L ∧ FrameEnd U o U' L ({ frames := 0, cells := 0, slots := 0, locals := 0 } : Room).cells ({ frames := 0, cells := 0, slots := 0, locals := 0 } : Room).slots) := by
  refine MetFree.of_bodySF (plainFor_of_name pn_6) hisR ?_
  intro p e s m args below meth c s₁ Bd hml0 hP hK
  obtain ⟨rfl, hZ, hh⟩ := hP
  have hx := Bd.exec
  have hby := Bd.bytes
  have hml : c.maxLocals = 1 := hml0
  have hown : s.vm.findClass "com/example/same_bytes/samebytes/TextPositionAdvancePinLaw" = some m.cls := findClass_of_methodNamed Bd.named
  have hnm := (name_of_methodNamed Bd.named Bd.method).1
  have X0 : Stand p l e ({ frames := 0, cells := 0, slots := 0, locals := 0 } : Room) s m #[(.int p1)] below meth c s₁ [] 0 0 := Stand.of_body Bd
  have e0 : s₁.heap = h0 := by rw [← hh, Bd.state]; rfl
  have N0 := Fr.nil n0
  refine own_start (fun t k => castTop (ef_6 m p1) k) ?_
  show own_G p.tables e below _ (s₁.setTop (mkF m 0 #[.val (.int p1)] []))
  refine own_step (fun t k => XS.iloadN X0.here hx rfl (hb hby d6_0) rfl k) ?_
  show own_G p.tables e below _ (s₁.setTop (mkF m 1 #[.val (.int p1)] [(.int p1)]))
  refine own_step (fun t k => XS.bipush X0.here hx rfl (hb hby d6_1) k) ?_
  show own_G p.tables e below _ (s₁.setTop (mkF m 3 #[.val (.int p1)] [(.int (10 : Int32)), (.int p1)]))
  by_cases hc1 : p1 = (10 : Int32)
  · skip
    refine own_step (fun t k => XS.icmpYes X0.here hx rfl (pc0 := 3) (pc' := 12) rfl (hb hby d6_3) rfl ((teq hc1).1) (by decide) (by decide) k) ?_
    show own_G p.tables e below _ (s₁.setTop (mkF m 12 #[.val (.int p1)] []))
    refine own_step (fun t k => XS.iconst X0.here hx rfl (hb hby d6_12) k) ?_
    show own_G p.tables e below _ (s₁.setTop (mkF m 13 #[.val (.int p1)] [(.int (1 : Int32))]))
    refine own_step (fun t k => XS.goto X0.here hx rfl (pc0 := 13) (pc' := 17) rfl (hb hby d6_13) (by decide) (by decide) k) ?_
    show own_G p.tables e below _ (s₁.setTop (mkF m 17 #[.val (.int p1)] [(.int (1 : Int32))]))
    obtain ⟨fs, hr, hrun, hended, hW, hsame⟩ := X0.leave (v := some (.int (1 : Int32))) (fun h => by rw [Bd.returns] at h; cases h)
    refine own_done (retN X0 hx (t := .boolean) Bd.returns (by simp) (hb hby d6_17) hr) hrun hended ⟨_, _, rfl, ?_, ⟨_, rfl⟩, hW, hsame.mono (by decide) (by decide)⟩
    show Q6 Z p1 h0 n0 _ s₁.heap _
    rw [e0]
    exact ⟨congrArg (fun z => some (Value.int z)) (show (1 : Int32) = (own_f6 p1) from by unfold own_f6; simp only [if_pos hc1]), N0, rfl⟩
  · skip
    refine own_step (fun t k => XS.icmpNo X0.here hx rfl (hb hby d6_3) rfl ((feq hc1).1) k) ?_
    show own_G p.tables e below _ (s₁.setTop (mkF m 6 #[.val (.int p1)] []))
    refine own_step (fun t k => XS.iloadN X0.here hx rfl (hb hby d6_6) rfl k) ?_
    show own_G p.tables e below _ (s₁.setTop (mkF m 7 #[.val (.int p1)] [(.int p1)]))
    refine own_step (fun t k => XS.bipush X0.here hx rfl (hb hby d6_7) k) ?_
    show own_G p.tables e below _ (s₁.setTop (mkF m 9 #[.val (.int p1)] [(.int (13 : Int32)), (.int p1)]))
    by_cases hc2 : p1 = (13 : Int32)
    · skip
      refine own_step (fun t k => XS.icmpNo X0.here hx rfl (hb hby d6_9) rfl ((teq hc2).2) k) ?_
      show own_G p.tables e below _ (s₁.setTop (mkF m 12 #[.val (.int p1)] []))
      refine own_step (fun t k => XS.iconst X0.here hx rfl (hb hby d6_12) k) ?_
      show own_G p.tables e below _ (s₁.setTop (mkF m 13 #[.val (.int p1)] [(.int (1 : Int32))]))
      refine own_step (fun t k => XS.goto X0.here hx rfl (pc0 := 13) (pc' := 17) rfl (hb hby d6_13) (by decide) (by decide) k) ?_
      show own_G p.tables e below _ (s₁.setTop (mkF m 17 #[.val (.int p1)] [(.int (1 : Int32))]))
      obtain ⟨fs, hr, hrun, hended, hW, hsame⟩ := X0.leave (v := some (.int (1 : Int32))) (fun h => by rw [Bd.returns] at h; cases h)
      refine own_done (retN X0 hx (t := .boolean) Bd.returns (by simp) (hb hby d6_17) hr) hrun hended ⟨_, _, rfl, ?_, ⟨_, rfl⟩, hW, hsame.mono (by decide) (by decide)⟩
      show Q6 Z p1 h0 n0 _ s₁.heap _
      rw [e0]
      exact ⟨congrArg (fun z => some (Value.int z)) (show (1 : Int32) = (own_f6 p1) from by unfold own_f6; simp only [if_neg hc1, if_pos hc2]), N0, rfl⟩
    · skip
      refine own_step (fun t k => XS.icmpYes X0.here hx rfl (pc0 := 9) (pc' := 16) rfl (hb hby d6_9) rfl ((feq hc2).2) (by decide) (by decide) k) ?_
      show own_G p.tables e below _ (s₁.setTop (mkF m 16 #[.val (.int p1)] []))
      refine own_step (fun t k => XS.iconst X0.here hx rfl (hb hby d6_16) k) ?_
      show own_G p.tables e below _ (s₁.setTop (mkF m 17 #[.val (.int p1)] [(.int (0 : Int32))]))
      obtain ⟨fs, hr, hrun, hended, hW, hsame⟩ := X0.leave (v := some (.int (0 : Int32))) (fun h => by rw [Bd.returns] at h; cases h)
      refine own_done (retN X0 hx (t := .boolean) Bd.returns (by simp) (hb hby d6_17) hr) hrun hended ⟨_, _, rfl, ?_, ⟨_, rfl⟩, hW, hsame.mono (by decide) (by decide)⟩
      show Q6 Z p1 h0 n0 _ s₁.heap _
      rw [e0]
      exact ⟨congrArg (fun z => some (Value.int z)) (show (0 : Int32) = (own_f6 p1) from by unfold own_f6; simp only [if_neg hc1, if_neg hc2]), N0, rfl⟩
theorem d4_0 : decode method_5_code 0 = .ok (.iload_n 1, 1) := by decide +kernel
theorem d4_1 : decode method_5_code 1 = .ok (.iload_n 2, 1) := by decide +kernel
theorem d4_2 : decode method_5_code 2 = .ok (.invokestatic 7, 3) := by decide +kernel
theorem d4_5 : decode method_5_code 5 = .ok (.ifCond .eq 5, 3) := by decide +kernel
theorem d4_8 : decode method_5_code 8 = .ok (.iload_n 0, 1) := by decide +kernel
theorem d4_9 : decode method_5_code 9 = .ok (.ireturn, 1) := by decide +kernel
theorem d4_10 : decode method_5_code 10 = .ok (.iload_n 2, 1) := by decide +kernel
theorem d4_11 : decode method_5_code 11 = .ok (.invokestatic 13, 3) := by decide +kernel
theorem d4_14 : decode method_5_code 14 = .ok (.ifCond .eq 7, 3) := by decide +kernel
theorem d4_17 : decode method_5_code 17 = .ok (.iload_n 0, 1) := by decide +kernel
theorem d4_18 : decode method_5_code 18 = .ok (.iconst 1, 1) := by decide +kernel
theorem d4_19 : decode method_5_code 19 = .ok (.iadd, 1) := by decide +kernel
theorem d4_20 : decode method_5_code 20 = .ok (.ireturn, 1) := by decide +kernel
theorem d4_21 : decode method_5_code 21 = .ok (.iload_n 0, 1) := by decide +kernel
theorem d4_22 : decode method_5_code 22 = .ok (.ireturn, 1) := by decide +kernel
theorem pn_4 : plainName "com/example/same_bytes/samebytes/TextPositionAdvancePinLaw" = true := by first | (simp [plainName, overriddenIn]; done) | decide +kernel
theorem pd_4_0 : parseMethodDescriptor "(CC)Z" = some ⟨[.char, .char], some .boolean⟩ := by decide +kernel
theorem pd_4_1 : parseMethodDescriptor "(C)Z" = some ⟨[.char], some .boolean⟩ := by decide +kernel
theorem ef_4 (m : MethodId) (p1 : Int32) (p2 : Int32) (p3 : Int32) : entryFrame m #[(.int p1), (.int p2), (.int p3)] 3 = mkF m 0 #[.val (.int p1), .val (.int p2), .val (.int p3)] [] := by first | (simp [entryFrame, mkF, argsToLocals, Value.category]; done) | rfl
def own_f4 (p1 : Int32) (p2 : Int32) (p3 : Int32) : Int32 :=
  (if (own_f5 p2 p3) = (0 : Int32) then (if (own_f6 p3) = (0 : Int32) then p1 else (p1 + (1 : Int32))) else p1)
def Q4 (Z : State) (p1 : Int32) (p2 : Int32) (p3 : Int32) (h0 : Heap) (n0 : Nat) (v : Option Value) (h : Heap) (L : List Loc) : Prop := v = some (.int (own_f4 p1 p2 p3)) ∧ Fr n0 L ∧ h = h0
set_option maxRecDepth 65536 in
set_option maxHeartbeats 40000000 in
theorem rm4 (l : Launch) (Z : State) (a0 : Array Value) (hw : ∀ d ∈ tables_1, d.before a0 Z = true) (ws : List Jvm.Cond) (p1 : Int32) (p2 : Int32) (p3 : Int32) (h0 : Heap) (n0 : Nat) (Z0 : n0 ≤ h0.size) :
    MetFree l (⟨"com/example/same_bytes/samebytes/TextPositionAdvancePinLaw", "expLine", "(ICC)I"⟩ : MethodName) (head1 (Jvm.Cond.code (⟨"com/example/same_bytes/samebytes/TextPositionAdvancePinLaw", "expLine", "(ICC)I"⟩ : MethodName) method_5_code 3 (some .int) :: ws) ({ frames := 1, cells := 0, slots := 0, locals := 13 } : Room)) (fun a U => a = #[(.int p1), (.int p2), (.int p3)] ∧ Z.Warmed39 U.vm ∧ U.heap = h0) (fun _ _ _ _ _ => True) (fun _ U o U' => ∃ v L, o = .returned v ∧ Q4 Z p1 p2 p3 h0 n0 v U'.heap L ∧ FrameEnd U o U' L ({ frames := 1, cells := 0, slots := 0, locals := 13 } : Room).cells ({ frames := 1, cells := 0, slots := 0, locals := 13 } : Room).slots) := by
  refine MetFree.of_bodySF (plainFor_of_name pn_4) hisR ?_
  intro p e s m args below meth c s₁ Bd hml0 hP hK
  obtain ⟨rfl, hZ, hh⟩ := hP
  have hx := Bd.exec
  have hby := Bd.bytes
  have hml : c.maxLocals = 3 := hml0
  have hown : s.vm.findClass "com/example/same_bytes/samebytes/TextPositionAdvancePinLaw" = some m.cls := findClass_of_methodNamed Bd.named
  have hnm := (name_of_methodNamed Bd.named Bd.method).1
  have X0 : Stand p l e ({ frames := 1, cells := 0, slots := 0, locals := 13 } : Room) s m #[(.int p1), (.int p2), (.int p3)] below meth c s₁ [] 0 0 := Stand.of_body Bd
  have e0 : s₁.heap = h0 := by rw [← hh, Bd.state]; rfl
  have N0 := Fr.nil n0
  refine own_start (fun t k => castTop (ef_4 m p1 p2 p3) k) ?_
  show own_G p.tables e below _ (s₁.setTop (mkF m 0 #[.val (.int p1), .val (.int p2), .val (.int p3)] []))
  refine own_step (fun t k => XS.iloadN X0.here hx rfl (hb hby d4_0) rfl k) ?_
  show own_G p.tables e below _ (s₁.setTop (mkF m 1 #[.val (.int p1), .val (.int p2), .val (.int p3)] [(.int p2)]))
  refine own_step (fun t k => XS.iloadN X0.here hx rfl (hb hby d4_1) rfl k) ?_
  show own_G p.tables e below _ (s₁.setTop (mkF m 2 #[.val (.int p1), .val (.int p2), .val (.int p3)] [(.int p3), (.int p2)]))
  obtain ⟨_, _, ⟨T1, L1, k1, n1⟩, -, X1, ⟨Lc1, hQ1, l1, y1, z1⟩, st1⟩ := Jvm.LawKit.callS X0 hx (y := (⟨"com/example/same_bytes/samebytes/TextPositionAdvancePinLaw", "skips", "(CC)Z"⟩ : MethodName)) hown (mvT hZ (hw _ (List.mem_of_getElem? (i := 20) rfl))) (mvT hZ (hw _ (List.mem_of_getElem? (i := 21) rfl))) (mvT hZ (hw _ (List.mem_of_getElem? (i := 2) rfl))) (mvT hZ (hw _ (List.mem_of_getElem? (i := 22) rfl))) (by decide) (backOf (W := 0) (rm5 l Z a0 hw [] p2 p3 h0 n0 (Nat.le_trans Z0 (Keep.refl h0 []).1) ) hZ (hw _ (List.mem_of_getElem? (i := 22) rfl)) (hw _ (List.mem_of_getElem? (i := 2) rfl)) (by decide) (by decide)) (g := (mkF m 2 #[.val (.int p1), .val (.int p2), .val (.int p3)] [(.int p3), (.int p2)])) rfl (by rw [hml]; rfl) (argsL := [(.int p2), (.int p3)]) (rest := []) (lenOf pd_4_0 rfl) rfl (by show 2 * 0 + _ ≤ _; exact Nat.le_of_eq rfl) (hb hby d4_2) (fun _ _ => ⟨rfl, e0, (by decide : 0 + 0 ≤ _), (by decide : 0 + 0 ≤ _)⟩)
  dsimp only [Pt.U, Pt.locs, Pt.cells, Pt.slots] at X1 l1 y1 z1 st1 hQ1
  subst l1 y1 z1
  obtain ⟨rfl, N1q, e1⟩ := hQ1
  have N1 := Fr.app N0 N1q
  refine own_step st1 ?_
  show own_G p.tables e below _ (T1.setTop (mkF m 5 #[.val (.int p1), .val (.int p2), .val (.int p3)] [(.int (own_f5 p2 p3))]))
  by_cases hc2 : (own_f5 p2 p3) = (0 : Int32)
  · skip
    refine own_step (fun t k => XS.ifYes X1.here hx rfl (pc0 := 5) (pc' := 10) rfl (hb hby d4_5) rfl ((if0 _ _).trans (teq hc2).1) (by decide) (by decide) k) ?_
    show own_G p.tables e below _ (T1.setTop (mkF m 10 #[.val (.int p1), .val (.int p2), .val (.int p3)] []))
    refine own_step (fun t k => XS.iloadN X1.here hx rfl (hb hby d4_10) rfl k) ?_
    show own_G p.tables e below _ (T1.setTop (mkF m 11 #[.val (.int p1), .val (.int p2), .val (.int p3)] [(.int p3)]))
    obtain ⟨_, _, ⟨T3, L3, k3, n3⟩, -, X3, ⟨Lc3, hQ3, l3, y3, z3⟩, st3⟩ := Jvm.LawKit.callS X1 hx (y := (⟨"com/example/same_bytes/samebytes/TextPositionAdvancePinLaw", "ends", "(C)Z"⟩ : MethodName)) hown (mvT hZ (hw _ (List.mem_of_getElem? (i := 23) rfl))) (mvT hZ (hw _ (List.mem_of_getElem? (i := 24) rfl))) (mvT hZ (hw _ (List.mem_of_getElem? (i := 2) rfl))) (mvT hZ (hw _ (List.mem_of_getElem? (i := 25) rfl))) (by decide) (backOf (W := 0) (rm6 l Z a0 hw [] p3 h0 n0 (Nat.le_trans Z0 (Keep.refl h0 []).1) ) hZ (hw _ (List.mem_of_getElem? (i := 25) rfl)) (hw _ (List.mem_of_getElem? (i := 2) rfl)) (by decide) (by decide)) (g := (mkF m 11 #[.val (.int p1), .val (.int p2), .val (.int p3)] [(.int p3)])) rfl (by rw [hml]; rfl) (argsL := [(.int p3)]) (rest := []) (lenOf pd_4_1 rfl) rfl (by show 2 * 0 + _ ≤ _; exact Nat.le_of_eq rfl) (hb hby d4_11) (fun _ _ => ⟨rfl, e1, (by decide : 0 + 0 ≤ _), (by decide : 0 + 0 ≤ _)⟩)
    dsimp only [Pt.U, Pt.locs, Pt.cells, Pt.slots] at X3 l3 y3 z3 st3 hQ3
    subst l3 y3 z3
    obtain ⟨rfl, N3q, e3⟩ := hQ3
    have N3 := Fr.app N1 N3q
    refine own_step st3 ?_
    show own_G p.tables e below _ (T3.setTop (mkF m 14 #[.val (.int p1), .val (.int p2), .val (.int p3)] [(.int (own_f6 p3))]))
    by_cases hc4 : (own_f6 p3) = (0 : Int32)
    · skip
      refine own_step (fun t k => XS.ifYes X3.here hx rfl (pc0 := 14) (pc' := 21) rfl (hb hby d4_14) rfl ((if0 _ _).trans (teq hc4).1) (by decide) (by decide) k) ?_
      show own_G p.tables e below _ (T3.setTop (mkF m 21 #[.val (.int p1), .val (.int p2), .val (.int p3)] []))
      refine own_step (fun t k => XS.iloadN X3.here hx rfl (hb hby d4_21) rfl k) ?_
      show own_G p.tables e below _ (T3.setTop (mkF m 22 #[.val (.int p1), .val (.int p2), .val (.int p3)] [(.int p1)]))
      obtain ⟨fs, hr, hrun, hended, hW, hsame⟩ := X3.leave (v := some (.int p1)) (fun h => by rw [Bd.returns] at h; cases h)
      refine own_done (retI X3 hx Bd.returns (hb hby d4_22) hr) hrun hended ⟨_, _, rfl, ?_, ⟨_, rfl⟩, hW, hsame.mono (by decide) (by decide)⟩
      show Q4 Z p1 p2 p3 h0 n0 _ T3.heap _
      rw [e3]
      exact ⟨congrArg (fun z => some (Value.int z)) (show p1 = (own_f4 p1 p2 p3) from by unfold own_f4; simp only [if_pos hc2, if_pos hc4]), N3, rfl⟩
    · skip
      refine own_step (fun t k => XS.ifNo X3.here hx rfl (hb hby d4_14) rfl ((if0 _ _).trans (feq hc4).1) k) ?_
      show own_G p.tables e below _ (T3.setTop (mkF m 17 #[.val (.int p1), .val (.int p2), .val (.int p3)] []))
      refine own_step (fun t k => XS.iloadN X3.here hx rfl (hb hby d4_17) rfl k) ?_
      show own_G p.tables e below _ (T3.setTop (mkF m 18 #[.val (.int p1), .val (.int p2), .val (.int p3)] [(.int p1)]))
      refine own_step (fun t k => XS.iconst X3.here hx rfl (hb hby d4_18) k) ?_
      show own_G p.tables e below _ (T3.setTop (mkF m 19 #[.val (.int p1), .val (.int p2), .val (.int p3)] [(.int (1 : Int32)), (.int p1)]))
      refine own_step (fun t k => XS.iadd X3.here hx rfl (hb hby d4_19) rfl k) ?_
      show own_G p.tables e below _ (T3.setTop (mkF m 20 #[.val (.int p1), .val (.int p2), .val (.int p3)] [(.int (p1 + (1 : Int32)))]))
      obtain ⟨fs, hr, hrun, hended, hW, hsame⟩ := X3.leave (v := some (.int (p1 + (1 : Int32)))) (fun h => by rw [Bd.returns] at h; cases h)
      refine own_done (retI X3 hx Bd.returns (hb hby d4_20) hr) hrun hended ⟨_, _, rfl, ?_, ⟨_, rfl⟩, hW, hsame.mono (by decide) (by decide)⟩
      show Q4 Z p1 p2 p3 h0 n0 _ T3.heap _
      rw [e3]
      exact ⟨congrArg (fun z => some (Value.int z)) (show (p1 + (1 : Int32)) = (own_f4 p1 p2 p3) from by unfold own_f4; simp only [if_pos hc2, if_neg hc4]), N3, rfl⟩
  · skip
    refine own_step (fun t k => XS.ifNo X1.here hx rfl (hb hby d4_5) rfl ((if0 _ _).trans (feq hc2).1) k) ?_
    show own_G p.tables e below _ (T1.setTop (mkF m 8 #[.val (.int p1), .val (.int p2), .val (.int p3)] []))
    refine own_step (fun t k => XS.iloadN X1.here hx rfl (hb hby d4_8) rfl k) ?_
    show own_G p.tables e below _ (T1.setTop (mkF m 9 #[.val (.int p1), .val (.int p2), .val (.int p3)] [(.int p1)]))
    obtain ⟨fs, hr, hrun, hended, hW, hsame⟩ := X1.leave (v := some (.int p1)) (fun h => by rw [Bd.returns] at h; cases h)
    refine own_done (retI X1 hx Bd.returns (hb hby d4_9) hr) hrun hended ⟨_, _, rfl, ?_, ⟨_, rfl⟩, hW, hsame.mono (by decide) (by decide)⟩
    show Q4 Z p1 p2 p3 h0 n0 _ T1.heap _
    rw [e1]
    exact ⟨congrArg (fun z => some (Value.int z)) (show p1 = (own_f4 p1 p2 p3) from by unfold own_f4; simp only [if_neg hc2]), N1, rfl⟩
theorem d7_0 : decode method_6_code 0 = .ok (.iload_n 1, 1) := by decide +kernel
theorem d7_1 : decode method_6_code 1 = .ok (.iload_n 2, 1) := by decide +kernel
theorem d7_2 : decode method_6_code 2 = .ok (.invokestatic 7, 3) := by decide +kernel
theorem d7_5 : decode method_6_code 5 = .ok (.ifCond .eq 5, 3) := by decide +kernel
theorem d7_8 : decode method_6_code 8 = .ok (.iload_n 0, 1) := by decide +kernel
theorem d7_9 : decode method_6_code 9 = .ok (.ireturn, 1) := by decide +kernel
theorem d7_10 : decode method_6_code 10 = .ok (.iload_n 2, 1) := by decide +kernel
theorem d7_11 : decode method_6_code 11 = .ok (.invokestatic 13, 3) := by decide +kernel
theorem d7_14 : decode method_6_code 14 = .ok (.ifCond .eq 5, 3) := by decide +kernel
theorem d7_17 : decode method_6_code 17 = .ok (.iconst 1, 1) := by decide +kernel
theorem d7_18 : decode method_6_code 18 = .ok (.ireturn, 1) := by decide +kernel
theorem d7_19 : decode method_6_code 19 = .ok (.iload_n 0, 1) := by decide +kernel
theorem d7_20 : decode method_6_code 20 = .ok (.iconst 1, 1) := by decide +kernel
theorem d7_21 : decode method_6_code 21 = .ok (.iadd, 1) := by decide +kernel
theorem d7_22 : decode method_6_code 22 = .ok (.ireturn, 1) := by decide +kernel
theorem pn_7 : plainName "com/example/same_bytes/samebytes/TextPositionAdvancePinLaw" = true := by first | (simp [plainName, overriddenIn]; done) | decide +kernel
theorem pd_7_0 : parseMethodDescriptor "(CC)Z" = some ⟨[.char, .char], some .boolean⟩ := by decide +kernel
theorem pd_7_1 : parseMethodDescriptor "(C)Z" = some ⟨[.char], some .boolean⟩ := by decide +kernel
theorem ef_7 (m : MethodId) (p1 : Int32) (p2 : Int32) (p3 : Int32) : entryFrame m #[(.int p1), (.int p2), (.int p3)] 3 = mkF m 0 #[.val (.int p1), .val (.int p2), .val (.int p3)] [] := by first | (simp [entryFrame, mkF, argsToLocals, Value.category]; done) | rfl
def own_f7 (p1 : Int32) (p2 : Int32) (p3 : Int32) : Int32 :=
  (if (own_f5 p2 p3) = (0 : Int32) then (if (own_f6 p3) = (0 : Int32) then (p1 + (1 : Int32)) else (1 : Int32)) else p1)
def Q7 (Z : State) (p1 : Int32) (p2 : Int32) (p3 : Int32) (h0 : Heap) (n0 : Nat) (v : Option Value) (h : Heap) (L : List Loc) : Prop := v = some (.int (own_f7 p1 p2 p3)) ∧ Fr n0 L ∧ h = h0
set_option maxRecDepth 65536 in
set_option maxHeartbeats 40000000 in
theorem rm7 (l : Launch) (Z : State) (a0 : Array Value) (hw : ∀ d ∈ tables_1, d.before a0 Z = true) (ws : List Jvm.Cond) (p1 : Int32) (p2 : Int32) (p3 : Int32) (h0 : Heap) (n0 : Nat) (Z0 : n0 ≤ h0.size) :
    MetFree l (⟨"com/example/same_bytes/samebytes/TextPositionAdvancePinLaw", "expCol", "(ICC)I"⟩ : MethodName) (head1 (Jvm.Cond.code (⟨"com/example/same_bytes/samebytes/TextPositionAdvancePinLaw", "expCol", "(ICC)I"⟩ : MethodName) method_6_code 3 (some .int) :: ws) ({ frames := 1, cells := 0, slots := 0, locals := 13 } : Room)) (fun a U => a = #[(.int p1), (.int p2), (.int p3)] ∧ Z.Warmed39 U.vm ∧ U.heap = h0) (fun _ _ _ _ _ => True) (fun _ U o U' => ∃ v L, o = .returned v ∧ Q7 Z p1 p2 p3 h0 n0 v U'.heap L ∧ FrameEnd U o U' L ({ frames := 1, cells := 0, slots := 0, locals := 13 } : Room).cells ({ frames := 1, cells := 0, slots := 0, locals := 13 } : Room).slots) := by
  refine MetFree.of_bodySF (plainFor_of_name pn_7) hisR ?_
  intro p e s m args below meth c s₁ Bd hml0 hP hK
  obtain ⟨rfl, hZ, hh⟩ := hP
  have hx := Bd.exec
  have hby := Bd.bytes
  have hml : c.maxLocals = 3 := hml0
  have hown : s.vm.findClass "com/example/same_bytes/samebytes/TextPositionAdvancePinLaw" = some m.cls := findClass_of_methodNamed Bd.named
  have hnm := (name_of_methodNamed Bd.named Bd.method).1
  have X0 : Stand p l e ({ frames := 1, cells := 0, slots := 0, locals := 13 } : Room) s m #[(.int p1), (.int p2), (.int p3)] below meth c s₁ [] 0 0 := Stand.of_body Bd
  have e0 : s₁.heap = h0 := by rw [← hh, Bd.state]; rfl
  have N0 := Fr.nil n0
  refine own_start (fun t k => castTop (ef_7 m p1 p2 p3) k) ?_
  show own_G p.tables e below _ (s₁.setTop (mkF m 0 #[.val (.int p1), .val (.int p2), .val (.int p3)] []))
  refine own_step (fun t k => XS.iloadN X0.here hx rfl (hb hby d7_0) rfl k) ?_
  show own_G p.tables e below _ (s₁.setTop (mkF m 1 #[.val (.int p1), .val (.int p2), .val (.int p3)] [(.int p2)]))
  refine own_step (fun t k => XS.iloadN X0.here hx rfl (hb hby d7_1) rfl k) ?_
  show own_G p.tables e below _ (s₁.setTop (mkF m 2 #[.val (.int p1), .val (.int p2), .val (.int p3)] [(.int p3), (.int p2)]))
  obtain ⟨_, _, ⟨T1, L1, k1, n1⟩, -, X1, ⟨Lc1, hQ1, l1, y1, z1⟩, st1⟩ := Jvm.LawKit.callS X0 hx (y := (⟨"com/example/same_bytes/samebytes/TextPositionAdvancePinLaw", "skips", "(CC)Z"⟩ : MethodName)) hown (mvT hZ (hw _ (List.mem_of_getElem? (i := 20) rfl))) (mvT hZ (hw _ (List.mem_of_getElem? (i := 21) rfl))) (mvT hZ (hw _ (List.mem_of_getElem? (i := 2) rfl))) (mvT hZ (hw _ (List.mem_of_getElem? (i := 22) rfl))) (by decide) (backOf (W := 0) (rm5 l Z a0 hw [] p2 p3 h0 n0 (Nat.le_trans Z0 (Keep.refl h0 []).1) ) hZ (hw _ (List.mem_of_getElem? (i := 22) rfl)) (hw _ (List.mem_of_getElem? (i := 2) rfl)) (by decide) (by decide)) (g := (mkF m 2 #[.val (.int p1), .val (.int p2), .val (.int p3)] [(.int p3), (.int p2)])) rfl (by rw [hml]; rfl) (argsL := [(.int p2), (.int p3)]) (rest := []) (lenOf pd_7_0 rfl) rfl (by show 2 * 0 + _ ≤ _; exact Nat.le_of_eq rfl) (hb hby d7_2) (fun _ _ => ⟨rfl, e0, (by decide : 0 + 0 ≤ _), (by decide : 0 + 0 ≤ _)⟩)
  dsimp only [Pt.U, Pt.locs, Pt.cells, Pt.slots] at X1 l1 y1 z1 st1 hQ1
  subst l1 y1 z1
  obtain ⟨rfl, N1q, e1⟩ := hQ1
  have N1 := Fr.app N0 N1q
  refine own_step st1 ?_
  show own_G p.tables e below _ (T1.setTop (mkF m 5 #[.val (.int p1), .val (.int p2), .val (.int p3)] [(.int (own_f5 p2 p3))]))
  by_cases hc2 : (own_f5 p2 p3) = (0 : Int32)
  · skip
    refine own_step (fun t k => XS.ifYes X1.here hx rfl (pc0 := 5) (pc' := 10) rfl (hb hby d7_5) rfl ((if0 _ _).trans (teq hc2).1) (by decide) (by decide) k) ?_
    show own_G p.tables e below _ (T1.setTop (mkF m 10 #[.val (.int p1), .val (.int p2), .val (.int p3)] []))
    refine own_step (fun t k => XS.iloadN X1.here hx rfl (hb hby d7_10) rfl k) ?_
    show own_G p.tables e below _ (T1.setTop (mkF m 11 #[.val (.int p1), .val (.int p2), .val (.int p3)] [(.int p3)]))
    obtain ⟨_, _, ⟨T3, L3, k3, n3⟩, -, X3, ⟨Lc3, hQ3, l3, y3, z3⟩, st3⟩ := Jvm.LawKit.callS X1 hx (y := (⟨"com/example/same_bytes/samebytes/TextPositionAdvancePinLaw", "ends", "(C)Z"⟩ : MethodName)) hown (mvT hZ (hw _ (List.mem_of_getElem? (i := 23) rfl))) (mvT hZ (hw _ (List.mem_of_getElem? (i := 24) rfl))) (mvT hZ (hw _ (List.mem_of_getElem? (i := 2) rfl))) (mvT hZ (hw _ (List.mem_of_getElem? (i := 25) rfl))) (by decide) (backOf (W := 0) (rm6 l Z a0 hw [] p3 h0 n0 (Nat.le_trans Z0 (Keep.refl h0 []).1) ) hZ (hw _ (List.mem_of_getElem? (i := 25) rfl)) (hw _ (List.mem_of_getElem? (i := 2) rfl)) (by decide) (by decide)) (g := (mkF m 11 #[.val (.int p1), .val (.int p2), .val (.int p3)] [(.int p3)])) rfl (by rw [hml]; rfl) (argsL := [(.int p3)]) (rest := []) (lenOf pd_7_1 rfl) rfl (by show 2 * 0 + _ ≤ _; exact Nat.le_of_eq rfl) (hb hby d7_11) (fun _ _ => ⟨rfl, e1, (by decide : 0 + 0 ≤ _), (by decide : 0 + 0 ≤ _)⟩)
    dsimp only [Pt.U, Pt.locs, Pt.cells, Pt.slots] at X3 l3 y3 z3 st3 hQ3
    subst l3 y3 z3
    obtain ⟨rfl, N3q, e3⟩ := hQ3
    have N3 := Fr.app N1 N3q
    refine own_step st3 ?_
    show own_G p.tables e below _ (T3.setTop (mkF m 14 #[.val (.int p1), .val (.int p2), .val (.int p3)] [(.int (own_f6 p3))]))
    by_cases hc4 : (own_f6 p3) = (0 : Int32)
    · skip
      refine own_step (fun t k => XS.ifYes X3.here hx rfl (pc0 := 14) (pc' := 19) rfl (hb hby d7_14) rfl ((if0 _ _).trans (teq hc4).1) (by decide) (by decide) k) ?_
      show own_G p.tables e below _ (T3.setTop (mkF m 19 #[.val (.int p1), .val (.int p2), .val (.int p3)] []))
      refine own_step (fun t k => XS.iloadN X3.here hx rfl (hb hby d7_19) rfl k) ?_
      show own_G p.tables e below _ (T3.setTop (mkF m 20 #[.val (.int p1), .val (.int p2), .val (.int p3)] [(.int p1)]))
      refine own_step (fun t k => XS.iconst X3.here hx rfl (hb hby d7_20) k) ?_
      show own_G p.tables e below _ (T3.setTop (mkF m 21 #[.val (.int p1), .val (.int p2), .val (.int p3)] [(.int (1 : Int32)), (.int p1)]))
      refine own_step (fun t k => XS.iadd X3.here hx rfl (hb hby d7_21) rfl k) ?_
      show own_G p.tables e below _ (T3.setTop (mkF m 22 #[.val (.int p1), .val (.int p2), .val (.int p3)] [(.int (p1 + (1 : Int32)))]))
      obtain ⟨fs, hr, hrun, hended, hW, hsame⟩ := X3.leave (v := some (.int (p1 + (1 : Int32)))) (fun h => by rw [Bd.returns] at h; cases h)
      refine own_done (retI X3 hx Bd.returns (hb hby d7_22) hr) hrun hended ⟨_, _, rfl, ?_, ⟨_, rfl⟩, hW, hsame.mono (by decide) (by decide)⟩
      show Q7 Z p1 p2 p3 h0 n0 _ T3.heap _
      rw [e3]
      exact ⟨congrArg (fun z => some (Value.int z)) (show (p1 + (1 : Int32)) = (own_f7 p1 p2 p3) from by unfold own_f7; simp only [if_pos hc2, if_pos hc4]), N3, rfl⟩
    · skip
      refine own_step (fun t k => XS.ifNo X3.here hx rfl (hb hby d7_14) rfl ((if0 _ _).trans (feq hc4).1) k) ?_
      show own_G p.tables e below _ (T3.setTop (mkF m 17 #[.val (.int p1), .val (.int p2), .val (.int p3)] []))
      refine own_step (fun t k => XS.iconst X3.here hx rfl (hb hby d7_17) k) ?_
      show own_G p.tables e below _ (T3.setTop (mkF m 18 #[.val (.int p1), .val (.int p2), .val (.int p3)] [(.int (1 : Int32))]))
      obtain ⟨fs, hr, hrun, hended, hW, hsame⟩ := X3.leave (v := some (.int (1 : Int32))) (fun h => by rw [Bd.returns] at h; cases h)
      refine own_done (retI X3 hx Bd.returns (hb hby d7_18) hr) hrun hended ⟨_, _, rfl, ?_, ⟨_, rfl⟩, hW, hsame.mono (by decide) (by decide)⟩
      show Q7 Z p1 p2 p3 h0 n0 _ T3.heap _
      rw [e3]
      exact ⟨congrArg (fun z => some (Value.int z)) (show (1 : Int32) = (own_f7 p1 p2 p3) from by unfold own_f7; simp only [if_pos hc2, if_neg hc4]), N3, rfl⟩
  · skip
    refine own_step (fun t k => XS.ifNo X1.here hx rfl (hb hby d7_5) rfl ((if0 _ _).trans (feq hc2).1) k) ?_
    show own_G p.tables e below _ (T1.setTop (mkF m 8 #[.val (.int p1), .val (.int p2), .val (.int p3)] []))
    refine own_step (fun t k => XS.iloadN X1.here hx rfl (hb hby d7_8) rfl k) ?_
    show own_G p.tables e below _ (T1.setTop (mkF m 9 #[.val (.int p1), .val (.int p2), .val (.int p3)] [(.int p1)]))
    obtain ⟨fs, hr, hrun, hended, hW, hsame⟩ := X1.leave (v := some (.int p1)) (fun h => by rw [Bd.returns] at h; cases h)
    refine own_done (retI X1 hx Bd.returns (hb hby d7_9) hr) hrun hended ⟨_, _, rfl, ?_, ⟨_, rfl⟩, hW, hsame.mono (by decide) (by decide)⟩
    show Q7 Z p1 p2 p3 h0 n0 _ T1.heap _
    rw [e1]
    exact ⟨congrArg (fun z => some (Value.int z)) (show p1 = (own_f7 p1 p2 p3) from by unfold own_f7; simp only [if_neg hc2]), N1, rfl⟩
theorem d8_0 : decode prog_112_method_3_code 0 = .ok (.aload_n 0, 1) := by decide +kernel
theorem d8_1 : decode prog_112_method_3_code 1 = .ok (.getfield 19, 3) := by decide +kernel
theorem d8_4 : decode prog_112_method_3_code 4 = .ok (.istore_n 2, 1) := by decide +kernel
theorem d8_5 : decode prog_112_method_3_code 5 = .ok (.aload_n 0, 1) := by decide +kernel
theorem d8_6 : decode prog_112_method_3_code 6 = .ok (.iload_n 1, 1) := by decide +kernel
theorem d8_7 : decode prog_112_method_3_code 7 = .ok (.putfield 19, 3) := by decide +kernel
theorem d8_10 : decode prog_112_method_3_code 10 = .ok (.iload_n 1, 1) := by decide +kernel
theorem d8_11 : decode prog_112_method_3_code 11 = .ok (.bipush 10, 2) := by decide +kernel
theorem d8_13 : decode prog_112_method_3_code 13 = .ok (.if_icmp .ne 10, 3) := by decide +kernel
theorem d8_16 : decode prog_112_method_3_code 16 = .ok (.iload_n 2, 1) := by decide +kernel
theorem d8_17 : decode prog_112_method_3_code 17 = .ok (.bipush 13, 2) := by decide +kernel
theorem d8_19 : decode prog_112_method_3_code 19 = .ok (.if_icmp .ne 4, 3) := by decide +kernel
theorem d8_22 : decode prog_112_method_3_code 22 = .ok (.return_, 1) := by decide +kernel
theorem d8_23 : decode prog_112_method_3_code 23 = .ok (.iload_n 1, 1) := by decide +kernel
theorem d8_24 : decode prog_112_method_3_code 24 = .ok (.bipush 10, 2) := by decide +kernel
theorem d8_26 : decode prog_112_method_3_code 26 = .ok (.if_icmp .eq 9, 3) := by decide +kernel
theorem d8_29 : decode prog_112_method_3_code 29 = .ok (.iload_n 1, 1) := by decide +kernel
theorem d8_30 : decode prog_112_method_3_code 30 = .ok (.bipush 13, 2) := by decide +kernel
theorem d8_32 : decode prog_112_method_3_code 32 = .ok (.if_icmp .ne 21, 3) := by decide +kernel
theorem d8_35 : decode prog_112_method_3_code 35 = .ok (.aload_n 0, 1) := by decide +kernel
theorem d8_36 : decode prog_112_method_3_code 36 = .ok (.dup, 1) := by decide +kernel
theorem d8_37 : decode prog_112_method_3_code 37 = .ok (.getfield 12, 3) := by decide +kernel
theorem d8_40 : decode prog_112_method_3_code 40 = .ok (.iconst 1, 1) := by decide +kernel
theorem d8_41 : decode prog_112_method_3_code 41 = .ok (.iadd, 1) := by decide +kernel
theorem d8_42 : decode prog_112_method_3_code 42 = .ok (.putfield 12, 3) := by decide +kernel
theorem d8_45 : decode prog_112_method_3_code 45 = .ok (.aload_n 0, 1) := by decide +kernel
theorem d8_46 : decode prog_112_method_3_code 46 = .ok (.iconst 1, 1) := by decide +kernel
theorem d8_47 : decode prog_112_method_3_code 47 = .ok (.putfield 16, 3) := by decide +kernel
theorem d8_50 : decode prog_112_method_3_code 50 = .ok (.goto 13, 3) := by decide +kernel
theorem d8_53 : decode prog_112_method_3_code 53 = .ok (.aload_n 0, 1) := by decide +kernel
theorem d8_54 : decode prog_112_method_3_code 54 = .ok (.dup, 1) := by decide +kernel
theorem d8_55 : decode prog_112_method_3_code 55 = .ok (.getfield 16, 3) := by decide +kernel
theorem d8_58 : decode prog_112_method_3_code 58 = .ok (.iconst 1, 1) := by decide +kernel
theorem d8_59 : decode prog_112_method_3_code 59 = .ok (.iadd, 1) := by decide +kernel
theorem d8_60 : decode prog_112_method_3_code 60 = .ok (.putfield 16, 3) := by decide +kernel
theorem d8_63 : decode prog_112_method_3_code 63 = .ok (.return_, 1) := by decide +kernel
theorem pn_8 : plainName "com/example/same_bytes/samebytes/TextPosition" = true := by first | (simp [plainName, overriddenIn]; done) | decide +kernel
theorem ef_8 (m : MethodId) (a1 : Addr) (p2 : Int32) : entryFrame m #[(.ref a1), (.int p2)] 3 = mkF m 0 #[.val (.ref a1), .val (.int p2), .unset] [] := by first | (simp [entryFrame, mkF, argsToLocals, Value.category]; done) | rfl
def own_f8_line (p2 : Int32) (u_last_a1 : Int32) (u_line_a1 : Int32) : Int32 :=
  (if p2 = (10 : Int32) then (if u_last_a1 = (13 : Int32) then u_line_a1 else (u_line_a1 + (1 : Int32))) else (if p2 = (13 : Int32) then (u_line_a1 + (1 : Int32)) else u_line_a1))
def own_f8_column (p2 : Int32) (u_last_a1 : Int32) (u_column_a1 : Int32) : Int32 :=
  (if p2 = (10 : Int32) then (if u_last_a1 = (13 : Int32) then u_column_a1 else (1 : Int32)) else (if p2 = (13 : Int32) then (1 : Int32) else (u_column_a1 + (1 : Int32))))
def Q8 (Z : State) (a1 : Addr) (p2 : Int32) (u_last_a1 : Int32) (u_line_a1 : Int32) (u_column_a1 : Int32) (h0 : Heap) (n0 : Nat) (v : Option Value) (h : Heap) (L : List Loc) : Prop := v = none ∧ Fr n0 L ∧ Keep h0 h [a1] ∧ Fld Z h a1 "com/example/same_bytes/samebytes/TextPosition" "last" "C" (.int (nar .char p2)) ∧ Fld Z h a1 "com/example/same_bytes/samebytes/TextPosition" "line" "I" (.int (own_f8_line p2 u_last_a1 u_line_a1)) ∧ Fld Z h a1 "com/example/same_bytes/samebytes/TextPosition" "column" "I" (.int (own_f8_column p2 u_last_a1 u_column_a1))
set_option maxRecDepth 65536 in
set_option maxHeartbeats 40000000 in
theorem rm8 (l : Launch) (Z : State) (a0 : Array Value) (hw : ∀ d ∈ tables_1, d.before a0 Z = true) (ws : List Jvm.Cond) (a1 : Addr) (p2 : Int32) (u_last_a1 : Int32) (u_line_a1 : Int32) (u_column_a1 : Int32) (h0 : Heap) (n0 : Nat) (Z0 : n0 ≤ h0.size) (fp0 : Fld Z h0 a1 "com/example/same_bytes/samebytes/TextPosition" "last" "C" (.int u_last_a1)) (fp1 : Exa Z h0 a1 "com/example/same_bytes/samebytes/TextPosition") (fp2 : Fld Z h0 a1 "com/example/same_bytes/samebytes/TextPosition" "line" "I" (.int u_line_a1)) (fp3 : Fld Z h0 a1 "com/example/same_bytes/samebytes/TextPosition" "column" "I" (.int u_column_a1)) (g_a1 : n0 ≤ a1) :
    MetFree l (⟨"com/example/same_bytes/samebytes/TextPosition", "advance", "(C)V"⟩ : MethodName) (head1 (Jvm.Cond.code (⟨"com/example/same_bytes/samebytes/TextPosition", "advance", "(C)V"⟩ : MethodName) prog_112_method_3_code 3 none :: ws) ({ frames := 0, cells := 0, slots := 0, locals := 0 } : Room)) (fun a U => a = #[(.ref a1), (.int p2)] ∧ Z.Warmed39 U.vm ∧ U.heap = h0) (fun _ _ _ _ _ => True) (fun _ U o U' => ∃ v L, o = .returned v ∧ Q8 Z a1 p2 u_last_a1 u_line_a1 u_column_a1 h0 n0 v U'.heap L ∧ FrameEnd U o U' L ({ frames := 0, cells := 0, slots := 0, locals := 0 } : Room).cells ({ frames := 0, cells := 0, slots := 0, locals := 0 } : Room).slots) := by
  refine MetFree.of_bodySF (plainFor_of_name pn_8) hisR ?_
  intro p e s m args below meth c s₁ Bd hml0 hP hK
  obtain ⟨rfl, hZ, hh⟩ := hP
  have hx := Bd.exec
  have hby := Bd.bytes
  have hml : c.maxLocals = 3 := hml0
  have hown : s.vm.findClass "com/example/same_bytes/samebytes/TextPosition" = some m.cls := findClass_of_methodNamed Bd.named
  have hnm := (name_of_methodNamed Bd.named Bd.method).1
  have X0 : Stand p l e ({ frames := 0, cells := 0, slots := 0, locals := 0 } : Room) s m #[(.ref a1), (.int p2)] below meth c s₁ [] 0 0 := Stand.of_body Bd
  have e0 : s₁.heap = h0 := by rw [← hh, Bd.state]; rfl
  have N0 := Fr.nil n0
  refine own_start (fun t k => castTop (ef_8 m a1 p2) k) ?_
  show own_G p.tables e below _ (s₁.setTop (mkF m 0 #[.val (.ref a1), .val (.int p2), .unset] []))
  refine own_step (fun t k => XS.aloadN X0.here hx rfl (hb hby d8_0) rfl rfl k) ?_
  show own_G p.tables e below _ (s₁.setTop (mkF m 1 #[.val (.ref a1), .val (.int p2), .unset] [(.ref a1)]))
  obtain ⟨T1, X1, e1, st1⟩ := getF X0 hx hZ hown (host := "") (Or.inl (hw _ (List.mem_of_getElem? (i := 34) rfl))) Via.refl e0 fp0 (g := (mkF m 1 #[.val (.ref a1), .val (.int p2), .unset] [(.ref a1)])) rfl rfl (hb hby d8_1)
  refine own_step st1 ?_
  show own_G p.tables e below _ (T1.setTop (mkF m 4 #[.val (.ref a1), .val (.int p2), .unset] [(.int u_last_a1)]))
  refine own_step (fun t k => XS.istoreN X1.here hx rfl (hb hby d8_4) rfl (l' := #[.val (.ref a1), .val (.int p2), .val (.int u_last_a1)]) rfl k) ?_
  show own_G p.tables e below _ (T1.setTop (mkF m 5 #[.val (.ref a1), .val (.int p2), .val (.int u_last_a1)] []))
  refine own_step (fun t k => XS.aloadN X1.here hx rfl (hb hby d8_5) rfl rfl k) ?_
  show own_G p.tables e below _ (T1.setTop (mkF m 6 #[.val (.ref a1), .val (.int p2), .val (.int u_last_a1)] [(.ref a1)]))
  refine own_step (fun t k => XS.iloadN X1.here hx rfl (hb hby d8_6) rfl k) ?_
  show own_G p.tables e below _ (T1.setTop (mkF m 7 #[.val (.ref a1), .val (.int p2), .val (.int u_last_a1)] [(.int p2), (.ref a1)]))
  obtain ⟨T2, h2, X2, e2, W2, st2⟩ := putFN X1 hx hZ hown (hw _ (List.mem_of_getElem? (i := 34) rfl)) Via.refl e1 fp0 fp1 (Or.inl (hw _ (List.mem_of_getElem? (i := 35) rfl))) (hw _ (List.mem_of_getElem? (i := 5) rfl)) (ty := .char) (v' := (.int (nar .char p2))) (by decide) rfl (fits_nar_char _) (g := (mkF m 7 #[.val (.ref a1), .val (.int p2), .val (.int u_last_a1)] [(.int p2), (.ref a1)])) rfl rfl (hb hby d8_7)
  have N2 := Fr.snoc X2 N0 g_a1
  have c3 : Fld Z h2 a1 "com/example/same_bytes/samebytes/TextPosition" "last" "C" (.int (nar .char p2)) := fp0.same W2
  have c5 : Exa Z h2 a1 "com/example/same_bytes/samebytes/TextPosition" := fp1.wr W2
  have c6 : Fld Z h2 a1 "com/example/same_bytes/samebytes/TextPosition" "line" "I" (.int u_line_a1) := fp2.other W2 (Or.inr (slot_ne (Or.inl (hw _ (List.mem_of_getElem? (i := 14) rfl))) (Or.inl (hw _ (List.mem_of_getElem? (i := 35) rfl))) (by decide) (t := .int) (t' := .char) (by decide) (by decide)))
  have c7 : Fld Z h2 a1 "com/example/same_bytes/samebytes/TextPosition" "column" "I" (.int u_column_a1) := fp3.other W2 (Or.inr (slot_ne (Or.inl (hw _ (List.mem_of_getElem? (i := 16) rfl))) (Or.inl (hw _ (List.mem_of_getElem? (i := 35) rfl))) (by decide) (t := .int) (t' := .char) (by decide) (by decide)))
  have K2 : Keep h0 h2 [a1] := (Keep.refl h0 [a1]).wr W2 (Or.inl (List.mem_of_getElem? (i := 0) rfl))
  refine own_step st2 ?_
  show own_G p.tables e below _ (T2.setTop (mkF m 10 #[.val (.ref a1), .val (.int p2), .val (.int u_last_a1)] []))
  refine own_step (fun t k => XS.iloadN X2.here hx rfl (hb hby d8_10) rfl k) ?_
  show own_G p.tables e below _ (T2.setTop (mkF m 11 #[.val (.ref a1), .val (.int p2), .val (.int u_last_a1)] [(.int p2)]))
  refine own_step (fun t k => XS.bipush X2.here hx rfl (hb hby d8_11) k) ?_
  show own_G p.tables e below _ (T2.setTop (mkF m 13 #[.val (.ref a1), .val (.int p2), .val (.int u_last_a1)] [(.int (10 : Int32)), (.int p2)]))
  by_cases hc8 : p2 = (10 : Int32)
  · skip
    refine own_step (fun t k => XS.icmpNo X2.here hx rfl (hb hby d8_13) rfl ((teq hc8).2) k) ?_
    show own_G p.tables e below _ (T2.setTop (mkF m 16 #[.val (.ref a1), .val (.int p2), .val (.int u_last_a1)] []))
    refine own_step (fun t k => XS.iloadN X2.here hx rfl (hb hby d8_16) rfl k) ?_
    show own_G p.tables e below _ (T2.setTop (mkF m 17 #[.val (.ref a1), .val (.int p2), .val (.int u_last_a1)] [(.int u_last_a1)]))
    refine own_step (fun t k => XS.bipush X2.here hx rfl (hb hby d8_17) k) ?_
    show own_G p.tables e below _ (T2.setTop (mkF m 19 #[.val (.ref a1), .val (.int p2), .val (.int u_last_a1)] [(.int (13 : Int32)), (.int u_last_a1)]))
    by_cases hc9 : u_last_a1 = (13 : Int32)
    · skip
      refine own_step (fun t k => XS.icmpNo X2.here hx rfl (hb hby d8_19) rfl ((teq hc9).2) k) ?_
      show own_G p.tables e below _ (T2.setTop (mkF m 22 #[.val (.ref a1), .val (.int p2), .val (.int u_last_a1)] []))
      obtain ⟨fs, hr, hrun, hended, hW, hsame⟩ := X2.leave (v := none) (fun _ => rfl)
      refine own_done (X2.returnOut hx Bd.returns (hb hby d8_22) hr) hrun hended ⟨_, _, rfl, ?_, ⟨_, rfl⟩, hW, hsame.mono (by decide) (by decide)⟩
      show Q8 Z a1 p2 u_last_a1 u_line_a1 u_column_a1 h0 n0 _ T2.heap _
      rw [e2]
      exact ⟨rfl, N2, K2, c3, (show Fld Z h2 a1 "com/example/same_bytes/samebytes/TextPosition" "line" "I" (.int (own_f8_line p2 u_last_a1 u_line_a1)) from (show u_line_a1 = (own_f8_line p2 u_last_a1 u_line_a1) from by unfold own_f8_line; simp only [if_pos hc8, if_pos hc9]) ▸ c6), (show Fld Z h2 a1 "com/example/same_bytes/samebytes/TextPosition" "column" "I" (.int (own_f8_column p2 u_last_a1 u_column_a1)) from (show u_column_a1 = (own_f8_column p2 u_last_a1 u_column_a1) from by unfold own_f8_column; simp only [if_pos hc8, if_pos hc9]) ▸ c7)⟩
    · skip
      refine own_step (fun t k => XS.icmpYes X2.here hx rfl (pc0 := 19) (pc' := 23) rfl (hb hby d8_19) rfl ((feq hc9).2) (by decide) (by decide) k) ?_
      show own_G p.tables e below _ (T2.setTop (mkF m 23 #[.val (.ref a1), .val (.int p2), .val (.int u_last_a1)] []))
      refine own_step (fun t k => XS.iloadN X2.here hx rfl (hb hby d8_23) rfl k) ?_
      show own_G p.tables e below _ (T2.setTop (mkF m 24 #[.val (.ref a1), .val (.int p2), .val (.int u_last_a1)] [(.int p2)]))
      refine own_step (fun t k => XS.bipush X2.here hx rfl (hb hby d8_24) k) ?_
      show own_G p.tables e below _ (T2.setTop (mkF m 26 #[.val (.ref a1), .val (.int p2), .val (.int u_last_a1)] [(.int (10 : Int32)), (.int p2)]))
      refine own_step (fun t k => XS.icmpYes X2.here hx rfl (pc0 := 26) (pc' := 35) rfl (hb hby d8_26) rfl ((teq hc8).1) (by decide) (by decide) k) ?_
      show own_G p.tables e below _ (T2.setTop (mkF m 35 #[.val (.ref a1), .val (.int p2), .val (.int u_last_a1)] []))
      refine own_step (fun t k => XS.aloadN X2.here hx rfl (hb hby d8_35) rfl rfl k) ?_
      show own_G p.tables e below _ (T2.setTop (mkF m 36 #[.val (.ref a1), .val (.int p2), .val (.int u_last_a1)] [(.ref a1)]))
      refine own_step (fun t k => XS.dup X2.here hx rfl (hb hby d8_36) rfl rfl k) ?_
      show own_G p.tables e below _ (T2.setTop (mkF m 37 #[.val (.ref a1), .val (.int p2), .val (.int u_last_a1)] [(.ref a1), (.ref a1)]))
      obtain ⟨T10, X10, e10, st10⟩ := getF X2 hx hZ hown (host := "") (Or.inl (hw _ (List.mem_of_getElem? (i := 13) rfl))) Via.refl e2 c6 (g := (mkF m 37 #[.val (.ref a1), .val (.int p2), .val (.int u_last_a1)] [(.ref a1), (.ref a1)])) rfl rfl (hb hby d8_37)
      refine own_step st10 ?_
      show own_G p.tables e below _ (T10.setTop (mkF m 40 #[.val (.ref a1), .val (.int p2), .val (.int u_last_a1)] [(.int u_line_a1), (.ref a1)]))
      refine own_step (fun t k => XS.iconst X10.here hx rfl (hb hby d8_40) k) ?_
      show own_G p.tables e below _ (T10.setTop (mkF m 41 #[.val (.ref a1), .val (.int p2), .val (.int u_last_a1)] [(.int (1 : Int32)), (.int u_line_a1), (.ref a1)]))
      refine own_step (fun t k => XS.iadd X10.here hx rfl (hb hby d8_41) rfl k) ?_
      show own_G p.tables e below _ (T10.setTop (mkF m 42 #[.val (.ref a1), .val (.int p2), .val (.int u_last_a1)] [(.int (u_line_a1 + (1 : Int32))), (.ref a1)]))
      obtain ⟨T11, h11, X11, e11, W11, st11⟩ := putF X10 hx hZ hown (host := "") (Or.inl (hw _ (List.mem_of_getElem? (i := 13) rfl))) Via.refl e10 c6 c5 (Or.inl (hw _ (List.mem_of_getElem? (i := 14) rfl))) (hw _ (List.mem_of_getElem? (i := 5) rfl)) (ty := .int) (by decide) rfl rfl (g := (mkF m 42 #[.val (.ref a1), .val (.int p2), .val (.int u_last_a1)] [(.int (u_line_a1 + (1 : Int32))), (.ref a1)])) rfl rfl (hb hby d8_42)
      have N11 := Fr.snoc X11 N2 g_a1
      have c12 : Fld Z h11 a1 "com/example/same_bytes/samebytes/TextPosition" "line" "I" (.int (u_line_a1 + (1 : Int32))) := c6.same W11
      have c13 : Fld Z h11 a1 "com/example/same_bytes/samebytes/TextPosition" "last" "C" (.int (nar .char p2)) := c3.other W11 (Or.inr (slot_ne (Or.inl (hw _ (List.mem_of_getElem? (i := 35) rfl))) (Or.inl (hw _ (List.mem_of_getElem? (i := 14) rfl))) (by decide) (t := .char) (t' := .int) (by decide) (by decide)))
      have c14 : Exa Z h11 a1 "com/example/same_bytes/samebytes/TextPosition" := c5.wr W11
      have c16 : Fld Z h11 a1 "com/example/same_bytes/samebytes/TextPosition" "column" "I" (.int u_column_a1) := c7.other W11 (Or.inr (slot_ne (Or.inl (hw _ (List.mem_of_getElem? (i := 16) rfl))) (Or.inl (hw _ (List.mem_of_getElem? (i := 14) rfl))) (by decide) (t := .int) (t' := .int) (by decide) (by decide)))
      have K11 : Keep h0 h11 [a1] := K2.wr W11 (Or.inl (List.mem_of_getElem? (i := 0) rfl))
      refine own_step st11 ?_
      show own_G p.tables e below _ (T11.setTop (mkF m 45 #[.val (.ref a1), .val (.int p2), .val (.int u_last_a1)] []))
      refine own_step (fun t k => XS.aloadN X11.here hx rfl (hb hby d8_45) rfl rfl k) ?_
      show own_G p.tables e below _ (T11.setTop (mkF m 46 #[.val (.ref a1), .val (.int p2), .val (.int u_last_a1)] [(.ref a1)]))
      refine own_step (fun t k => XS.iconst X11.here hx rfl (hb hby d8_46) k) ?_
      show own_G p.tables e below _ (T11.setTop (mkF m 47 #[.val (.ref a1), .val (.int p2), .val (.int u_last_a1)] [(.int (1 : Int32)), (.ref a1)]))
      obtain ⟨T17, h17, X17, e17, W17, st17⟩ := putF X11 hx hZ hown (host := "") (Or.inl (hw _ (List.mem_of_getElem? (i := 15) rfl))) Via.refl e11 c16 c14 (Or.inl (hw _ (List.mem_of_getElem? (i := 16) rfl))) (hw _ (List.mem_of_getElem? (i := 5) rfl)) (ty := .int) (by decide) rfl rfl (g := (mkF m 47 #[.val (.ref a1), .val (.int p2), .val (.int u_last_a1)] [(.int (1 : Int32)), (.ref a1)])) rfl rfl (hb hby d8_47)
      have N17 := Fr.snoc X17 N11 g_a1
      have c18 : Fld Z h17 a1 "com/example/same_bytes/samebytes/TextPosition" "column" "I" (.int (1 : Int32)) := c16.same W17
      have c19 : Fld Z h17 a1 "com/example/same_bytes/samebytes/TextPosition" "last" "C" (.int (nar .char p2)) := c13.other W17 (Or.inr (slot_ne (Or.inl (hw _ (List.mem_of_getElem? (i := 35) rfl))) (Or.inl (hw _ (List.mem_of_getElem? (i := 16) rfl))) (by decide) (t := .char) (t' := .int) (by decide) (by decide)))
      have c20 : Exa Z h17 a1 "com/example/same_bytes/samebytes/TextPosition" := c14.wr W17
      have c21 : Fld Z h17 a1 "com/example/same_bytes/samebytes/TextPosition" "line" "I" (.int (u_line_a1 + (1 : Int32))) := c12.other W17 (Or.inr (slot_ne (Or.inl (hw _ (List.mem_of_getElem? (i := 14) rfl))) (Or.inl (hw _ (List.mem_of_getElem? (i := 16) rfl))) (by decide) (t := .int) (t' := .int) (by decide) (by decide)))
      have K17 : Keep h0 h17 [a1] := K11.wr W17 (Or.inl (List.mem_of_getElem? (i := 0) rfl))
      refine own_step st17 ?_
      show own_G p.tables e below _ (T17.setTop (mkF m 50 #[.val (.ref a1), .val (.int p2), .val (.int u_last_a1)] []))
      refine own_step (fun t k => XS.goto X17.here hx rfl (pc0 := 50) (pc' := 63) rfl (hb hby d8_50) (by decide) (by decide) k) ?_
      show own_G p.tables e below _ (T17.setTop (mkF m 63 #[.val (.ref a1), .val (.int p2), .val (.int u_last_a1)] []))
      obtain ⟨fs, hr, hrun, hended, hW, hsame⟩ := X17.leave (v := none) (fun _ => rfl)
      refine own_done (X17.returnOut hx Bd.returns (hb hby d8_63) hr) hrun hended ⟨_, _, rfl, ?_, ⟨_, rfl⟩, hW, hsame.mono (by decide) (by decide)⟩
      show Q8 Z a1 p2 u_last_a1 u_line_a1 u_column_a1 h0 n0 _ T17.heap _
      rw [e17]
      exact ⟨rfl, N17, K17, c19, (show Fld Z h17 a1 "com/example/same_bytes/samebytes/TextPosition" "line" "I" (.int (own_f8_line p2 u_last_a1 u_line_a1)) from (show (u_line_a1 + (1 : Int32)) = (own_f8_line p2 u_last_a1 u_line_a1) from by unfold own_f8_line; simp only [if_pos hc8, if_neg hc9]) ▸ c21), (show Fld Z h17 a1 "com/example/same_bytes/samebytes/TextPosition" "column" "I" (.int (own_f8_column p2 u_last_a1 u_column_a1)) from (show (1 : Int32) = (own_f8_column p2 u_last_a1 u_column_a1) from by unfold own_f8_column; simp only [if_pos hc8, if_neg hc9]) ▸ c18)⟩
  · skip
    refine own_step (fun t k => XS.icmpYes X2.here hx rfl (pc0 := 13) (pc' := 23) rfl (hb hby d8_13) rfl ((feq hc8).2) (by decide) (by decide) k) ?_
    show own_G p.tables e below _ (T2.setTop (mkF m 23 #[.val (.ref a1), .val (.int p2), .val (.int u_last_a1)] []))
    refine own_step (fun t k => XS.iloadN X2.here hx rfl (hb hby d8_23) rfl k) ?_
    show own_G p.tables e below _ (T2.setTop (mkF m 24 #[.val (.ref a1), .val (.int p2), .val (.int u_last_a1)] [(.int p2)]))
    refine own_step (fun t k => XS.bipush X2.here hx rfl (hb hby d8_24) k) ?_
    show own_G p.tables e below _ (T2.setTop (mkF m 26 #[.val (.ref a1), .val (.int p2), .val (.int u_last_a1)] [(.int (10 : Int32)), (.int p2)]))
    refine own_step (fun t k => XS.icmpNo X2.here hx rfl (hb hby d8_26) rfl ((feq hc8).1) k) ?_
    show own_G p.tables e below _ (T2.setTop (mkF m 29 #[.val (.ref a1), .val (.int p2), .val (.int u_last_a1)] []))
    refine own_step (fun t k => XS.iloadN X2.here hx rfl (hb hby d8_29) rfl k) ?_
    show own_G p.tables e below _ (T2.setTop (mkF m 30 #[.val (.ref a1), .val (.int p2), .val (.int u_last_a1)] [(.int p2)]))
    refine own_step (fun t k => XS.bipush X2.here hx rfl (hb hby d8_30) k) ?_
    show own_G p.tables e below _ (T2.setTop (mkF m 32 #[.val (.ref a1), .val (.int p2), .val (.int u_last_a1)] [(.int (13 : Int32)), (.int p2)]))
    by_cases hc23 : p2 = (13 : Int32)
    · skip
      refine own_step (fun t k => XS.icmpNo X2.here hx rfl (hb hby d8_32) rfl ((teq hc23).2) k) ?_
      show own_G p.tables e below _ (T2.setTop (mkF m 35 #[.val (.ref a1), .val (.int p2), .val (.int u_last_a1)] []))
      refine own_step (fun t k => XS.aloadN X2.here hx rfl (hb hby d8_35) rfl rfl k) ?_
      show own_G p.tables e below _ (T2.setTop (mkF m 36 #[.val (.ref a1), .val (.int p2), .val (.int u_last_a1)] [(.ref a1)]))
      refine own_step (fun t k => XS.dup X2.here hx rfl (hb hby d8_36) rfl rfl k) ?_
      show own_G p.tables e below _ (T2.setTop (mkF m 37 #[.val (.ref a1), .val (.int p2), .val (.int u_last_a1)] [(.ref a1), (.ref a1)]))
      obtain ⟨T24, X24, e24, st24⟩ := getF X2 hx hZ hown (host := "") (Or.inl (hw _ (List.mem_of_getElem? (i := 13) rfl))) Via.refl e2 c6 (g := (mkF m 37 #[.val (.ref a1), .val (.int p2), .val (.int u_last_a1)] [(.ref a1), (.ref a1)])) rfl rfl (hb hby d8_37)
      refine own_step st24 ?_
      show own_G p.tables e below _ (T24.setTop (mkF m 40 #[.val (.ref a1), .val (.int p2), .val (.int u_last_a1)] [(.int u_line_a1), (.ref a1)]))
      refine own_step (fun t k => XS.iconst X24.here hx rfl (hb hby d8_40) k) ?_
      show own_G p.tables e below _ (T24.setTop (mkF m 41 #[.val (.ref a1), .val (.int p2), .val (.int u_last_a1)] [(.int (1 : Int32)), (.int u_line_a1), (.ref a1)]))
      refine own_step (fun t k => XS.iadd X24.here hx rfl (hb hby d8_41) rfl k) ?_
      show own_G p.tables e below _ (T24.setTop (mkF m 42 #[.val (.ref a1), .val (.int p2), .val (.int u_last_a1)] [(.int (u_line_a1 + (1 : Int32))), (.ref a1)]))
      obtain ⟨T25, h25, X25, e25, W25, st25⟩ := putF X24 hx hZ hown (host := "") (Or.inl (hw _ (List.mem_of_getElem? (i := 13) rfl))) Via.refl e24 c6 c5 (Or.inl (hw _ (List.mem_of_getElem? (i := 14) rfl))) (hw _ (List.mem_of_getElem? (i := 5) rfl)) (ty := .int) (by decide) rfl rfl (g := (mkF m 42 #[.val (.ref a1), .val (.int p2), .val (.int u_last_a1)] [(.int (u_line_a1 + (1 : Int32))), (.ref a1)])) rfl rfl (hb hby d8_42)
      have N25 := Fr.snoc X25 N2 g_a1
      have c26 : Fld Z h25 a1 "com/example/same_bytes/samebytes/TextPosition" "line" "I" (.int (u_line_a1 + (1 : Int32))) := c6.same W25
      have c27 : Fld Z h25 a1 "com/example/same_bytes/samebytes/TextPosition" "last" "C" (.int (nar .char p2)) := c3.other W25 (Or.inr (slot_ne (Or.inl (hw _ (List.mem_of_getElem? (i := 35) rfl))) (Or.inl (hw _ (List.mem_of_getElem? (i := 14) rfl))) (by decide) (t := .char) (t' := .int) (by decide) (by decide)))
      have c28 : Exa Z h25 a1 "com/example/same_bytes/samebytes/TextPosition" := c5.wr W25
      have c30 : Fld Z h25 a1 "com/example/same_bytes/samebytes/TextPosition" "column" "I" (.int u_column_a1) := c7.other W25 (Or.inr (slot_ne (Or.inl (hw _ (List.mem_of_getElem? (i := 16) rfl))) (Or.inl (hw _ (List.mem_of_getElem? (i := 14) rfl))) (by decide) (t := .int) (t' := .int) (by decide) (by decide)))
      have K25 : Keep h0 h25 [a1] := K2.wr W25 (Or.inl (List.mem_of_getElem? (i := 0) rfl))
      refine own_step st25 ?_
      show own_G p.tables e below _ (T25.setTop (mkF m 45 #[.val (.ref a1), .val (.int p2), .val (.int u_last_a1)] []))
      refine own_step (fun t k => XS.aloadN X25.here hx rfl (hb hby d8_45) rfl rfl k) ?_
      show own_G p.tables e below _ (T25.setTop (mkF m 46 #[.val (.ref a1), .val (.int p2), .val (.int u_last_a1)] [(.ref a1)]))
      refine own_step (fun t k => XS.iconst X25.here hx rfl (hb hby d8_46) k) ?_
      show own_G p.tables e below _ (T25.setTop (mkF m 47 #[.val (.ref a1), .val (.int p2), .val (.int u_last_a1)] [(.int (1 : Int32)), (.ref a1)]))
      obtain ⟨T31, h31, X31, e31, W31, st31⟩ := putF X25 hx hZ hown (host := "") (Or.inl (hw _ (List.mem_of_getElem? (i := 15) rfl))) Via.refl e25 c30 c28 (Or.inl (hw _ (List.mem_of_getElem? (i := 16) rfl))) (hw _ (List.mem_of_getElem? (i := 5) rfl)) (ty := .int) (by decide) rfl rfl (g := (mkF m 47 #[.val (.ref a1), .val (.int p2), .val (.int u_last_a1)] [(.int (1 : Int32)), (.ref a1)])) rfl rfl (hb hby d8_47)
      have N31 := Fr.snoc X31 N25 g_a1
      have c32 : Fld Z h31 a1 "com/example/same_bytes/samebytes/TextPosition" "column" "I" (.int (1 : Int32)) := c30.same W31
      have c33 : Fld Z h31 a1 "com/example/same_bytes/samebytes/TextPosition" "last" "C" (.int (nar .char p2)) := c27.other W31 (Or.inr (slot_ne (Or.inl (hw _ (List.mem_of_getElem? (i := 35) rfl))) (Or.inl (hw _ (List.mem_of_getElem? (i := 16) rfl))) (by decide) (t := .char) (t' := .int) (by decide) (by decide)))
      have c34 : Exa Z h31 a1 "com/example/same_bytes/samebytes/TextPosition" := c28.wr W31
      have c35 : Fld Z h31 a1 "com/example/same_bytes/samebytes/TextPosition" "line" "I" (.int (u_line_a1 + (1 : Int32))) := c26.other W31 (Or.inr (slot_ne (Or.inl (hw _ (List.mem_of_getElem? (i := 14) rfl))) (Or.inl (hw _ (List.mem_of_getElem? (i := 16) rfl))) (by decide) (t := .int) (t' := .int) (by decide) (by decide)))
      have K31 : Keep h0 h31 [a1] := K25.wr W31 (Or.inl (List.mem_of_getElem? (i := 0) rfl))
      refine own_step st31 ?_
      show own_G p.tables e below _ (T31.setTop (mkF m 50 #[.val (.ref a1), .val (.int p2), .val (.int u_last_a1)] []))
      refine own_step (fun t k => XS.goto X31.here hx rfl (pc0 := 50) (pc' := 63) rfl (hb hby d8_50) (by decide) (by decide) k) ?_
      show own_G p.tables e below _ (T31.setTop (mkF m 63 #[.val (.ref a1), .val (.int p2), .val (.int u_last_a1)] []))
      obtain ⟨fs, hr, hrun, hended, hW, hsame⟩ := X31.leave (v := none) (fun _ => rfl)
      refine own_done (X31.returnOut hx Bd.returns (hb hby d8_63) hr) hrun hended ⟨_, _, rfl, ?_, ⟨_, rfl⟩, hW, hsame.mono (by decide) (by decide)⟩
      show Q8 Z a1 p2 u_last_a1 u_line_a1 u_column_a1 h0 n0 _ T31.heap _
      rw [e31]
      exact ⟨rfl, N31, K31, c33, (show Fld Z h31 a1 "com/example/same_bytes/samebytes/TextPosition" "line" "I" (.int (own_f8_line p2 u_last_a1 u_line_a1)) from (show (u_line_a1 + (1 : Int32)) = (own_f8_line p2 u_last_a1 u_line_a1) from by unfold own_f8_line; simp only [if_neg hc8, if_pos hc23]) ▸ c35), (show Fld Z h31 a1 "com/example/same_bytes/samebytes/TextPosition" "column" "I" (.int (own_f8_column p2 u_last_a1 u_column_a1)) from (show (1 : Int32) = (own_f8_column p2 u_last_a1 u_column_a1) from by unfold own_f8_column; simp only [if_neg hc8, if_pos hc23]) ▸ c32)⟩
    · skip
      refine own_step (fun t k => XS.icmpYes X2.here hx rfl (pc0 := 32) (pc' := 53) rfl (hb hby d8_32) rfl ((feq hc23).2) (by decide) (by decide) k) ?_
      show own_G p.tables e below _ (T2.setTop (mkF m 53 #[.val (.ref a1), .val (.int p2), .val (.int u_last_a1)] []))
      refine own_step (fun t k => XS.aloadN X2.here hx rfl (hb hby d8_53) rfl rfl k) ?_
      show own_G p.tables e below _ (T2.setTop (mkF m 54 #[.val (.ref a1), .val (.int p2), .val (.int u_last_a1)] [(.ref a1)]))
      refine own_step (fun t k => XS.dup X2.here hx rfl (hb hby d8_54) rfl rfl k) ?_
      show own_G p.tables e below _ (T2.setTop (mkF m 55 #[.val (.ref a1), .val (.int p2), .val (.int u_last_a1)] [(.ref a1), (.ref a1)]))
      obtain ⟨T37, X37, e37, st37⟩ := getF X2 hx hZ hown (host := "") (Or.inl (hw _ (List.mem_of_getElem? (i := 15) rfl))) Via.refl e2 c7 (g := (mkF m 55 #[.val (.ref a1), .val (.int p2), .val (.int u_last_a1)] [(.ref a1), (.ref a1)])) rfl rfl (hb hby d8_55)
      refine own_step st37 ?_
      show own_G p.tables e below _ (T37.setTop (mkF m 58 #[.val (.ref a1), .val (.int p2), .val (.int u_last_a1)] [(.int u_column_a1), (.ref a1)]))
      refine own_step (fun t k => XS.iconst X37.here hx rfl (hb hby d8_58) k) ?_
      show own_G p.tables e below _ (T37.setTop (mkF m 59 #[.val (.ref a1), .val (.int p2), .val (.int u_last_a1)] [(.int (1 : Int32)), (.int u_column_a1), (.ref a1)]))
      refine own_step (fun t k => XS.iadd X37.here hx rfl (hb hby d8_59) rfl k) ?_
      show own_G p.tables e below _ (T37.setTop (mkF m 60 #[.val (.ref a1), .val (.int p2), .val (.int u_last_a1)] [(.int (u_column_a1 + (1 : Int32))), (.ref a1)]))
      obtain ⟨T38, h38, X38, e38, W38, st38⟩ := putF X37 hx hZ hown (host := "") (Or.inl (hw _ (List.mem_of_getElem? (i := 15) rfl))) Via.refl e37 c7 c5 (Or.inl (hw _ (List.mem_of_getElem? (i := 16) rfl))) (hw _ (List.mem_of_getElem? (i := 5) rfl)) (ty := .int) (by decide) rfl rfl (g := (mkF m 60 #[.val (.ref a1), .val (.int p2), .val (.int u_last_a1)] [(.int (u_column_a1 + (1 : Int32))), (.ref a1)])) rfl rfl (hb hby d8_60)
      have N38 := Fr.snoc X38 N2 g_a1
      have c39 : Fld Z h38 a1 "com/example/same_bytes/samebytes/TextPosition" "column" "I" (.int (u_column_a1 + (1 : Int32))) := c7.same W38
      have c40 : Fld Z h38 a1 "com/example/same_bytes/samebytes/TextPosition" "last" "C" (.int (nar .char p2)) := c3.other W38 (Or.inr (slot_ne (Or.inl (hw _ (List.mem_of_getElem? (i := 35) rfl))) (Or.inl (hw _ (List.mem_of_getElem? (i := 16) rfl))) (by decide) (t := .char) (t' := .int) (by decide) (by decide)))
      have c41 : Exa Z h38 a1 "com/example/same_bytes/samebytes/TextPosition" := c5.wr W38
      have c42 : Fld Z h38 a1 "com/example/same_bytes/samebytes/TextPosition" "line" "I" (.int u_line_a1) := c6.other W38 (Or.inr (slot_ne (Or.inl (hw _ (List.mem_of_getElem? (i := 14) rfl))) (Or.inl (hw _ (List.mem_of_getElem? (i := 16) rfl))) (by decide) (t := .int) (t' := .int) (by decide) (by decide)))
      have K38 : Keep h0 h38 [a1] := K2.wr W38 (Or.inl (List.mem_of_getElem? (i := 0) rfl))
      refine own_step st38 ?_
      show own_G p.tables e below _ (T38.setTop (mkF m 63 #[.val (.ref a1), .val (.int p2), .val (.int u_last_a1)] []))
      obtain ⟨fs, hr, hrun, hended, hW, hsame⟩ := X38.leave (v := none) (fun _ => rfl)
      refine own_done (X38.returnOut hx Bd.returns (hb hby d8_63) hr) hrun hended ⟨_, _, rfl, ?_, ⟨_, rfl⟩, hW, hsame.mono (by decide) (by decide)⟩
      show Q8 Z a1 p2 u_last_a1 u_line_a1 u_column_a1 h0 n0 _ T38.heap _
      rw [e38]
      exact ⟨rfl, N38, K38, c40, (show Fld Z h38 a1 "com/example/same_bytes/samebytes/TextPosition" "line" "I" (.int (own_f8_line p2 u_last_a1 u_line_a1)) from (show u_line_a1 = (own_f8_line p2 u_last_a1 u_line_a1) from by unfold own_f8_line; simp only [if_neg hc8, if_neg hc23]) ▸ c42), (show Fld Z h38 a1 "com/example/same_bytes/samebytes/TextPosition" "column" "I" (.int (own_f8_column p2 u_last_a1 u_column_a1)) from (show (u_column_a1 + (1 : Int32)) = (own_f8_column p2 u_last_a1 u_column_a1) from by unfold own_f8_column; simp only [if_neg hc8, if_neg hc23]) ▸ c39)⟩
theorem d9_0 : decode prog_112_method_4_code 0 = .ok (.aload_n 0, 1) := by decide +kernel
theorem d9_1 : decode prog_112_method_4_code 1 = .ok (.getfield 12, 3) := by decide +kernel
theorem d9_4 : decode prog_112_method_4_code 4 = .ok (.ireturn, 1) := by decide +kernel
theorem pn_9 : plainName "com/example/same_bytes/samebytes/TextPosition" = true := by first | (simp [plainName, overriddenIn]; done) | decide +kernel
theorem ef_9 (m : MethodId) (a1 : Addr) : entryFrame m #[(.ref a1)] 1 = mkF m 0 #[.val (.ref a1)] [] := by first | (simp [entryFrame, mkF, argsToLocals, Value.category]; done) | rfl
def Q9 (Z : State) (a1 : Addr) (u_line_a1 : Int32) (h0 : Heap) (n0 : Nat) (v : Option Value) (h : Heap) (L : List Loc) : Prop := v = some (.int u_line_a1) ∧ Fr n0 L ∧ h = h0
set_option maxRecDepth 65536 in
set_option maxHeartbeats 40000000 in
theorem rm9 (l : Launch) (Z : State) (a0 : Array Value) (hw : ∀ d ∈ tables_1, d.before a0 Z = true) (ws : List Jvm.Cond) (a1 : Addr) (u_line_a1 : Int32) (h0 : Heap) (n0 : Nat) (Z0 : n0 ≤ h0.size) (fp0 : Fld Z h0 a1 "com/example/same_bytes/samebytes/TextPosition" "line" "I" (.int u_line_a1)) :
    MetFree l (⟨"com/example/same_bytes/samebytes/TextPosition", "line", "()I"⟩ : MethodName) (head1 (Jvm.Cond.code (⟨"com/example/same_bytes/samebytes/TextPosition", "line", "()I"⟩ : MethodName) prog_112_method_4_code 1 (some .int) :: ws) ({ frames := 0, cells := 0, slots := 0, locals := 0 } : Room)) (fun a U => a = #[(.ref a1)] ∧ Z.Warmed39 U.vm ∧ U.heap = h0) (fun _ _ _ _ _ => True) (fun _ U o U' => ∃ v L, o = .returned v ∧ Q9 Z a1 u_line_a1 h0 n0 v U'.heap L ∧ FrameEnd U o U' L ({ frames := 0, cells := 0, slots := 0, locals := 0 } : Room).cells ({ frames := 0, cells := 0, slots := 0, locals := 0 } : Room).slots) := by
  refine MetFree.of_bodySF (plainFor_of_name pn_9) hisR ?_
  intro p e s m args below meth c s₁ Bd hml0 hP hK
  obtain ⟨rfl, hZ, hh⟩ := hP
  have hx := Bd.exec
  have hby := Bd.bytes
  have hml : c.maxLocals = 1 := hml0
  have hown : s.vm.findClass "com/example/same_bytes/samebytes/TextPosition" = some m.cls := findClass_of_methodNamed Bd.named
  have hnm := (name_of_methodNamed Bd.named Bd.method).1
  have X0 : Stand p l e ({ frames := 0, cells := 0, slots := 0, locals := 0 } : Room) s m #[(.ref a1)] below meth c s₁ [] 0 0 := Stand.of_body Bd
  have e0 : s₁.heap = h0 := by rw [← hh, Bd.state]; rfl
  have N0 := Fr.nil n0
  refine own_start (fun t k => castTop (ef_9 m a1) k) ?_
  show own_G p.tables e below _ (s₁.setTop (mkF m 0 #[.val (.ref a1)] []))
  refine own_step (fun t k => XS.aloadN X0.here hx rfl (hb hby d9_0) rfl rfl k) ?_
  show own_G p.tables e below _ (s₁.setTop (mkF m 1 #[.val (.ref a1)] [(.ref a1)]))
  obtain ⟨T1, X1, e1, st1⟩ := getF X0 hx hZ hown (host := "") (Or.inl (hw _ (List.mem_of_getElem? (i := 13) rfl))) Via.refl e0 fp0 (g := (mkF m 1 #[.val (.ref a1)] [(.ref a1)])) rfl rfl (hb hby d9_1)
  refine own_step st1 ?_
  show own_G p.tables e below _ (T1.setTop (mkF m 4 #[.val (.ref a1)] [(.int u_line_a1)]))
  obtain ⟨fs, hr, hrun, hended, hW, hsame⟩ := X1.leave (v := some (.int u_line_a1)) (fun h => by rw [Bd.returns] at h; cases h)
  refine own_done (retI X1 hx Bd.returns (hb hby d9_4) hr) hrun hended ⟨_, _, rfl, ?_, ⟨_, rfl⟩, hW, hsame.mono (by decide) (by decide)⟩
  show Q9 Z a1 u_line_a1 h0 n0 _ T1.heap _
  rw [e1]
  exact ⟨congrArg (fun z => some (Value.int z)) (show u_line_a1 = u_line_a1 from rfl), N0, rfl⟩
theorem d10_0 : decode prog_112_method_5_code 0 = .ok (.aload_n 0, 1) := by decide +kernel
theorem d10_1 : decode prog_112_method_5_code 1 = .ok (.getfield 16, 3) := by decide +kernel
theorem d10_4 : decode prog_112_method_5_code 4 = .ok (.ireturn, 1) := by decide +kernel
theorem pn_10 : plainName "com/example/same_bytes/samebytes/TextPosition" = true := by first | (simp [plainName, overriddenIn]; done) | decide +kernel
theorem ef_10 (m : MethodId) (a1 : Addr) : entryFrame m #[(.ref a1)] 1 = mkF m 0 #[.val (.ref a1)] [] := by first | (simp [entryFrame, mkF, argsToLocals, Value.category]; done) | rfl
def Q10 (Z : State) (a1 : Addr) (u_column_a1 : Int32) (h0 : Heap) (n0 : Nat) (v : Option Value) (h : Heap) (L : List Loc) : Prop := v = some (.int u_column_a1) ∧ Fr n0 L ∧ h = h0
set_option maxRecDepth 65536 in
set_option maxHeartbeats 40000000 in
theorem rm10 (l : Launch) (Z : State) (a0 : Array Value) (hw : ∀ d ∈ tables_1, d.before a0 Z = true) (ws : List Jvm.Cond) (a1 : Addr) (u_column_a1 : Int32) (h0 : Heap) (n0 : Nat) (Z0 : n0 ≤ h0.size) (fp0 : Fld Z h0 a1 "com/example/same_bytes/samebytes/TextPosition" "column" "I" (.int u_column_a1)) :
    MetFree l (⟨"com/example/same_bytes/samebytes/TextPosition", "column", "()I"⟩ : MethodName) (head1 (Jvm.Cond.code (⟨"com/example/same_bytes/samebytes/TextPosition", "column", "()I"⟩ : MethodName) prog_112_method_5_code 1 (some .int) :: ws) ({ frames := 0, cells := 0, slots := 0, locals := 0 } : Room)) (fun a U => a = #[(.ref a1)] ∧ Z.Warmed39 U.vm ∧ U.heap = h0) (fun _ _ _ _ _ => True) (fun _ U o U' => ∃ v L, o = .returned v ∧ Q10 Z a1 u_column_a1 h0 n0 v U'.heap L ∧ FrameEnd U o U' L ({ frames := 0, cells := 0, slots := 0, locals := 0 } : Room).cells ({ frames := 0, cells := 0, slots := 0, locals := 0 } : Room).slots) := by
  refine MetFree.of_bodySF (plainFor_of_name pn_10) hisR ?_
  intro p e s m args below meth c s₁ Bd hml0 hP hK
  obtain ⟨rfl, hZ, hh⟩ := hP
  have hx := Bd.exec
  have hby := Bd.bytes
  have hml : c.maxLocals = 1 := hml0
  have hown : s.vm.findClass "com/example/same_bytes/samebytes/TextPosition" = some m.cls := findClass_of_methodNamed Bd.named
  have hnm := (name_of_methodNamed Bd.named Bd.method).1
  have X0 : Stand p l e ({ frames := 0, cells := 0, slots := 0, locals := 0 } : Room) s m #[(.ref a1)] below meth c s₁ [] 0 0 := Stand.of_body Bd
  have e0 : s₁.heap = h0 := by rw [← hh, Bd.state]; rfl
  have N0 := Fr.nil n0
  refine own_start (fun t k => castTop (ef_10 m a1) k) ?_
  show own_G p.tables e below _ (s₁.setTop (mkF m 0 #[.val (.ref a1)] []))
  refine own_step (fun t k => XS.aloadN X0.here hx rfl (hb hby d10_0) rfl rfl k) ?_
  show own_G p.tables e below _ (s₁.setTop (mkF m 1 #[.val (.ref a1)] [(.ref a1)]))
  obtain ⟨T1, X1, e1, st1⟩ := getF X0 hx hZ hown (host := "") (Or.inl (hw _ (List.mem_of_getElem? (i := 15) rfl))) Via.refl e0 fp0 (g := (mkF m 1 #[.val (.ref a1)] [(.ref a1)])) rfl rfl (hb hby d10_1)
  refine own_step st1 ?_
  show own_G p.tables e below _ (T1.setTop (mkF m 4 #[.val (.ref a1)] [(.int u_column_a1)]))
  obtain ⟨fs, hr, hrun, hended, hW, hsame⟩ := X1.leave (v := some (.int u_column_a1)) (fun h => by rw [Bd.returns] at h; cases h)
  refine own_done (retI X1 hx Bd.returns (hb hby d10_4) hr) hrun hended ⟨_, _, rfl, ?_, ⟨_, rfl⟩, hW, hsame.mono (by decide) (by decide)⟩
  show Q10 Z a1 u_column_a1 h0 n0 _ T1.heap _
  rw [e1]
  exact ⟨congrArg (fun z => some (Value.int z)) (show u_column_a1 = u_column_a1 from rfl), N0, rfl⟩

theorem own_line (c w l : Int32) : own_f8_line c w l = own_f4 l w c := by
  unfold own_f8_line own_f4 own_f5 own_f6
  by_cases h1 : c = (10 : Int32)
  · by_cases h2 : w = (13 : Int32)
    · simp only [if_pos h1, if_pos h2]; rfl
    · simp only [if_pos h1, if_neg h2]; rfl
  · by_cases h3 : c = (13 : Int32)
    · simp only [if_neg h1, if_pos h3]; rfl
    · simp only [if_neg h1, if_neg h3]; rfl
theorem own_col (c w l : Int32) : own_f8_column c w l = own_f7 l w c := by
  unfold own_f8_column own_f7 own_f5 own_f6
  by_cases h1 : c = (10 : Int32)
  · by_cases h2 : w = (13 : Int32)
    · simp only [if_pos h1, if_pos h2]; rfl
    · simp only [if_pos h1, if_neg h2]; rfl
  · by_cases h3 : c = (13 : Int32)
    · simp only [if_neg h1, if_pos h3]; rfl
    · simp only [if_neg h1, if_neg h3]; rfl
theorem own_nar2 (x : Int32) : nar .char (nar .char x) = nar .char x := by
  show ((x.toUInt32.toUInt16.toUInt32.toInt32).toUInt32.toUInt16.toUInt32.toInt32) = x.toUInt32.toUInt16.toUInt32.toInt32
  have e : ∀ u : UInt16, (u.toUInt32.toInt32).toUInt32.toUInt16 = u := fun u => by
    show u.toUInt32.toUInt16 = u
    exact UInt16.toUInt16_toUInt32 u
  rw [e]
theorem own_nar (x : Int32) : nar .char (own_f1 x) = own_f1 x := by
  unfold own_f1
  split
  · decide
  · split
    · decide
    · exact own_nar2 _

theorem pn_0 : plainName "com/example/same_bytes/samebytes/TextPositionAdvancePinLaw" = true := by first | (simp [plainName, overriddenIn]; done) | decide +kernel
theorem pd_0_0 : parseMethodDescriptor "(I)C" = some ⟨[.int], some .char⟩ := by decide +kernel
theorem pd_0_1 : parseMethodDescriptor "(II)V" = some ⟨[.int, .int], none⟩ := by decide +kernel
theorem pd_0_2 : parseMethodDescriptor "(ICC)I" = some ⟨[.int, .char, .char], some .int⟩ := by decide +kernel
theorem pd_0_3 : parseMethodDescriptor "(C)V" = some ⟨[.char], none⟩ := by decide +kernel
theorem pd_0_4 : parseMethodDescriptor "()I" = some ⟨[], some .int⟩ := by decide +kernel
theorem ef_0 (m : MethodId) (p1 : Int32) (p2 : Int32) (p3 : Int32) (p4 : Int32) (p5 : Int32) : entryFrame m #[(.int p1), (.int p2), (.int p3), (.int p4), (.int p5)] maxLocals = mkF m 0 #[.val (.int p1), .val (.int p2), .val (.int p3), .val (.int p4), .val (.int p5), .unset, .unset, .unset, .unset, .unset, .unset, .unset, .unset, .unset, .unset, .unset, .unset] [] := by first | (simp [entryFrame, mkF, argsToLocals, Value.category, maxLocals]; done) | rfl
def Q0 (Z : State) (p1 : Int32) (p2 : Int32) (p3 : Int32) (p4 : Int32) (p5 : Int32) (h0 : Heap) (n0 : Nat) (v : Option Value) (h : Heap) (L : List Loc) : Prop := v = some (.int (1 : Int32)) ∧ Fr n0 L
set_option maxRecDepth 65536 in
set_option maxHeartbeats 40000000 in
theorem rm0 (l : Launch) (Z : State) (a0 : Array Value) (hw : ∀ d ∈ tables_1, d.before a0 Z = true) (ws : List Jvm.Cond) (p1 : Int32) (p2 : Int32) (p3 : Int32) (p4 : Int32) (p5 : Int32) (h0 : Heap) (n0 : Nat) (Z0 : n0 ≤ h0.size) :
    MetFree l x (head1 (Jvm.Cond.code x code maxLocals ret :: ws) room_1) (fun a U => a = #[(.int p1), (.int p2), (.int p3), (.int p4), (.int p5)] ∧ Z.Warmed39 U.vm ∧ U.heap = h0) (fun _ _ _ _ _ => True) (fun _ U o U' => ∃ v L, o = .returned v ∧ Q0 Z p1 p2 p3 p4 p5 h0 n0 v U'.heap L ∧ FrameEnd U o U' L room_1.cells room_1.slots) := by
  refine MetFree.of_bodySF (plainFor_of_name pn_0) hisR ?_
  intro p e s m args below meth c s₁ Bd hml0 hP hK
  obtain ⟨rfl, hZ, hh⟩ := hP
  have hx := Bd.exec
  have hby := Bd.bytes
  have hml : c.maxLocals = 17 := hml0
  have hown : s.vm.findClass "com/example/same_bytes/samebytes/TextPositionAdvancePinLaw" = some m.cls := findClass_of_methodNamed Bd.named
  have hnm := (name_of_methodNamed Bd.named Bd.method).1
  have X0 : Stand p l e room_1 s m #[(.int p1), (.int p2), (.int p3), (.int p4), (.int p5)] below meth c s₁ [] 0 0 := Stand.of_body Bd
  have e0 : s₁.heap = h0 := by rw [← hh, Bd.state]; rfl
  have N0 := Fr.nil n0
  refine own_start (fun t k => castTop (ef_0 m p1 p2 p3 p4 p5) k) ?_
  show own_G p.tables e below _ (s₁.setTop (mkF m 0 #[.val (.int p1), .val (.int p2), .val (.int p3), .val (.int p4), .val (.int p5), .unset, .unset, .unset, .unset, .unset, .unset, .unset, .unset, .unset, .unset, .unset, .unset] []))
  refine own_step (fun t k => XS.iloadN X0.here hx rfl (hb hby at_0) rfl k) ?_
  show own_G p.tables e below _ (s₁.setTop (mkF m 1 #[.val (.int p1), .val (.int p2), .val (.int p3), .val (.int p4), .val (.int p5), .unset, .unset, .unset, .unset, .unset, .unset, .unset, .unset, .unset, .unset, .unset, .unset] [(.int p3)]))
  obtain ⟨_, _, ⟨T1, L1, k1, n1⟩, -, X1, ⟨Lc1, hQ1, l1, y1, z1⟩, st1⟩ := Jvm.LawKit.callS X0 hx (y := (⟨"com/example/same_bytes/samebytes/TextPositionAdvancePinLaw", "pick", "(I)C"⟩ : MethodName)) hown (mvT hZ (hw _ (List.mem_of_getElem? (i := 0) rfl))) (mvT hZ (hw _ (List.mem_of_getElem? (i := 1) rfl))) (mvT hZ (hw _ (List.mem_of_getElem? (i := 2) rfl))) (mvT hZ (hw _ (List.mem_of_getElem? (i := 3) rfl))) (by decide) (backOf (W := 0) (rm1 l Z a0 hw [] p3 h0 n0 (Nat.le_trans Z0 (Keep.refl h0 []).1) ) hZ (hw _ (List.mem_of_getElem? (i := 3) rfl)) (hw _ (List.mem_of_getElem? (i := 2) rfl)) (by decide) (by decide)) (g := (mkF m 1 #[.val (.int p1), .val (.int p2), .val (.int p3), .val (.int p4), .val (.int p5), .unset, .unset, .unset, .unset, .unset, .unset, .unset, .unset, .unset, .unset, .unset, .unset] [(.int p3)])) rfl (by rw [hml]; rfl) (argsL := [(.int p3)]) (rest := []) (lenOf pd_0_0 rfl) rfl (by show 2 * 0 + _ ≤ _; exact Nat.le_of_eq rfl) (hb hby at_1) (fun _ _ => ⟨rfl, e0, (by decide : 0 + 0 ≤ _), (by decide : 0 + 0 ≤ _)⟩)
  dsimp only [Pt.U, Pt.locs, Pt.cells, Pt.slots] at X1 l1 y1 z1 st1 hQ1
  subst l1 y1 z1
  obtain ⟨rfl, N1q, e1⟩ := hQ1
  have N1 := Fr.app N0 N1q
  refine own_step st1 ?_
  show own_G p.tables e below _ (T1.setTop (mkF m 4 #[.val (.int p1), .val (.int p2), .val (.int p3), .val (.int p4), .val (.int p5), .unset, .unset, .unset, .unset, .unset, .unset, .unset, .unset, .unset, .unset, .unset, .unset] [(.int (own_f1 p3))]))
  refine own_nm ((own_f1 p3) : Int32) (fun c1 => T1.setTop (mkF m 4 #[.val (.int p1), .val (.int p2), .val (.int p3), .val (.int p4), .val (.int p5), .unset, .unset, .unset, .unset, .unset, .unset, .unset, .unset, .unset, .unset, .unset, .unset] [(.int c1)])) ?_
  intro c1 hd_c1
  show own_G p.tables e below _ (T1.setTop (mkF m 4 #[.val (.int p1), .val (.int p2), .val (.int p3), .val (.int p4), .val (.int p5), .unset, .unset, .unset, .unset, .unset, .unset, .unset, .unset, .unset, .unset, .unset, .unset] [(.int c1)]))
  refine own_step (fun t k => XS.istore X1.here hx rfl (hb hby at_4) rfl (l' := #[.val (.int p1), .val (.int p2), .val (.int p3), .val (.int p4), .val (.int p5), .val (.int c1), .unset, .unset, .unset, .unset, .unset, .unset, .unset, .unset, .unset, .unset, .unset]) rfl k) ?_
  show own_G p.tables e below _ (T1.setTop (mkF m 6 #[.val (.int p1), .val (.int p2), .val (.int p3), .val (.int p4), .val (.int p5), .val (.int c1), .unset, .unset, .unset, .unset, .unset, .unset, .unset, .unset, .unset, .unset, .unset] []))
  refine own_step (fun t k => XS.iloadN X1.here hx rfl (hb hby at_6) rfl k) ?_
  show own_G p.tables e below _ (T1.setTop (mkF m 7 #[.val (.int p1), .val (.int p2), .val (.int p3), .val (.int p4), .val (.int p5), .val (.int c1), .unset, .unset, .unset, .unset, .unset, .unset, .unset, .unset, .unset, .unset, .unset] [(.int p4)]))
  obtain ⟨_, _, ⟨T3, L3, k3, n3⟩, -, X3, ⟨Lc3, hQ3, l3, y3, z3⟩, st3⟩ := Jvm.LawKit.callS X1 hx (y := (⟨"com/example/same_bytes/samebytes/TextPositionAdvancePinLaw", "pick", "(I)C"⟩ : MethodName)) hown (mvT hZ (hw _ (List.mem_of_getElem? (i := 0) rfl))) (mvT hZ (hw _ (List.mem_of_getElem? (i := 1) rfl))) (mvT hZ (hw _ (List.mem_of_getElem? (i := 2) rfl))) (mvT hZ (hw _ (List.mem_of_getElem? (i := 3) rfl))) (by decide) (backOf (W := 0) (rm1 l Z a0 hw [] p4 h0 n0 (Nat.le_trans Z0 (Keep.refl h0 []).1) ) hZ (hw _ (List.mem_of_getElem? (i := 3) rfl)) (hw _ (List.mem_of_getElem? (i := 2) rfl)) (by decide) (by decide)) (g := (mkF m 7 #[.val (.int p1), .val (.int p2), .val (.int p3), .val (.int p4), .val (.int p5), .val (.int c1), .unset, .unset, .unset, .unset, .unset, .unset, .unset, .unset, .unset, .unset, .unset] [(.int p4)])) rfl (by rw [hml]; rfl) (argsL := [(.int p4)]) (rest := []) (lenOf pd_0_0 rfl) rfl (by show 2 * 0 + _ ≤ _; exact Nat.le_of_eq rfl) (hb hby at_7) (fun _ _ => ⟨rfl, e1, (by decide : 0 + 0 ≤ _), (by decide : 0 + 0 ≤ _)⟩)
  dsimp only [Pt.U, Pt.locs, Pt.cells, Pt.slots] at X3 l3 y3 z3 st3 hQ3
  subst l3 y3 z3
  obtain ⟨rfl, N3q, e3⟩ := hQ3
  have N3 := Fr.app N1 N3q
  refine own_step st3 ?_
  show own_G p.tables e below _ (T3.setTop (mkF m 10 #[.val (.int p1), .val (.int p2), .val (.int p3), .val (.int p4), .val (.int p5), .val (.int c1), .unset, .unset, .unset, .unset, .unset, .unset, .unset, .unset, .unset, .unset, .unset] [(.int (own_f1 p4))]))
  refine own_nm ((own_f1 p4) : Int32) (fun c2 => T3.setTop (mkF m 10 #[.val (.int p1), .val (.int p2), .val (.int p3), .val (.int p4), .val (.int p5), .val (.int c1), .unset, .unset, .unset, .unset, .unset, .unset, .unset, .unset, .unset, .unset, .unset] [(.int c2)])) ?_
  intro c2 hd_c2
  show own_G p.tables e below _ (T3.setTop (mkF m 10 #[.val (.int p1), .val (.int p2), .val (.int p3), .val (.int p4), .val (.int p5), .val (.int c1), .unset, .unset, .unset, .unset, .unset, .unset, .unset, .unset, .unset, .unset, .unset] [(.int c2)]))
  refine own_step (fun t k => XS.istore X3.here hx rfl (hb hby at_10) rfl (l' := #[.val (.int p1), .val (.int p2), .val (.int p3), .val (.int p4), .val (.int p5), .val (.int c1), .val (.int c2), .unset, .unset, .unset, .unset, .unset, .unset, .unset, .unset, .unset, .unset]) rfl k) ?_
  show own_G p.tables e below _ (T3.setTop (mkF m 12 #[.val (.int p1), .val (.int p2), .val (.int p3), .val (.int p4), .val (.int p5), .val (.int c1), .val (.int c2), .unset, .unset, .unset, .unset, .unset, .unset, .unset, .unset, .unset, .unset] []))
  refine own_step (fun t k => XS.iload X3.here hx rfl (hb hby at_12) rfl k) ?_
  show own_G p.tables e below _ (T3.setTop (mkF m 14 #[.val (.int p1), .val (.int p2), .val (.int p3), .val (.int p4), .val (.int p5), .val (.int c1), .val (.int c2), .unset, .unset, .unset, .unset, .unset, .unset, .unset, .unset, .unset, .unset] [(.int p5)]))
  obtain ⟨_, _, ⟨T5, L5, k5, n5⟩, -, X5, ⟨Lc5, hQ5, l5, y5, z5⟩, st5⟩ := Jvm.LawKit.callS X3 hx (y := (⟨"com/example/same_bytes/samebytes/TextPositionAdvancePinLaw", "pick", "(I)C"⟩ : MethodName)) hown (mvT hZ (hw _ (List.mem_of_getElem? (i := 0) rfl))) (mvT hZ (hw _ (List.mem_of_getElem? (i := 1) rfl))) (mvT hZ (hw _ (List.mem_of_getElem? (i := 2) rfl))) (mvT hZ (hw _ (List.mem_of_getElem? (i := 3) rfl))) (by decide) (backOf (W := 0) (rm1 l Z a0 hw [] p5 h0 n0 (Nat.le_trans Z0 (Keep.refl h0 []).1) ) hZ (hw _ (List.mem_of_getElem? (i := 3) rfl)) (hw _ (List.mem_of_getElem? (i := 2) rfl)) (by decide) (by decide)) (g := (mkF m 14 #[.val (.int p1), .val (.int p2), .val (.int p3), .val (.int p4), .val (.int p5), .val (.int c1), .val (.int c2), .unset, .unset, .unset, .unset, .unset, .unset, .unset, .unset, .unset, .unset] [(.int p5)])) rfl (by rw [hml]; rfl) (argsL := [(.int p5)]) (rest := []) (lenOf pd_0_0 rfl) rfl (by show 2 * 0 + _ ≤ _; exact Nat.le_of_eq rfl) (hb hby at_14) (fun _ _ => ⟨rfl, e3, (by decide : 0 + 0 ≤ _), (by decide : 0 + 0 ≤ _)⟩)
  dsimp only [Pt.U, Pt.locs, Pt.cells, Pt.slots] at X5 l5 y5 z5 st5 hQ5
  subst l5 y5 z5
  obtain ⟨rfl, N5q, e5⟩ := hQ5
  have N5 := Fr.app N3 N5q
  refine own_step st5 ?_
  show own_G p.tables e below _ (T5.setTop (mkF m 17 #[.val (.int p1), .val (.int p2), .val (.int p3), .val (.int p4), .val (.int p5), .val (.int c1), .val (.int c2), .unset, .unset, .unset, .unset, .unset, .unset, .unset, .unset, .unset, .unset] [(.int (own_f1 p5))]))
  refine own_nm ((own_f1 p5) : Int32) (fun c3 => T5.setTop (mkF m 17 #[.val (.int p1), .val (.int p2), .val (.int p3), .val (.int p4), .val (.int p5), .val (.int c1), .val (.int c2), .unset, .unset, .unset, .unset, .unset, .unset, .unset, .unset, .unset, .unset] [(.int c3)])) ?_
  intro c3 hd_c3
  show own_G p.tables e below _ (T5.setTop (mkF m 17 #[.val (.int p1), .val (.int p2), .val (.int p3), .val (.int p4), .val (.int p5), .val (.int c1), .val (.int c2), .unset, .unset, .unset, .unset, .unset, .unset, .unset, .unset, .unset, .unset] [(.int c3)]))
  refine own_step (fun t k => XS.istore X5.here hx rfl (hb hby at_17) rfl (l' := #[.val (.int p1), .val (.int p2), .val (.int p3), .val (.int p4), .val (.int p5), .val (.int c1), .val (.int c2), .val (.int c3), .unset, .unset, .unset, .unset, .unset, .unset, .unset, .unset, .unset]) rfl k) ?_
  show own_G p.tables e below _ (T5.setTop (mkF m 19 #[.val (.int p1), .val (.int p2), .val (.int p3), .val (.int p4), .val (.int p5), .val (.int c1), .val (.int c2), .val (.int c3), .unset, .unset, .unset, .unset, .unset, .unset, .unset, .unset, .unset] []))
  obtain ⟨T7, h7, X7, e7, E7, A7, D7, -, st7⟩ := newO X5 hx hZ hown (hw _ (List.mem_of_getElem? (i := 4) rfl)) (hw _ (List.mem_of_getElem? (i := 5) rfl)) (hw _ (List.mem_of_getElem? (i := 6) rfl)) e5 (g := (mkF m 19 #[.val (.int p1), .val (.int p2), .val (.int p3), .val (.int p4), .val (.int p5), .val (.int c1), .val (.int c2), .val (.int c3), .unset, .unset, .unset, .unset, .unset, .unset, .unset, .unset, .unset] [])) rfl (hb hby at_19) (by decide) (by decide)
  obtain ⟨b7, g7⟩ : ∃ z, z = h0.size := ⟨_, rfl⟩
  have sz7 : h0.size ≤ b7 := Nat.le_trans (Keep.refl h0 []).1 (Nat.le_of_eq g7.symm)
  have ge7 : n0 ≤ b7 := Nat.le_trans Z0 sz7
  have K7 : Keep h0 h7 [] := (Keep.refl h0 []).ext E7
  rw [← g7] at A7 D7 st7
  have c8 : Fld Z h7 b7 "com/example/same_bytes/samebytes/TextPosition" "line" "I" (.int (0 : Int32)) := D7 (Or.inl (hw _ (List.mem_of_getElem? (i := 14) rfl))) (ty := .int) (by decide)
  have c9 : Fld Z h7 b7 "com/example/same_bytes/samebytes/TextPosition" "column" "I" (.int (0 : Int32)) := D7 (Or.inl (hw _ (List.mem_of_getElem? (i := 16) rfl))) (ty := .int) (by decide)
  have c10 : Fld Z h7 b7 "com/example/same_bytes/samebytes/TextPosition" "last" "C" (.int (0 : Int32)) := D7 (Or.inl (hw _ (List.mem_of_getElem? (i := 35) rfl))) (ty := .char) (by decide)
  refine own_step st7 ?_
  show own_G p.tables e below _ (T7.setTop (mkF m 22 #[.val (.int p1), .val (.int p2), .val (.int p3), .val (.int p4), .val (.int p5), .val (.int c1), .val (.int c2), .val (.int c3), .unset, .unset, .unset, .unset, .unset, .unset, .unset, .unset, .unset] [(.ref b7)]))
  refine own_step (fun t k => XS.dup X7.here hx rfl (hb hby at_22) rfl rfl k) ?_
  show own_G p.tables e below _ (T7.setTop (mkF m 23 #[.val (.int p1), .val (.int p2), .val (.int p3), .val (.int p4), .val (.int p5), .val (.int c1), .val (.int c2), .val (.int c3), .unset, .unset, .unset, .unset, .unset, .unset, .unset, .unset, .unset] [(.ref b7), (.ref b7)]))
  refine own_step (fun t k => XS.iloadN X7.here hx rfl (hb hby at_23) rfl k) ?_
  show own_G p.tables e below _ (T7.setTop (mkF m 24 #[.val (.int p1), .val (.int p2), .val (.int p3), .val (.int p4), .val (.int p5), .val (.int c1), .val (.int c2), .val (.int c3), .unset, .unset, .unset, .unset, .unset, .unset, .unset, .unset, .unset] [(.int p1), (.ref b7), (.ref b7)]))
  refine own_step (fun t k => XS.iloadN X7.here hx rfl (hb hby at_24) rfl k) ?_
  show own_G p.tables e below _ (T7.setTop (mkF m 25 #[.val (.int p1), .val (.int p2), .val (.int p3), .val (.int p4), .val (.int p5), .val (.int c1), .val (.int c2), .val (.int c3), .unset, .unset, .unset, .unset, .unset, .unset, .unset, .unset, .unset] [(.int p2), (.int p1), (.ref b7), (.ref b7)]))
  obtain ⟨_, _, ⟨T11, L11, k11, n11⟩, -, X11, ⟨Lc11, hQ11, l11, y11, z11⟩, st11⟩ := X7.specialBack hx (y := (⟨"com/example/same_bytes/samebytes/TextPosition", "<init>", "(II)V"⟩ : MethodName)) rfl hown (mvT hZ (hw _ (List.mem_of_getElem? (i := 7) rfl))) (mvT hZ (hw _ (List.mem_of_getElem? (i := 8) rfl))) (mvT hZ (hw _ (List.mem_of_getElem? (i := 9) rfl))) (by decide) (backOf (W := 1) (rm2 l Z a0 hw [] b7 p1 p2 (.int (0 : Int32)) (.int (0 : Int32)) (.int (0 : Int32)) h7 n0 (Nat.le_trans Z0 K7.1) A7 c8 c9 c10 ge7) hZ (hw _ (List.mem_of_getElem? (i := 9) rfl)) (hw _ (List.mem_of_getElem? (i := 6) rfl)) (by decide) (by decide)) (g := (mkF m 25 #[.val (.int p1), .val (.int p2), .val (.int p3), .val (.int p4), .val (.int p5), .val (.int c1), .val (.int c2), .val (.int c3), .unset, .unset, .unset, .unset, .unset, .unset, .unset, .unset, .unset] [(.int p2), (.int p1), (.ref b7), (.ref b7)])) rfl (by rw [hml]; rfl) (Steps.refl _) (a := b7) (argsL := [(.int p1), (.int p2)]) (rest := [(.ref b7)]) (lenOf pd_0_1 rfl) rfl (by show 2 * 0 + _ ≤ _; exact Nat.le_of_eq rfl) (hb hby at_25) (fun _ _ => ⟨rfl, e7, (by decide : 1 + 0 ≤ _), (by decide : 3 + 0 ≤ _)⟩)
  dsimp only [Pt.U, Pt.locs, Pt.cells, Pt.slots] at X11 l11 y11 z11 st11 hQ11
  subst l11 y11 z11
  obtain ⟨rfl, N11q, K11q, w11_0, w11_1, w11_2⟩ := hQ11
  have c12 : Exa Z T11.heap b7 "com/example/same_bytes/samebytes/TextPosition" := A7.keep K11q
  have K11 : Keep h0 T11.heap [] := K7.trans K11q (allS (Or.inr sz7) all0)
  have N11 := Fr.app N5 N11q
  refine own_step (fun t k => st11.trans k) ?_
  show own_G p.tables e below _ (T11.setTop (mkF m 28 #[.val (.int p1), .val (.int p2), .val (.int p3), .val (.int p4), .val (.int p5), .val (.int c1), .val (.int c2), .val (.int c3), .unset, .unset, .unset, .unset, .unset, .unset, .unset, .unset, .unset] [(.ref b7)]))
  refine own_step (fun t k => XS.astore X11.here hx rfl (hb hby at_28) rfl rfl (l' := #[.val (.int p1), .val (.int p2), .val (.int p3), .val (.int p4), .val (.int p5), .val (.int c1), .val (.int c2), .val (.int c3), .val (.ref b7), .unset, .unset, .unset, .unset, .unset, .unset, .unset, .unset]) rfl k) ?_
  show own_G p.tables e below _ (T11.setTop (mkF m 30 #[.val (.int p1), .val (.int p2), .val (.int p3), .val (.int p4), .val (.int p5), .val (.int c1), .val (.int c2), .val (.int c3), .val (.ref b7), .unset, .unset, .unset, .unset, .unset, .unset, .unset, .unset] []))
  refine own_step (fun t k => XS.iconst X11.here hx rfl (hb hby at_30) k) ?_
  show own_G p.tables e below _ (T11.setTop (mkF m 31 #[.val (.int p1), .val (.int p2), .val (.int p3), .val (.int p4), .val (.int p5), .val (.int c1), .val (.int c2), .val (.int c3), .val (.ref b7), .unset, .unset, .unset, .unset, .unset, .unset, .unset, .unset] [(.int (0 : Int32))]))
  have n1 : nar .char c1 = c1 := by rw [hd_c1]; exact own_nar _
  have n2 : nar .char c2 = c2 := by rw [hd_c2]; exact own_nar _
  refine own_step (fun t k => XS.istore X11.here hx rfl (hb hby at_31) rfl (l' := #[.val (.int p1), .val (.int p2), .val (.int p3), .val (.int p4), .val (.int p5), .val (.int c1), .val (.int c2), .val (.int c3), .val (.ref b7), .val (.int (0 : Int32)), .unset, .unset, .unset, .unset, .unset, .unset, .unset]) rfl k) ?_
  show own_G p.tables e below _ (T11.setTop (mkF m 33 #[.val (.int p1), .val (.int p2), .val (.int p3), .val (.int p4), .val (.int p5), .val (.int c1), .val (.int c2), .val (.int c3), .val (.ref b7), .val (.int (0 : Int32)), .unset, .unset, .unset, .unset, .unset, .unset, .unset] []))
  refine own_step (fun t k => XS.iloadN X11.here hx rfl (hb hby at_33) rfl k) ?_
  show own_G p.tables e below _ (T11.setTop (mkF m 34 #[.val (.int p1), .val (.int p2), .val (.int p3), .val (.int p4), .val (.int p5), .val (.int c1), .val (.int c2), .val (.int c3), .val (.ref b7), .val (.int (0 : Int32)), .unset, .unset, .unset, .unset, .unset, .unset, .unset] [(.int p1)]))
  refine own_step (fun t k => XS.iload X11.here hx rfl (hb hby at_34) rfl k) ?_
  show own_G p.tables e below _ (T11.setTop (mkF m 36 #[.val (.int p1), .val (.int p2), .val (.int p3), .val (.int p4), .val (.int p5), .val (.int c1), .val (.int c2), .val (.int c3), .val (.ref b7), .val (.int (0 : Int32)), .unset, .unset, .unset, .unset, .unset, .unset, .unset] [(.int (0 : Int32)), (.int p1)]))
  refine own_step (fun t k => XS.iload X11.here hx rfl (hb hby at_36) rfl k) ?_
  show own_G p.tables e below _ (T11.setTop (mkF m 38 #[.val (.int p1), .val (.int p2), .val (.int p3), .val (.int p4), .val (.int p5), .val (.int c1), .val (.int c2), .val (.int c3), .val (.ref b7), .val (.int (0 : Int32)), .unset, .unset, .unset, .unset, .unset, .unset, .unset] [(.int c1), (.int (0 : Int32)), (.int p1)]))
  obtain ⟨_, _, ⟨T16, L16, k16, n16⟩, -, X16, ⟨Lc16, hQ16, l16, y16, z16⟩, st16⟩ := Jvm.LawKit.callS X11 hx (y := (⟨"com/example/same_bytes/samebytes/TextPositionAdvancePinLaw", "expLine", "(ICC)I"⟩ : MethodName)) hown (mvT hZ (hw _ (List.mem_of_getElem? (i := 17) rfl))) (mvT hZ (hw _ (List.mem_of_getElem? (i := 18) rfl))) (mvT hZ (hw _ (List.mem_of_getElem? (i := 2) rfl))) (mvT hZ (hw _ (List.mem_of_getElem? (i := 19) rfl))) (by decide) (backOf (W := 0) (rm4 l Z a0 hw [] p1 (0 : Int32) c1 T11.heap n0 (Nat.le_trans Z0 K11.1) ) hZ (hw _ (List.mem_of_getElem? (i := 19) rfl)) (hw _ (List.mem_of_getElem? (i := 2) rfl)) (by decide) (by decide)) (g := (mkF m 38 #[.val (.int p1), .val (.int p2), .val (.int p3), .val (.int p4), .val (.int p5), .val (.int c1), .val (.int c2), .val (.int c3), .val (.ref b7), .val (.int (0 : Int32)), .unset, .unset, .unset, .unset, .unset, .unset, .unset] [(.int c1), (.int (0 : Int32)), (.int p1)])) rfl (by rw [hml]; rfl) (argsL := [(.int p1), (.int (0 : Int32)), (.int c1)]) (rest := []) (lenOf pd_0_2 rfl) rfl (by show 2 * 0 + _ ≤ _; exact Nat.le_of_eq rfl) (hb hby at_38) (fun _ _ => ⟨rfl, rfl, (by decide : 1 + 0 ≤ _), (by decide : 3 + 0 ≤ _)⟩)
  dsimp only [Pt.U, Pt.locs, Pt.cells, Pt.slots] at X16 l16 y16 z16 st16 hQ16
  subst l16 y16 z16
  obtain ⟨rfl, N16q, e16⟩ := hQ16
  have N16 := Fr.app N11 N16q
  refine own_step st16 ?_
  show own_G p.tables e below _ (T16.setTop (mkF m 41 #[.val (.int p1), .val (.int p2), .val (.int p3), .val (.int p4), .val (.int p5), .val (.int c1), .val (.int c2), .val (.int c3), .val (.ref b7), .val (.int (0 : Int32)), .unset, .unset, .unset, .unset, .unset, .unset, .unset] [(.int (own_f4 p1 (0 : Int32) c1))]))
  refine own_nm ((own_f4 p1 (0 : Int32) c1) : Int32) (fun l1 => T16.setTop (mkF m 41 #[.val (.int p1), .val (.int p2), .val (.int p3), .val (.int p4), .val (.int p5), .val (.int c1), .val (.int c2), .val (.int c3), .val (.ref b7), .val (.int (0 : Int32)), .unset, .unset, .unset, .unset, .unset, .unset, .unset] [(.int l1)])) ?_
  intro l1 hd_l1
  show own_G p.tables e below _ (T16.setTop (mkF m 41 #[.val (.int p1), .val (.int p2), .val (.int p3), .val (.int p4), .val (.int p5), .val (.int c1), .val (.int c2), .val (.int c3), .val (.ref b7), .val (.int (0 : Int32)), .unset, .unset, .unset, .unset, .unset, .unset, .unset] [(.int l1)]))
  refine own_step (fun t k => XS.istore X16.here hx rfl (hb hby at_41) rfl (l' := #[.val (.int p1), .val (.int p2), .val (.int p3), .val (.int p4), .val (.int p5), .val (.int c1), .val (.int c2), .val (.int c3), .val (.ref b7), .val (.int (0 : Int32)), .val (.int l1), .unset, .unset, .unset, .unset, .unset, .unset]) rfl k) ?_
  show own_G p.tables e below _ (T16.setTop (mkF m 43 #[.val (.int p1), .val (.int p2), .val (.int p3), .val (.int p4), .val (.int p5), .val (.int c1), .val (.int c2), .val (.int c3), .val (.ref b7), .val (.int (0 : Int32)), .val (.int l1), .unset, .unset, .unset, .unset, .unset, .unset] []))
  refine own_step (fun t k => XS.iloadN X16.here hx rfl (hb hby at_43) rfl k) ?_
  show own_G p.tables e below _ (T16.setTop (mkF m 44 #[.val (.int p1), .val (.int p2), .val (.int p3), .val (.int p4), .val (.int p5), .val (.int c1), .val (.int c2), .val (.int c3), .val (.ref b7), .val (.int (0 : Int32)), .val (.int l1), .unset, .unset, .unset, .unset, .unset, .unset] [(.int p2)]))
  refine own_step (fun t k => XS.iload X16.here hx rfl (hb hby at_44) rfl k) ?_
  show own_G p.tables e below _ (T16.setTop (mkF m 46 #[.val (.int p1), .val (.int p2), .val (.int p3), .val (.int p4), .val (.int p5), .val (.int c1), .val (.int c2), .val (.int c3), .val (.ref b7), .val (.int (0 : Int32)), .val (.int l1), .unset, .unset, .unset, .unset, .unset, .unset] [(.int (0 : Int32)), (.int p2)]))
  refine own_step (fun t k => XS.iload X16.here hx rfl (hb hby at_46) rfl k) ?_
  show own_G p.tables e below _ (T16.setTop (mkF m 48 #[.val (.int p1), .val (.int p2), .val (.int p3), .val (.int p4), .val (.int p5), .val (.int c1), .val (.int c2), .val (.int c3), .val (.ref b7), .val (.int (0 : Int32)), .val (.int l1), .unset, .unset, .unset, .unset, .unset, .unset] [(.int c1), (.int (0 : Int32)), (.int p2)]))
  obtain ⟨_, _, ⟨T18, L18, k18, n18⟩, -, X18, ⟨Lc18, hQ18, l18, y18, z18⟩, st18⟩ := Jvm.LawKit.callS X16 hx (y := (⟨"com/example/same_bytes/samebytes/TextPositionAdvancePinLaw", "expCol", "(ICC)I"⟩ : MethodName)) hown (mvT hZ (hw _ (List.mem_of_getElem? (i := 26) rfl))) (mvT hZ (hw _ (List.mem_of_getElem? (i := 27) rfl))) (mvT hZ (hw _ (List.mem_of_getElem? (i := 2) rfl))) (mvT hZ (hw _ (List.mem_of_getElem? (i := 28) rfl))) (by decide) (backOf (W := 0) (rm7 l Z a0 hw [] p2 (0 : Int32) c1 T11.heap n0 (Nat.le_trans Z0 K11.1) ) hZ (hw _ (List.mem_of_getElem? (i := 28) rfl)) (hw _ (List.mem_of_getElem? (i := 2) rfl)) (by decide) (by decide)) (g := (mkF m 48 #[.val (.int p1), .val (.int p2), .val (.int p3), .val (.int p4), .val (.int p5), .val (.int c1), .val (.int c2), .val (.int c3), .val (.ref b7), .val (.int (0 : Int32)), .val (.int l1), .unset, .unset, .unset, .unset, .unset, .unset] [(.int c1), (.int (0 : Int32)), (.int p2)])) rfl (by rw [hml]; rfl) (argsL := [(.int p2), (.int (0 : Int32)), (.int c1)]) (rest := []) (lenOf pd_0_2 rfl) rfl (by show 2 * 0 + _ ≤ _; exact Nat.le_of_eq rfl) (hb hby at_48) (fun _ _ => ⟨rfl, e16, (by decide : 1 + 0 ≤ _), (by decide : 3 + 0 ≤ _)⟩)
  dsimp only [Pt.U, Pt.locs, Pt.cells, Pt.slots] at X18 l18 y18 z18 st18 hQ18
  subst l18 y18 z18
  obtain ⟨rfl, N18q, e18⟩ := hQ18
  have N18 := Fr.app N16 N18q
  refine own_step st18 ?_
  show own_G p.tables e below _ (T18.setTop (mkF m 51 #[.val (.int p1), .val (.int p2), .val (.int p3), .val (.int p4), .val (.int p5), .val (.int c1), .val (.int c2), .val (.int c3), .val (.ref b7), .val (.int (0 : Int32)), .val (.int l1), .unset, .unset, .unset, .unset, .unset, .unset] [(.int (own_f7 p2 (0 : Int32) c1))]))
  refine own_nm ((own_f7 p2 (0 : Int32) c1) : Int32) (fun k1 => T18.setTop (mkF m 51 #[.val (.int p1), .val (.int p2), .val (.int p3), .val (.int p4), .val (.int p5), .val (.int c1), .val (.int c2), .val (.int c3), .val (.ref b7), .val (.int (0 : Int32)), .val (.int l1), .unset, .unset, .unset, .unset, .unset, .unset] [(.int k1)])) ?_
  intro k1 hd_k1
  show own_G p.tables e below _ (T18.setTop (mkF m 51 #[.val (.int p1), .val (.int p2), .val (.int p3), .val (.int p4), .val (.int p5), .val (.int c1), .val (.int c2), .val (.int c3), .val (.ref b7), .val (.int (0 : Int32)), .val (.int l1), .unset, .unset, .unset, .unset, .unset, .unset] [(.int k1)]))
  refine own_step (fun t k => XS.istore X18.here hx rfl (hb hby at_51) rfl (l' := #[.val (.int p1), .val (.int p2), .val (.int p3), .val (.int p4), .val (.int p5), .val (.int c1), .val (.int c2), .val (.int c3), .val (.ref b7), .val (.int (0 : Int32)), .val (.int l1), .val (.int k1), .unset, .unset, .unset, .unset, .unset]) rfl k) ?_
  show own_G p.tables e below _ (T18.setTop (mkF m 53 #[.val (.int p1), .val (.int p2), .val (.int p3), .val (.int p4), .val (.int p5), .val (.int c1), .val (.int c2), .val (.int c3), .val (.ref b7), .val (.int (0 : Int32)), .val (.int l1), .val (.int k1), .unset, .unset, .unset, .unset, .unset] []))
  refine own_step (fun t k => XS.aload X18.here hx rfl (hb hby at_53) rfl rfl k) ?_
  show own_G p.tables e below _ (T18.setTop (mkF m 55 #[.val (.int p1), .val (.int p2), .val (.int p3), .val (.int p4), .val (.int p5), .val (.int c1), .val (.int c2), .val (.int c3), .val (.ref b7), .val (.int (0 : Int32)), .val (.int l1), .val (.int k1), .unset, .unset, .unset, .unset, .unset] [(.ref b7)]))
  refine own_step (fun t k => XS.iload X18.here hx rfl (hb hby at_55) rfl k) ?_
  show own_G p.tables e below _ (T18.setTop (mkF m 57 #[.val (.int p1), .val (.int p2), .val (.int p3), .val (.int p4), .val (.int p5), .val (.int c1), .val (.int c2), .val (.int c3), .val (.ref b7), .val (.int (0 : Int32)), .val (.int l1), .val (.int k1), .unset, .unset, .unset, .unset, .unset] [(.int c1), (.ref b7)]))
  obtain ⟨cq20, kq20, q20a, q20b, q20c⟩ := isOf hZ e18 c12
  obtain ⟨_, _, ⟨T20, L20, k20, n20⟩, -, X20, ⟨Lc20, hQ20, l20, y20, z20⟩, st20⟩ := X18.virtualBack hx (y := (⟨"com/example/same_bytes/samebytes/TextPosition", "advance", "(C)V"⟩ : MethodName)) (z := (⟨"com/example/same_bytes/samebytes/TextPosition", "advance", "(C)V"⟩ : MethodName)) hown (mvT hZ (hw _ (List.mem_of_getElem? (i := 29) rfl))) (mvT hZ (hw _ (List.mem_of_getElem? (i := 30) rfl))) (notFace_of_selects (args := #[]) (mvT hZ (hw _ (List.mem_of_getElem? (i := 32) rfl)))) (mvT hZ (hw _ (List.mem_of_getElem? (i := 32) rfl))) (mvT hZ (hw _ (List.mem_of_getElem? (i := 31) rfl))) (by decide) (backOf (W := 0) (rm8 l Z a0 hw [] b7 c1 (0 : Int32) p1 p2 T11.heap n0 (Nat.le_trans Z0 K11.1) w11_2 c12 w11_0 w11_1 ge7) hZ (hw _ (List.mem_of_getElem? (i := 33) rfl)) (hw _ (List.mem_of_getElem? (i := 6) rfl)) (by decide) (by decide)) q20a q20c (g := (mkF m 57 #[.val (.int p1), .val (.int p2), .val (.int p3), .val (.int p4), .val (.int p5), .val (.int c1), .val (.int c2), .val (.int c3), .val (.ref b7), .val (.int (0 : Int32)), .val (.int l1), .val (.int k1), .unset, .unset, .unset, .unset, .unset] [(.int c1), (.ref b7)])) rfl (by rw [hml]; rfl) (Steps.refl _) (argsL := [(.int c1)]) (rest := []) (lenOf pd_0_3 rfl) rfl (by show 2 * 0 + _ ≤ _; exact Nat.le_of_eq rfl) (hb hby at_57) (fun _ _ => ⟨rfl, e18, (by decide : 1 + 0 ≤ _), (by decide : 3 + 0 ≤ _)⟩)
  dsimp only [Pt.U, Pt.locs, Pt.cells, Pt.slots] at X20 l20 y20 z20 st20 hQ20
  subst l20 y20 z20
  obtain ⟨rfl, N20q, K20q, w20_0, w20_1, w20_2⟩ := hQ20
  have c21 : Exa Z T20.heap b7 "com/example/same_bytes/samebytes/TextPosition" := c12.keep K20q
  have K20 : Keep h0 T20.heap [] := K11.trans K20q (allS (Or.inr sz7) all0)
  have N20 := Fr.app N18 N20q
  refine own_step (fun t k => st20.trans k) ?_
  show own_G p.tables e below _ (T20.setTop (mkF m 60 #[.val (.int p1), .val (.int p2), .val (.int p3), .val (.int p4), .val (.int p5), .val (.int c1), .val (.int c2), .val (.int c3), .val (.ref b7), .val (.int (0 : Int32)), .val (.int l1), .val (.int k1), .unset, .unset, .unset, .unset, .unset] []))
  refine own_step (fun t k => XS.aload X20.here hx rfl (hb hby at_60) rfl rfl k) ?_
  show own_G p.tables e below _ (T20.setTop (mkF m 62 #[.val (.int p1), .val (.int p2), .val (.int p3), .val (.int p4), .val (.int p5), .val (.int c1), .val (.int c2), .val (.int c3), .val (.ref b7), .val (.int (0 : Int32)), .val (.int l1), .val (.int k1), .unset, .unset, .unset, .unset, .unset] [(.ref b7)]))
  obtain ⟨cq25, kq25, q25a, q25b, q25c⟩ := isOf hZ rfl c21
  obtain ⟨_, _, ⟨T25, L25, k25, n25⟩, -, X25, ⟨Lc25, hQ25, l25, y25, z25⟩, st25⟩ := X20.virtualBack hx (y := (⟨"com/example/same_bytes/samebytes/TextPosition", "line", "()I"⟩ : MethodName)) (z := (⟨"com/example/same_bytes/samebytes/TextPosition", "line", "()I"⟩ : MethodName)) hown (mvT hZ (hw _ (List.mem_of_getElem? (i := 36) rfl))) (mvT hZ (hw _ (List.mem_of_getElem? (i := 37) rfl))) (notFace_of_selects (args := #[]) (mvT hZ (hw _ (List.mem_of_getElem? (i := 39) rfl)))) (mvT hZ (hw _ (List.mem_of_getElem? (i := 39) rfl))) (mvT hZ (hw _ (List.mem_of_getElem? (i := 38) rfl))) (by decide) (backOf (W := 0) (rm9 l Z a0 hw [] b7 (own_f8_line c1 (0 : Int32) p1) T20.heap n0 (Nat.le_trans Z0 K20.1) w20_1) hZ (hw _ (List.mem_of_getElem? (i := 40) rfl)) (hw _ (List.mem_of_getElem? (i := 6) rfl)) (by decide) (by decide)) q25a q25c (g := (mkF m 62 #[.val (.int p1), .val (.int p2), .val (.int p3), .val (.int p4), .val (.int p5), .val (.int c1), .val (.int c2), .val (.int c3), .val (.ref b7), .val (.int (0 : Int32)), .val (.int l1), .val (.int k1), .unset, .unset, .unset, .unset, .unset] [(.ref b7)])) rfl (by rw [hml]; rfl) (Steps.refl _) (argsL := []) (rest := []) (lenOf pd_0_4 rfl) rfl (by show 2 * 0 + _ ≤ _; exact Nat.le_of_eq rfl) (hb hby at_62) (fun _ _ => ⟨rfl, rfl, (by decide : 1 + 0 ≤ _), (by decide : 3 + 0 ≤ _)⟩)
  dsimp only [Pt.U, Pt.locs, Pt.cells, Pt.slots] at X25 l25 y25 z25 st25 hQ25
  subst l25 y25 z25
  obtain ⟨rfl, N25q, e25⟩ := hQ25
  have N25 := Fr.app N20 N25q
  refine own_step (fun t k => st25.trans k) ?_
  show own_G p.tables e below _ (T25.setTop (mkF m 65 #[.val (.int p1), .val (.int p2), .val (.int p3), .val (.int p4), .val (.int p5), .val (.int c1), .val (.int c2), .val (.int c3), .val (.ref b7), .val (.int (0 : Int32)), .val (.int l1), .val (.int k1), .unset, .unset, .unset, .unset, .unset] [(.int (own_f8_line c1 (0 : Int32) p1))]))
  refine own_step (fun t k => XS.iload X25.here hx rfl (hb hby at_65) rfl k) ?_
  show own_G p.tables e below _ (T25.setTop (mkF m 67 #[.val (.int p1), .val (.int p2), .val (.int p3), .val (.int p4), .val (.int p5), .val (.int c1), .val (.int c2), .val (.int c3), .val (.ref b7), .val (.int (0 : Int32)), .val (.int l1), .val (.int k1), .unset, .unset, .unset, .unset, .unset] [(.int l1), (.int (own_f8_line c1 (0 : Int32) p1))]))
  have hk26 : (own_f8_line c1 (0 : Int32) p1) = l1 := (by rw [hd_l1, own_line])
  refine own_step (fun t k => XS.icmpNo X25.here hx rfl (hb hby at_67) rfl ((teq hk26).2) k) ?_
  show own_G p.tables e below _ (T25.setTop (mkF m 70 #[.val (.int p1), .val (.int p2), .val (.int p3), .val (.int p4), .val (.int p5), .val (.int c1), .val (.int c2), .val (.int c3), .val (.ref b7), .val (.int (0 : Int32)), .val (.int l1), .val (.int k1), .unset, .unset, .unset, .unset, .unset] []))
  refine own_step (fun t k => XS.aload X25.here hx rfl (hb hby at_70) rfl rfl k) ?_
  show own_G p.tables e below _ (T25.setTop (mkF m 72 #[.val (.int p1), .val (.int p2), .val (.int p3), .val (.int p4), .val (.int p5), .val (.int c1), .val (.int c2), .val (.int c3), .val (.ref b7), .val (.int (0 : Int32)), .val (.int l1), .val (.int k1), .unset, .unset, .unset, .unset, .unset] [(.ref b7)]))
  obtain ⟨cq27, kq27, q27a, q27b, q27c⟩ := isOf hZ e25 c21
  obtain ⟨_, _, ⟨T27, L27, k27, n27⟩, -, X27, ⟨Lc27, hQ27, l27, y27, z27⟩, st27⟩ := X25.virtualBack hx (y := (⟨"com/example/same_bytes/samebytes/TextPosition", "column", "()I"⟩ : MethodName)) (z := (⟨"com/example/same_bytes/samebytes/TextPosition", "column", "()I"⟩ : MethodName)) hown (mvT hZ (hw _ (List.mem_of_getElem? (i := 41) rfl))) (mvT hZ (hw _ (List.mem_of_getElem? (i := 42) rfl))) (notFace_of_selects (args := #[]) (mvT hZ (hw _ (List.mem_of_getElem? (i := 44) rfl)))) (mvT hZ (hw _ (List.mem_of_getElem? (i := 44) rfl))) (mvT hZ (hw _ (List.mem_of_getElem? (i := 43) rfl))) (by decide) (backOf (W := 0) (rm10 l Z a0 hw [] b7 (own_f8_column c1 (0 : Int32) p2) T20.heap n0 (Nat.le_trans Z0 K20.1) w20_2) hZ (hw _ (List.mem_of_getElem? (i := 45) rfl)) (hw _ (List.mem_of_getElem? (i := 6) rfl)) (by decide) (by decide)) q27a q27c (g := (mkF m 72 #[.val (.int p1), .val (.int p2), .val (.int p3), .val (.int p4), .val (.int p5), .val (.int c1), .val (.int c2), .val (.int c3), .val (.ref b7), .val (.int (0 : Int32)), .val (.int l1), .val (.int k1), .unset, .unset, .unset, .unset, .unset] [(.ref b7)])) rfl (by rw [hml]; rfl) (Steps.refl _) (argsL := []) (rest := []) (lenOf pd_0_4 rfl) rfl (by show 2 * 0 + _ ≤ _; exact Nat.le_of_eq rfl) (hb hby at_72) (fun _ _ => ⟨rfl, e25, (by decide : 1 + 0 ≤ _), (by decide : 3 + 0 ≤ _)⟩)
  dsimp only [Pt.U, Pt.locs, Pt.cells, Pt.slots] at X27 l27 y27 z27 st27 hQ27
  subst l27 y27 z27
  obtain ⟨rfl, N27q, e27⟩ := hQ27
  have N27 := Fr.app N25 N27q
  refine own_step (fun t k => st27.trans k) ?_
  show own_G p.tables e below _ (T27.setTop (mkF m 75 #[.val (.int p1), .val (.int p2), .val (.int p3), .val (.int p4), .val (.int p5), .val (.int c1), .val (.int c2), .val (.int c3), .val (.ref b7), .val (.int (0 : Int32)), .val (.int l1), .val (.int k1), .unset, .unset, .unset, .unset, .unset] [(.int (own_f8_column c1 (0 : Int32) p2))]))
  refine own_step (fun t k => XS.iload X27.here hx rfl (hb hby at_75) rfl k) ?_
  show own_G p.tables e below _ (T27.setTop (mkF m 77 #[.val (.int p1), .val (.int p2), .val (.int p3), .val (.int p4), .val (.int p5), .val (.int c1), .val (.int c2), .val (.int c3), .val (.ref b7), .val (.int (0 : Int32)), .val (.int l1), .val (.int k1), .unset, .unset, .unset, .unset, .unset] [(.int k1), (.int (own_f8_column c1 (0 : Int32) p2))]))
  have hk28 : (own_f8_column c1 (0 : Int32) p2) = k1 := (by rw [hd_k1, own_col])
  refine own_step (fun t k => XS.icmpNo X27.here hx rfl (hb hby at_77) rfl ((teq hk28).2) k) ?_
  show own_G p.tables e below _ (T27.setTop (mkF m 80 #[.val (.int p1), .val (.int p2), .val (.int p3), .val (.int p4), .val (.int p5), .val (.int c1), .val (.int c2), .val (.int c3), .val (.ref b7), .val (.int (0 : Int32)), .val (.int l1), .val (.int k1), .unset, .unset, .unset, .unset, .unset] []))
  refine own_step (fun t k => XS.iconst X27.here hx rfl (hb hby at_80) k) ?_
  show own_G p.tables e below _ (T27.setTop (mkF m 81 #[.val (.int p1), .val (.int p2), .val (.int p3), .val (.int p4), .val (.int p5), .val (.int c1), .val (.int c2), .val (.int c3), .val (.ref b7), .val (.int (0 : Int32)), .val (.int l1), .val (.int k1), .unset, .unset, .unset, .unset, .unset] [(.int (1 : Int32))]))
  refine own_step (fun t k => XS.goto X27.here hx rfl (pc0 := 81) (pc' := 85) rfl (hb hby at_81) (by decide) (by decide) k) ?_
  show own_G p.tables e below _ (T27.setTop (mkF m 85 #[.val (.int p1), .val (.int p2), .val (.int p3), .val (.int p4), .val (.int p5), .val (.int c1), .val (.int c2), .val (.int c3), .val (.ref b7), .val (.int (0 : Int32)), .val (.int l1), .val (.int k1), .unset, .unset, .unset, .unset, .unset] [(.int (1 : Int32))]))
  refine own_step (fun t k => XS.istore X27.here hx rfl (hb hby at_85) rfl (l' := #[.val (.int p1), .val (.int p2), .val (.int p3), .val (.int p4), .val (.int p5), .val (.int c1), .val (.int c2), .val (.int c3), .val (.ref b7), .val (.int (0 : Int32)), .val (.int l1), .val (.int k1), .val (.int (1 : Int32)), .unset, .unset, .unset, .unset]) rfl k) ?_
  show own_G p.tables e below _ (T27.setTop (mkF m 87 #[.val (.int p1), .val (.int p2), .val (.int p3), .val (.int p4), .val (.int p5), .val (.int c1), .val (.int c2), .val (.int c3), .val (.ref b7), .val (.int (0 : Int32)), .val (.int l1), .val (.int k1), .val (.int (1 : Int32)), .unset, .unset, .unset, .unset] []))
  refine own_step (fun t k => XS.iload X27.here hx rfl (hb hby at_87) rfl k) ?_
  show own_G p.tables e below _ (T27.setTop (mkF m 89 #[.val (.int p1), .val (.int p2), .val (.int p3), .val (.int p4), .val (.int p5), .val (.int c1), .val (.int c2), .val (.int c3), .val (.ref b7), .val (.int (0 : Int32)), .val (.int l1), .val (.int k1), .val (.int (1 : Int32)), .unset, .unset, .unset, .unset] [(.int l1)]))
  refine own_step (fun t k => XS.iload X27.here hx rfl (hb hby at_89) rfl k) ?_
  show own_G p.tables e below _ (T27.setTop (mkF m 91 #[.val (.int p1), .val (.int p2), .val (.int p3), .val (.int p4), .val (.int p5), .val (.int c1), .val (.int c2), .val (.int c3), .val (.ref b7), .val (.int (0 : Int32)), .val (.int l1), .val (.int k1), .val (.int (1 : Int32)), .unset, .unset, .unset, .unset] [(.int c1), (.int l1)]))
  refine own_step (fun t k => XS.iload X27.here hx rfl (hb hby at_91) rfl k) ?_
  show own_G p.tables e below _ (T27.setTop (mkF m 93 #[.val (.int p1), .val (.int p2), .val (.int p3), .val (.int p4), .val (.int p5), .val (.int c1), .val (.int c2), .val (.int c3), .val (.ref b7), .val (.int (0 : Int32)), .val (.int l1), .val (.int k1), .val (.int (1 : Int32)), .unset, .unset, .unset, .unset] [(.int c2), (.int c1), (.int l1)]))
  obtain ⟨_, _, ⟨T29, L29, k29, n29⟩, -, X29, ⟨Lc29, hQ29, l29, y29, z29⟩, st29⟩ := Jvm.LawKit.callS X27 hx (y := (⟨"com/example/same_bytes/samebytes/TextPositionAdvancePinLaw", "expLine", "(ICC)I"⟩ : MethodName)) hown (mvT hZ (hw _ (List.mem_of_getElem? (i := 17) rfl))) (mvT hZ (hw _ (List.mem_of_getElem? (i := 18) rfl))) (mvT hZ (hw _ (List.mem_of_getElem? (i := 2) rfl))) (mvT hZ (hw _ (List.mem_of_getElem? (i := 19) rfl))) (by decide) (backOf (W := 0) (rm4 l Z a0 hw [] l1 c1 c2 T20.heap n0 (Nat.le_trans Z0 K20.1) ) hZ (hw _ (List.mem_of_getElem? (i := 19) rfl)) (hw _ (List.mem_of_getElem? (i := 2) rfl)) (by decide) (by decide)) (g := (mkF m 93 #[.val (.int p1), .val (.int p2), .val (.int p3), .val (.int p4), .val (.int p5), .val (.int c1), .val (.int c2), .val (.int c3), .val (.ref b7), .val (.int (0 : Int32)), .val (.int l1), .val (.int k1), .val (.int (1 : Int32)), .unset, .unset, .unset, .unset] [(.int c2), (.int c1), (.int l1)])) rfl (by rw [hml]; rfl) (argsL := [(.int l1), (.int c1), (.int c2)]) (rest := []) (lenOf pd_0_2 rfl) rfl (by show 2 * 0 + _ ≤ _; exact Nat.le_of_eq rfl) (hb hby at_93) (fun _ _ => ⟨rfl, e27, (by decide : 1 + 0 ≤ _), (by decide : 3 + 0 ≤ _)⟩)
  dsimp only [Pt.U, Pt.locs, Pt.cells, Pt.slots] at X29 l29 y29 z29 st29 hQ29
  subst l29 y29 z29
  obtain ⟨rfl, N29q, e29⟩ := hQ29
  have N29 := Fr.app N27 N29q
  refine own_step st29 ?_
  show own_G p.tables e below _ (T29.setTop (mkF m 96 #[.val (.int p1), .val (.int p2), .val (.int p3), .val (.int p4), .val (.int p5), .val (.int c1), .val (.int c2), .val (.int c3), .val (.ref b7), .val (.int (0 : Int32)), .val (.int l1), .val (.int k1), .val (.int (1 : Int32)), .unset, .unset, .unset, .unset] [(.int (own_f4 l1 c1 c2))]))
  refine own_nm ((own_f4 l1 c1 c2) : Int32) (fun l2 => T29.setTop (mkF m 96 #[.val (.int p1), .val (.int p2), .val (.int p3), .val (.int p4), .val (.int p5), .val (.int c1), .val (.int c2), .val (.int c3), .val (.ref b7), .val (.int (0 : Int32)), .val (.int l1), .val (.int k1), .val (.int (1 : Int32)), .unset, .unset, .unset, .unset] [(.int l2)])) ?_
  intro l2 hd_l2
  show own_G p.tables e below _ (T29.setTop (mkF m 96 #[.val (.int p1), .val (.int p2), .val (.int p3), .val (.int p4), .val (.int p5), .val (.int c1), .val (.int c2), .val (.int c3), .val (.ref b7), .val (.int (0 : Int32)), .val (.int l1), .val (.int k1), .val (.int (1 : Int32)), .unset, .unset, .unset, .unset] [(.int l2)]))
  refine own_step (fun t k => XS.istore X29.here hx rfl (hb hby at_96) rfl (l' := #[.val (.int p1), .val (.int p2), .val (.int p3), .val (.int p4), .val (.int p5), .val (.int c1), .val (.int c2), .val (.int c3), .val (.ref b7), .val (.int (0 : Int32)), .val (.int l1), .val (.int k1), .val (.int (1 : Int32)), .val (.int l2), .unset, .unset, .unset]) rfl k) ?_
  show own_G p.tables e below _ (T29.setTop (mkF m 98 #[.val (.int p1), .val (.int p2), .val (.int p3), .val (.int p4), .val (.int p5), .val (.int c1), .val (.int c2), .val (.int c3), .val (.ref b7), .val (.int (0 : Int32)), .val (.int l1), .val (.int k1), .val (.int (1 : Int32)), .val (.int l2), .unset, .unset, .unset] []))
  refine own_step (fun t k => XS.iload X29.here hx rfl (hb hby at_98) rfl k) ?_
  show own_G p.tables e below _ (T29.setTop (mkF m 100 #[.val (.int p1), .val (.int p2), .val (.int p3), .val (.int p4), .val (.int p5), .val (.int c1), .val (.int c2), .val (.int c3), .val (.ref b7), .val (.int (0 : Int32)), .val (.int l1), .val (.int k1), .val (.int (1 : Int32)), .val (.int l2), .unset, .unset, .unset] [(.int k1)]))
  refine own_step (fun t k => XS.iload X29.here hx rfl (hb hby at_100) rfl k) ?_
  show own_G p.tables e below _ (T29.setTop (mkF m 102 #[.val (.int p1), .val (.int p2), .val (.int p3), .val (.int p4), .val (.int p5), .val (.int c1), .val (.int c2), .val (.int c3), .val (.ref b7), .val (.int (0 : Int32)), .val (.int l1), .val (.int k1), .val (.int (1 : Int32)), .val (.int l2), .unset, .unset, .unset] [(.int c1), (.int k1)]))
  refine own_step (fun t k => XS.iload X29.here hx rfl (hb hby at_102) rfl k) ?_
  show own_G p.tables e below _ (T29.setTop (mkF m 104 #[.val (.int p1), .val (.int p2), .val (.int p3), .val (.int p4), .val (.int p5), .val (.int c1), .val (.int c2), .val (.int c3), .val (.ref b7), .val (.int (0 : Int32)), .val (.int l1), .val (.int k1), .val (.int (1 : Int32)), .val (.int l2), .unset, .unset, .unset] [(.int c2), (.int c1), (.int k1)]))
  obtain ⟨_, _, ⟨T31, L31, k31, n31⟩, -, X31, ⟨Lc31, hQ31, l31, y31, z31⟩, st31⟩ := Jvm.LawKit.callS X29 hx (y := (⟨"com/example/same_bytes/samebytes/TextPositionAdvancePinLaw", "expCol", "(ICC)I"⟩ : MethodName)) hown (mvT hZ (hw _ (List.mem_of_getElem? (i := 26) rfl))) (mvT hZ (hw _ (List.mem_of_getElem? (i := 27) rfl))) (mvT hZ (hw _ (List.mem_of_getElem? (i := 2) rfl))) (mvT hZ (hw _ (List.mem_of_getElem? (i := 28) rfl))) (by decide) (backOf (W := 0) (rm7 l Z a0 hw [] k1 c1 c2 T20.heap n0 (Nat.le_trans Z0 K20.1) ) hZ (hw _ (List.mem_of_getElem? (i := 28) rfl)) (hw _ (List.mem_of_getElem? (i := 2) rfl)) (by decide) (by decide)) (g := (mkF m 104 #[.val (.int p1), .val (.int p2), .val (.int p3), .val (.int p4), .val (.int p5), .val (.int c1), .val (.int c2), .val (.int c3), .val (.ref b7), .val (.int (0 : Int32)), .val (.int l1), .val (.int k1), .val (.int (1 : Int32)), .val (.int l2), .unset, .unset, .unset] [(.int c2), (.int c1), (.int k1)])) rfl (by rw [hml]; rfl) (argsL := [(.int k1), (.int c1), (.int c2)]) (rest := []) (lenOf pd_0_2 rfl) rfl (by show 2 * 0 + _ ≤ _; exact Nat.le_of_eq rfl) (hb hby at_104) (fun _ _ => ⟨rfl, e29, (by decide : 1 + 0 ≤ _), (by decide : 3 + 0 ≤ _)⟩)
  dsimp only [Pt.U, Pt.locs, Pt.cells, Pt.slots] at X31 l31 y31 z31 st31 hQ31
  subst l31 y31 z31
  obtain ⟨rfl, N31q, e31⟩ := hQ31
  have N31 := Fr.app N29 N31q
  refine own_step st31 ?_
  show own_G p.tables e below _ (T31.setTop (mkF m 107 #[.val (.int p1), .val (.int p2), .val (.int p3), .val (.int p4), .val (.int p5), .val (.int c1), .val (.int c2), .val (.int c3), .val (.ref b7), .val (.int (0 : Int32)), .val (.int l1), .val (.int k1), .val (.int (1 : Int32)), .val (.int l2), .unset, .unset, .unset] [(.int (own_f7 k1 c1 c2))]))
  refine own_nm ((own_f7 k1 c1 c2) : Int32) (fun k2 => T31.setTop (mkF m 107 #[.val (.int p1), .val (.int p2), .val (.int p3), .val (.int p4), .val (.int p5), .val (.int c1), .val (.int c2), .val (.int c3), .val (.ref b7), .val (.int (0 : Int32)), .val (.int l1), .val (.int k1), .val (.int (1 : Int32)), .val (.int l2), .unset, .unset, .unset] [(.int k2)])) ?_
  intro k2 hd_k2
  show own_G p.tables e below _ (T31.setTop (mkF m 107 #[.val (.int p1), .val (.int p2), .val (.int p3), .val (.int p4), .val (.int p5), .val (.int c1), .val (.int c2), .val (.int c3), .val (.ref b7), .val (.int (0 : Int32)), .val (.int l1), .val (.int k1), .val (.int (1 : Int32)), .val (.int l2), .unset, .unset, .unset] [(.int k2)]))
  refine own_step (fun t k => XS.istore X31.here hx rfl (hb hby at_107) rfl (l' := #[.val (.int p1), .val (.int p2), .val (.int p3), .val (.int p4), .val (.int p5), .val (.int c1), .val (.int c2), .val (.int c3), .val (.ref b7), .val (.int (0 : Int32)), .val (.int l1), .val (.int k1), .val (.int (1 : Int32)), .val (.int l2), .val (.int k2), .unset, .unset]) rfl k) ?_
  show own_G p.tables e below _ (T31.setTop (mkF m 109 #[.val (.int p1), .val (.int p2), .val (.int p3), .val (.int p4), .val (.int p5), .val (.int c1), .val (.int c2), .val (.int c3), .val (.ref b7), .val (.int (0 : Int32)), .val (.int l1), .val (.int k1), .val (.int (1 : Int32)), .val (.int l2), .val (.int k2), .unset, .unset] []))
  refine own_step (fun t k => XS.aload X31.here hx rfl (hb hby at_109) rfl rfl k) ?_
  show own_G p.tables e below _ (T31.setTop (mkF m 111 #[.val (.int p1), .val (.int p2), .val (.int p3), .val (.int p4), .val (.int p5), .val (.int c1), .val (.int c2), .val (.int c3), .val (.ref b7), .val (.int (0 : Int32)), .val (.int l1), .val (.int k1), .val (.int (1 : Int32)), .val (.int l2), .val (.int k2), .unset, .unset] [(.ref b7)]))
  refine own_step (fun t k => XS.iload X31.here hx rfl (hb hby at_111) rfl k) ?_
  show own_G p.tables e below _ (T31.setTop (mkF m 113 #[.val (.int p1), .val (.int p2), .val (.int p3), .val (.int p4), .val (.int p5), .val (.int c1), .val (.int c2), .val (.int c3), .val (.ref b7), .val (.int (0 : Int32)), .val (.int l1), .val (.int k1), .val (.int (1 : Int32)), .val (.int l2), .val (.int k2), .unset, .unset] [(.int c2), (.ref b7)]))
  obtain ⟨cq33, kq33, q33a, q33b, q33c⟩ := isOf hZ e31 c21
  obtain ⟨_, _, ⟨T33, L33, k33, n33⟩, -, X33, ⟨Lc33, hQ33, l33, y33, z33⟩, st33⟩ := X31.virtualBack hx (y := (⟨"com/example/same_bytes/samebytes/TextPosition", "advance", "(C)V"⟩ : MethodName)) (z := (⟨"com/example/same_bytes/samebytes/TextPosition", "advance", "(C)V"⟩ : MethodName)) hown (mvT hZ (hw _ (List.mem_of_getElem? (i := 29) rfl))) (mvT hZ (hw _ (List.mem_of_getElem? (i := 30) rfl))) (notFace_of_selects (args := #[]) (mvT hZ (hw _ (List.mem_of_getElem? (i := 32) rfl)))) (mvT hZ (hw _ (List.mem_of_getElem? (i := 32) rfl))) (mvT hZ (hw _ (List.mem_of_getElem? (i := 31) rfl))) (by decide) (backOf (W := 0) (rm8 l Z a0 hw [] b7 c2 (nar .char c1) (own_f8_line c1 (0 : Int32) p1) (own_f8_column c1 (0 : Int32) p2) T20.heap n0 (Nat.le_trans Z0 K20.1) w20_0 c21 w20_1 w20_2 ge7) hZ (hw _ (List.mem_of_getElem? (i := 33) rfl)) (hw _ (List.mem_of_getElem? (i := 6) rfl)) (by decide) (by decide)) q33a q33c (g := (mkF m 113 #[.val (.int p1), .val (.int p2), .val (.int p3), .val (.int p4), .val (.int p5), .val (.int c1), .val (.int c2), .val (.int c3), .val (.ref b7), .val (.int (0 : Int32)), .val (.int l1), .val (.int k1), .val (.int (1 : Int32)), .val (.int l2), .val (.int k2), .unset, .unset] [(.int c2), (.ref b7)])) rfl (by rw [hml]; rfl) (Steps.refl _) (argsL := [(.int c2)]) (rest := []) (lenOf pd_0_3 rfl) rfl (by show 2 * 0 + _ ≤ _; exact Nat.le_of_eq rfl) (hb hby at_113) (fun _ _ => ⟨rfl, e31, (by decide : 1 + 0 ≤ _), (by decide : 3 + 0 ≤ _)⟩)
  dsimp only [Pt.U, Pt.locs, Pt.cells, Pt.slots] at X33 l33 y33 z33 st33 hQ33
  subst l33 y33 z33
  obtain ⟨rfl, N33q, K33q, w33_0, w33_1, w33_2⟩ := hQ33
  have c34 : Exa Z T33.heap b7 "com/example/same_bytes/samebytes/TextPosition" := c21.keep K33q
  have K33 : Keep h0 T33.heap [] := K20.trans K33q (allS (Or.inr sz7) all0)
  have N33 := Fr.app N31 N33q
  refine own_step (fun t k => st33.trans k) ?_
  show own_G p.tables e below _ (T33.setTop (mkF m 116 #[.val (.int p1), .val (.int p2), .val (.int p3), .val (.int p4), .val (.int p5), .val (.int c1), .val (.int c2), .val (.int c3), .val (.ref b7), .val (.int (0 : Int32)), .val (.int l1), .val (.int k1), .val (.int (1 : Int32)), .val (.int l2), .val (.int k2), .unset, .unset] []))
  refine own_step (fun t k => XS.iload X33.here hx rfl (hb hby at_116) rfl k) ?_
  show own_G p.tables e below _ (T33.setTop (mkF m 118 #[.val (.int p1), .val (.int p2), .val (.int p3), .val (.int p4), .val (.int p5), .val (.int c1), .val (.int c2), .val (.int c3), .val (.ref b7), .val (.int (0 : Int32)), .val (.int l1), .val (.int k1), .val (.int (1 : Int32)), .val (.int l2), .val (.int k2), .unset, .unset] [(.int (1 : Int32))]))
  have hk38 : ¬ ((1 : Int32) = (0 : Int32)) := (by decide)
  refine own_step (fun t k => XS.ifNo X33.here hx rfl (hb hby at_118) rfl ((if0 _ _).trans (feq hk38).1) k) ?_
  show own_G p.tables e below _ (T33.setTop (mkF m 121 #[.val (.int p1), .val (.int p2), .val (.int p3), .val (.int p4), .val (.int p5), .val (.int c1), .val (.int c2), .val (.int c3), .val (.ref b7), .val (.int (0 : Int32)), .val (.int l1), .val (.int k1), .val (.int (1 : Int32)), .val (.int l2), .val (.int k2), .unset, .unset] []))
  refine own_step (fun t k => XS.aload X33.here hx rfl (hb hby at_121) rfl rfl k) ?_
  show own_G p.tables e below _ (T33.setTop (mkF m 123 #[.val (.int p1), .val (.int p2), .val (.int p3), .val (.int p4), .val (.int p5), .val (.int c1), .val (.int c2), .val (.int c3), .val (.ref b7), .val (.int (0 : Int32)), .val (.int l1), .val (.int k1), .val (.int (1 : Int32)), .val (.int l2), .val (.int k2), .unset, .unset] [(.ref b7)]))
  obtain ⟨cq39, kq39, q39a, q39b, q39c⟩ := isOf hZ rfl c34
  obtain ⟨_, _, ⟨T39, L39, k39, n39⟩, -, X39, ⟨Lc39, hQ39, l39, y39, z39⟩, st39⟩ := X33.virtualBack hx (y := (⟨"com/example/same_bytes/samebytes/TextPosition", "line", "()I"⟩ : MethodName)) (z := (⟨"com/example/same_bytes/samebytes/TextPosition", "line", "()I"⟩ : MethodName)) hown (mvT hZ (hw _ (List.mem_of_getElem? (i := 36) rfl))) (mvT hZ (hw _ (List.mem_of_getElem? (i := 37) rfl))) (notFace_of_selects (args := #[]) (mvT hZ (hw _ (List.mem_of_getElem? (i := 39) rfl)))) (mvT hZ (hw _ (List.mem_of_getElem? (i := 39) rfl))) (mvT hZ (hw _ (List.mem_of_getElem? (i := 38) rfl))) (by decide) (backOf (W := 0) (rm9 l Z a0 hw [] b7 (own_f8_line c2 (nar .char c1) (own_f8_line c1 (0 : Int32) p1)) T33.heap n0 (Nat.le_trans Z0 K33.1) w33_1) hZ (hw _ (List.mem_of_getElem? (i := 40) rfl)) (hw _ (List.mem_of_getElem? (i := 6) rfl)) (by decide) (by decide)) q39a q39c (g := (mkF m 123 #[.val (.int p1), .val (.int p2), .val (.int p3), .val (.int p4), .val (.int p5), .val (.int c1), .val (.int c2), .val (.int c3), .val (.ref b7), .val (.int (0 : Int32)), .val (.int l1), .val (.int k1), .val (.int (1 : Int32)), .val (.int l2), .val (.int k2), .unset, .unset] [(.ref b7)])) rfl (by rw [hml]; rfl) (Steps.refl _) (argsL := []) (rest := []) (lenOf pd_0_4 rfl) rfl (by show 2 * 0 + _ ≤ _; exact Nat.le_of_eq rfl) (hb hby at_123) (fun _ _ => ⟨rfl, rfl, (by decide : 1 + 0 ≤ _), (by decide : 3 + 0 ≤ _)⟩)
  dsimp only [Pt.U, Pt.locs, Pt.cells, Pt.slots] at X39 l39 y39 z39 st39 hQ39
  subst l39 y39 z39
  obtain ⟨rfl, N39q, e39⟩ := hQ39
  have N39 := Fr.app N33 N39q
  refine own_step (fun t k => st39.trans k) ?_
  show own_G p.tables e below _ (T39.setTop (mkF m 126 #[.val (.int p1), .val (.int p2), .val (.int p3), .val (.int p4), .val (.int p5), .val (.int c1), .val (.int c2), .val (.int c3), .val (.ref b7), .val (.int (0 : Int32)), .val (.int l1), .val (.int k1), .val (.int (1 : Int32)), .val (.int l2), .val (.int k2), .unset, .unset] [(.int (own_f8_line c2 (nar .char c1) (own_f8_line c1 (0 : Int32) p1)))]))
  refine own_step (fun t k => XS.iload X39.here hx rfl (hb hby at_126) rfl k) ?_
  show own_G p.tables e below _ (T39.setTop (mkF m 128 #[.val (.int p1), .val (.int p2), .val (.int p3), .val (.int p4), .val (.int p5), .val (.int c1), .val (.int c2), .val (.int c3), .val (.ref b7), .val (.int (0 : Int32)), .val (.int l1), .val (.int k1), .val (.int (1 : Int32)), .val (.int l2), .val (.int k2), .unset, .unset] [(.int l2), (.int (own_f8_line c2 (nar .char c1) (own_f8_line c1 (0 : Int32) p1)))]))
  have hk40 : (own_f8_line c2 (nar .char c1) (own_f8_line c1 (0 : Int32) p1)) = l2 := (by rw [hd_l2, hd_l1, n1, own_line, own_line])
  refine own_step (fun t k => XS.icmpNo X39.here hx rfl (hb hby at_128) rfl ((teq hk40).2) k) ?_
  show own_G p.tables e below _ (T39.setTop (mkF m 131 #[.val (.int p1), .val (.int p2), .val (.int p3), .val (.int p4), .val (.int p5), .val (.int c1), .val (.int c2), .val (.int c3), .val (.ref b7), .val (.int (0 : Int32)), .val (.int l1), .val (.int k1), .val (.int (1 : Int32)), .val (.int l2), .val (.int k2), .unset, .unset] []))
  refine own_step (fun t k => XS.aload X39.here hx rfl (hb hby at_131) rfl rfl k) ?_
  show own_G p.tables e below _ (T39.setTop (mkF m 133 #[.val (.int p1), .val (.int p2), .val (.int p3), .val (.int p4), .val (.int p5), .val (.int c1), .val (.int c2), .val (.int c3), .val (.ref b7), .val (.int (0 : Int32)), .val (.int l1), .val (.int k1), .val (.int (1 : Int32)), .val (.int l2), .val (.int k2), .unset, .unset] [(.ref b7)]))
  obtain ⟨cq41, kq41, q41a, q41b, q41c⟩ := isOf hZ e39 c34
  obtain ⟨_, _, ⟨T41, L41, k41, n41⟩, -, X41, ⟨Lc41, hQ41, l41, y41, z41⟩, st41⟩ := X39.virtualBack hx (y := (⟨"com/example/same_bytes/samebytes/TextPosition", "column", "()I"⟩ : MethodName)) (z := (⟨"com/example/same_bytes/samebytes/TextPosition", "column", "()I"⟩ : MethodName)) hown (mvT hZ (hw _ (List.mem_of_getElem? (i := 41) rfl))) (mvT hZ (hw _ (List.mem_of_getElem? (i := 42) rfl))) (notFace_of_selects (args := #[]) (mvT hZ (hw _ (List.mem_of_getElem? (i := 44) rfl)))) (mvT hZ (hw _ (List.mem_of_getElem? (i := 44) rfl))) (mvT hZ (hw _ (List.mem_of_getElem? (i := 43) rfl))) (by decide) (backOf (W := 0) (rm10 l Z a0 hw [] b7 (own_f8_column c2 (nar .char c1) (own_f8_column c1 (0 : Int32) p2)) T33.heap n0 (Nat.le_trans Z0 K33.1) w33_2) hZ (hw _ (List.mem_of_getElem? (i := 45) rfl)) (hw _ (List.mem_of_getElem? (i := 6) rfl)) (by decide) (by decide)) q41a q41c (g := (mkF m 133 #[.val (.int p1), .val (.int p2), .val (.int p3), .val (.int p4), .val (.int p5), .val (.int c1), .val (.int c2), .val (.int c3), .val (.ref b7), .val (.int (0 : Int32)), .val (.int l1), .val (.int k1), .val (.int (1 : Int32)), .val (.int l2), .val (.int k2), .unset, .unset] [(.ref b7)])) rfl (by rw [hml]; rfl) (Steps.refl _) (argsL := []) (rest := []) (lenOf pd_0_4 rfl) rfl (by show 2 * 0 + _ ≤ _; exact Nat.le_of_eq rfl) (hb hby at_133) (fun _ _ => ⟨rfl, e39, (by decide : 1 + 0 ≤ _), (by decide : 3 + 0 ≤ _)⟩)
  dsimp only [Pt.U, Pt.locs, Pt.cells, Pt.slots] at X41 l41 y41 z41 st41 hQ41
  subst l41 y41 z41
  obtain ⟨rfl, N41q, e41⟩ := hQ41
  have N41 := Fr.app N39 N41q
  refine own_step (fun t k => st41.trans k) ?_
  show own_G p.tables e below _ (T41.setTop (mkF m 136 #[.val (.int p1), .val (.int p2), .val (.int p3), .val (.int p4), .val (.int p5), .val (.int c1), .val (.int c2), .val (.int c3), .val (.ref b7), .val (.int (0 : Int32)), .val (.int l1), .val (.int k1), .val (.int (1 : Int32)), .val (.int l2), .val (.int k2), .unset, .unset] [(.int (own_f8_column c2 (nar .char c1) (own_f8_column c1 (0 : Int32) p2)))]))
  refine own_step (fun t k => XS.iload X41.here hx rfl (hb hby at_136) rfl k) ?_
  show own_G p.tables e below _ (T41.setTop (mkF m 138 #[.val (.int p1), .val (.int p2), .val (.int p3), .val (.int p4), .val (.int p5), .val (.int c1), .val (.int c2), .val (.int c3), .val (.ref b7), .val (.int (0 : Int32)), .val (.int l1), .val (.int k1), .val (.int (1 : Int32)), .val (.int l2), .val (.int k2), .unset, .unset] [(.int k2), (.int (own_f8_column c2 (nar .char c1) (own_f8_column c1 (0 : Int32) p2)))]))
  have hk42 : (own_f8_column c2 (nar .char c1) (own_f8_column c1 (0 : Int32) p2)) = k2 := (by rw [hd_k2, hd_k1, n1, own_col, own_col])
  refine own_step (fun t k => XS.icmpNo X41.here hx rfl (hb hby at_138) rfl ((teq hk42).2) k) ?_
  show own_G p.tables e below _ (T41.setTop (mkF m 141 #[.val (.int p1), .val (.int p2), .val (.int p3), .val (.int p4), .val (.int p5), .val (.int c1), .val (.int c2), .val (.int c3), .val (.ref b7), .val (.int (0 : Int32)), .val (.int l1), .val (.int k1), .val (.int (1 : Int32)), .val (.int l2), .val (.int k2), .unset, .unset] []))
  refine own_step (fun t k => XS.iconst X41.here hx rfl (hb hby at_141) k) ?_
  show own_G p.tables e below _ (T41.setTop (mkF m 142 #[.val (.int p1), .val (.int p2), .val (.int p3), .val (.int p4), .val (.int p5), .val (.int c1), .val (.int c2), .val (.int c3), .val (.ref b7), .val (.int (0 : Int32)), .val (.int l1), .val (.int k1), .val (.int (1 : Int32)), .val (.int l2), .val (.int k2), .unset, .unset] [(.int (1 : Int32))]))
  refine own_step (fun t k => XS.goto X41.here hx rfl (pc0 := 142) (pc' := 146) rfl (hb hby at_142) (by decide) (by decide) k) ?_
  show own_G p.tables e below _ (T41.setTop (mkF m 146 #[.val (.int p1), .val (.int p2), .val (.int p3), .val (.int p4), .val (.int p5), .val (.int c1), .val (.int c2), .val (.int c3), .val (.ref b7), .val (.int (0 : Int32)), .val (.int l1), .val (.int k1), .val (.int (1 : Int32)), .val (.int l2), .val (.int k2), .unset, .unset] [(.int (1 : Int32))]))
  refine own_step (fun t k => XS.istore X41.here hx rfl (hb hby at_146) rfl (l' := #[.val (.int p1), .val (.int p2), .val (.int p3), .val (.int p4), .val (.int p5), .val (.int c1), .val (.int c2), .val (.int c3), .val (.ref b7), .val (.int (0 : Int32)), .val (.int l1), .val (.int k1), .val (.int (1 : Int32)), .val (.int l2), .val (.int k2), .unset, .unset]) rfl k) ?_
  show own_G p.tables e below _ (T41.setTop (mkF m 148 #[.val (.int p1), .val (.int p2), .val (.int p3), .val (.int p4), .val (.int p5), .val (.int c1), .val (.int c2), .val (.int c3), .val (.ref b7), .val (.int (0 : Int32)), .val (.int l1), .val (.int k1), .val (.int (1 : Int32)), .val (.int l2), .val (.int k2), .unset, .unset] []))
  refine own_step (fun t k => XS.iload X41.here hx rfl (hb hby at_148) rfl k) ?_
  show own_G p.tables e below _ (T41.setTop (mkF m 150 #[.val (.int p1), .val (.int p2), .val (.int p3), .val (.int p4), .val (.int p5), .val (.int c1), .val (.int c2), .val (.int c3), .val (.ref b7), .val (.int (0 : Int32)), .val (.int l1), .val (.int k1), .val (.int (1 : Int32)), .val (.int l2), .val (.int k2), .unset, .unset] [(.int l2)]))
  refine own_step (fun t k => XS.iload X41.here hx rfl (hb hby at_150) rfl k) ?_
  show own_G p.tables e below _ (T41.setTop (mkF m 152 #[.val (.int p1), .val (.int p2), .val (.int p3), .val (.int p4), .val (.int p5), .val (.int c1), .val (.int c2), .val (.int c3), .val (.ref b7), .val (.int (0 : Int32)), .val (.int l1), .val (.int k1), .val (.int (1 : Int32)), .val (.int l2), .val (.int k2), .unset, .unset] [(.int c2), (.int l2)]))
  refine own_step (fun t k => XS.iload X41.here hx rfl (hb hby at_152) rfl k) ?_
  show own_G p.tables e below _ (T41.setTop (mkF m 154 #[.val (.int p1), .val (.int p2), .val (.int p3), .val (.int p4), .val (.int p5), .val (.int c1), .val (.int c2), .val (.int c3), .val (.ref b7), .val (.int (0 : Int32)), .val (.int l1), .val (.int k1), .val (.int (1 : Int32)), .val (.int l2), .val (.int k2), .unset, .unset] [(.int c3), (.int c2), (.int l2)]))
  obtain ⟨_, _, ⟨T43, L43, k43, n43⟩, -, X43, ⟨Lc43, hQ43, l43, y43, z43⟩, st43⟩ := Jvm.LawKit.callS X41 hx (y := (⟨"com/example/same_bytes/samebytes/TextPositionAdvancePinLaw", "expLine", "(ICC)I"⟩ : MethodName)) hown (mvT hZ (hw _ (List.mem_of_getElem? (i := 17) rfl))) (mvT hZ (hw _ (List.mem_of_getElem? (i := 18) rfl))) (mvT hZ (hw _ (List.mem_of_getElem? (i := 2) rfl))) (mvT hZ (hw _ (List.mem_of_getElem? (i := 19) rfl))) (by decide) (backOf (W := 0) (rm4 l Z a0 hw [] l2 c2 c3 T33.heap n0 (Nat.le_trans Z0 K33.1) ) hZ (hw _ (List.mem_of_getElem? (i := 19) rfl)) (hw _ (List.mem_of_getElem? (i := 2) rfl)) (by decide) (by decide)) (g := (mkF m 154 #[.val (.int p1), .val (.int p2), .val (.int p3), .val (.int p4), .val (.int p5), .val (.int c1), .val (.int c2), .val (.int c3), .val (.ref b7), .val (.int (0 : Int32)), .val (.int l1), .val (.int k1), .val (.int (1 : Int32)), .val (.int l2), .val (.int k2), .unset, .unset] [(.int c3), (.int c2), (.int l2)])) rfl (by rw [hml]; rfl) (argsL := [(.int l2), (.int c2), (.int c3)]) (rest := []) (lenOf pd_0_2 rfl) rfl (by show 2 * 0 + _ ≤ _; exact Nat.le_of_eq rfl) (hb hby at_154) (fun _ _ => ⟨rfl, e41, (by decide : 1 + 0 ≤ _), (by decide : 3 + 0 ≤ _)⟩)
  dsimp only [Pt.U, Pt.locs, Pt.cells, Pt.slots] at X43 l43 y43 z43 st43 hQ43
  subst l43 y43 z43
  obtain ⟨rfl, N43q, e43⟩ := hQ43
  have N43 := Fr.app N41 N43q
  refine own_step st43 ?_
  show own_G p.tables e below _ (T43.setTop (mkF m 157 #[.val (.int p1), .val (.int p2), .val (.int p3), .val (.int p4), .val (.int p5), .val (.int c1), .val (.int c2), .val (.int c3), .val (.ref b7), .val (.int (0 : Int32)), .val (.int l1), .val (.int k1), .val (.int (1 : Int32)), .val (.int l2), .val (.int k2), .unset, .unset] [(.int (own_f4 l2 c2 c3))]))
  refine own_nm ((own_f4 l2 c2 c3) : Int32) (fun l3 => T43.setTop (mkF m 157 #[.val (.int p1), .val (.int p2), .val (.int p3), .val (.int p4), .val (.int p5), .val (.int c1), .val (.int c2), .val (.int c3), .val (.ref b7), .val (.int (0 : Int32)), .val (.int l1), .val (.int k1), .val (.int (1 : Int32)), .val (.int l2), .val (.int k2), .unset, .unset] [(.int l3)])) ?_
  intro l3 hd_l3
  show own_G p.tables e below _ (T43.setTop (mkF m 157 #[.val (.int p1), .val (.int p2), .val (.int p3), .val (.int p4), .val (.int p5), .val (.int c1), .val (.int c2), .val (.int c3), .val (.ref b7), .val (.int (0 : Int32)), .val (.int l1), .val (.int k1), .val (.int (1 : Int32)), .val (.int l2), .val (.int k2), .unset, .unset] [(.int l3)]))
  refine own_step (fun t k => XS.istore X43.here hx rfl (hb hby at_157) rfl (l' := #[.val (.int p1), .val (.int p2), .val (.int p3), .val (.int p4), .val (.int p5), .val (.int c1), .val (.int c2), .val (.int c3), .val (.ref b7), .val (.int (0 : Int32)), .val (.int l1), .val (.int k1), .val (.int (1 : Int32)), .val (.int l2), .val (.int k2), .val (.int l3), .unset]) rfl k) ?_
  show own_G p.tables e below _ (T43.setTop (mkF m 159 #[.val (.int p1), .val (.int p2), .val (.int p3), .val (.int p4), .val (.int p5), .val (.int c1), .val (.int c2), .val (.int c3), .val (.ref b7), .val (.int (0 : Int32)), .val (.int l1), .val (.int k1), .val (.int (1 : Int32)), .val (.int l2), .val (.int k2), .val (.int l3), .unset] []))
  refine own_step (fun t k => XS.iload X43.here hx rfl (hb hby at_159) rfl k) ?_
  show own_G p.tables e below _ (T43.setTop (mkF m 161 #[.val (.int p1), .val (.int p2), .val (.int p3), .val (.int p4), .val (.int p5), .val (.int c1), .val (.int c2), .val (.int c3), .val (.ref b7), .val (.int (0 : Int32)), .val (.int l1), .val (.int k1), .val (.int (1 : Int32)), .val (.int l2), .val (.int k2), .val (.int l3), .unset] [(.int k2)]))
  refine own_step (fun t k => XS.iload X43.here hx rfl (hb hby at_161) rfl k) ?_
  show own_G p.tables e below _ (T43.setTop (mkF m 163 #[.val (.int p1), .val (.int p2), .val (.int p3), .val (.int p4), .val (.int p5), .val (.int c1), .val (.int c2), .val (.int c3), .val (.ref b7), .val (.int (0 : Int32)), .val (.int l1), .val (.int k1), .val (.int (1 : Int32)), .val (.int l2), .val (.int k2), .val (.int l3), .unset] [(.int c2), (.int k2)]))
  refine own_step (fun t k => XS.iload X43.here hx rfl (hb hby at_163) rfl k) ?_
  show own_G p.tables e below _ (T43.setTop (mkF m 165 #[.val (.int p1), .val (.int p2), .val (.int p3), .val (.int p4), .val (.int p5), .val (.int c1), .val (.int c2), .val (.int c3), .val (.ref b7), .val (.int (0 : Int32)), .val (.int l1), .val (.int k1), .val (.int (1 : Int32)), .val (.int l2), .val (.int k2), .val (.int l3), .unset] [(.int c3), (.int c2), (.int k2)]))
  obtain ⟨_, _, ⟨T45, L45, k45, n45⟩, -, X45, ⟨Lc45, hQ45, l45, y45, z45⟩, st45⟩ := Jvm.LawKit.callS X43 hx (y := (⟨"com/example/same_bytes/samebytes/TextPositionAdvancePinLaw", "expCol", "(ICC)I"⟩ : MethodName)) hown (mvT hZ (hw _ (List.mem_of_getElem? (i := 26) rfl))) (mvT hZ (hw _ (List.mem_of_getElem? (i := 27) rfl))) (mvT hZ (hw _ (List.mem_of_getElem? (i := 2) rfl))) (mvT hZ (hw _ (List.mem_of_getElem? (i := 28) rfl))) (by decide) (backOf (W := 0) (rm7 l Z a0 hw [] k2 c2 c3 T33.heap n0 (Nat.le_trans Z0 K33.1) ) hZ (hw _ (List.mem_of_getElem? (i := 28) rfl)) (hw _ (List.mem_of_getElem? (i := 2) rfl)) (by decide) (by decide)) (g := (mkF m 165 #[.val (.int p1), .val (.int p2), .val (.int p3), .val (.int p4), .val (.int p5), .val (.int c1), .val (.int c2), .val (.int c3), .val (.ref b7), .val (.int (0 : Int32)), .val (.int l1), .val (.int k1), .val (.int (1 : Int32)), .val (.int l2), .val (.int k2), .val (.int l3), .unset] [(.int c3), (.int c2), (.int k2)])) rfl (by rw [hml]; rfl) (argsL := [(.int k2), (.int c2), (.int c3)]) (rest := []) (lenOf pd_0_2 rfl) rfl (by show 2 * 0 + _ ≤ _; exact Nat.le_of_eq rfl) (hb hby at_165) (fun _ _ => ⟨rfl, e43, (by decide : 1 + 0 ≤ _), (by decide : 3 + 0 ≤ _)⟩)
  dsimp only [Pt.U, Pt.locs, Pt.cells, Pt.slots] at X45 l45 y45 z45 st45 hQ45
  subst l45 y45 z45
  obtain ⟨rfl, N45q, e45⟩ := hQ45
  have N45 := Fr.app N43 N45q
  refine own_step st45 ?_
  show own_G p.tables e below _ (T45.setTop (mkF m 168 #[.val (.int p1), .val (.int p2), .val (.int p3), .val (.int p4), .val (.int p5), .val (.int c1), .val (.int c2), .val (.int c3), .val (.ref b7), .val (.int (0 : Int32)), .val (.int l1), .val (.int k1), .val (.int (1 : Int32)), .val (.int l2), .val (.int k2), .val (.int l3), .unset] [(.int (own_f7 k2 c2 c3))]))
  refine own_nm ((own_f7 k2 c2 c3) : Int32) (fun k3 => T45.setTop (mkF m 168 #[.val (.int p1), .val (.int p2), .val (.int p3), .val (.int p4), .val (.int p5), .val (.int c1), .val (.int c2), .val (.int c3), .val (.ref b7), .val (.int (0 : Int32)), .val (.int l1), .val (.int k1), .val (.int (1 : Int32)), .val (.int l2), .val (.int k2), .val (.int l3), .unset] [(.int k3)])) ?_
  intro k3 hd_k3
  show own_G p.tables e below _ (T45.setTop (mkF m 168 #[.val (.int p1), .val (.int p2), .val (.int p3), .val (.int p4), .val (.int p5), .val (.int c1), .val (.int c2), .val (.int c3), .val (.ref b7), .val (.int (0 : Int32)), .val (.int l1), .val (.int k1), .val (.int (1 : Int32)), .val (.int l2), .val (.int k2), .val (.int l3), .unset] [(.int k3)]))
  refine own_step (fun t k => XS.istore X45.here hx rfl (hb hby at_168) rfl (l' := #[.val (.int p1), .val (.int p2), .val (.int p3), .val (.int p4), .val (.int p5), .val (.int c1), .val (.int c2), .val (.int c3), .val (.ref b7), .val (.int (0 : Int32)), .val (.int l1), .val (.int k1), .val (.int (1 : Int32)), .val (.int l2), .val (.int k2), .val (.int l3), .val (.int k3)]) rfl k) ?_
  show own_G p.tables e below _ (T45.setTop (mkF m 170 #[.val (.int p1), .val (.int p2), .val (.int p3), .val (.int p4), .val (.int p5), .val (.int c1), .val (.int c2), .val (.int c3), .val (.ref b7), .val (.int (0 : Int32)), .val (.int l1), .val (.int k1), .val (.int (1 : Int32)), .val (.int l2), .val (.int k2), .val (.int l3), .val (.int k3)] []))
  refine own_step (fun t k => XS.aload X45.here hx rfl (hb hby at_170) rfl rfl k) ?_
  show own_G p.tables e below _ (T45.setTop (mkF m 172 #[.val (.int p1), .val (.int p2), .val (.int p3), .val (.int p4), .val (.int p5), .val (.int c1), .val (.int c2), .val (.int c3), .val (.ref b7), .val (.int (0 : Int32)), .val (.int l1), .val (.int k1), .val (.int (1 : Int32)), .val (.int l2), .val (.int k2), .val (.int l3), .val (.int k3)] [(.ref b7)]))
  refine own_step (fun t k => XS.iload X45.here hx rfl (hb hby at_172) rfl k) ?_
  show own_G p.tables e below _ (T45.setTop (mkF m 174 #[.val (.int p1), .val (.int p2), .val (.int p3), .val (.int p4), .val (.int p5), .val (.int c1), .val (.int c2), .val (.int c3), .val (.ref b7), .val (.int (0 : Int32)), .val (.int l1), .val (.int k1), .val (.int (1 : Int32)), .val (.int l2), .val (.int k2), .val (.int l3), .val (.int k3)] [(.int c3), (.ref b7)]))
  obtain ⟨cq47, kq47, q47a, q47b, q47c⟩ := isOf hZ e45 c34
  obtain ⟨_, _, ⟨T47, L47, k47, n47⟩, -, X47, ⟨Lc47, hQ47, l47, y47, z47⟩, st47⟩ := X45.virtualBack hx (y := (⟨"com/example/same_bytes/samebytes/TextPosition", "advance", "(C)V"⟩ : MethodName)) (z := (⟨"com/example/same_bytes/samebytes/TextPosition", "advance", "(C)V"⟩ : MethodName)) hown (mvT hZ (hw _ (List.mem_of_getElem? (i := 29) rfl))) (mvT hZ (hw _ (List.mem_of_getElem? (i := 30) rfl))) (notFace_of_selects (args := #[]) (mvT hZ (hw _ (List.mem_of_getElem? (i := 32) rfl)))) (mvT hZ (hw _ (List.mem_of_getElem? (i := 32) rfl))) (mvT hZ (hw _ (List.mem_of_getElem? (i := 31) rfl))) (by decide) (backOf (W := 0) (rm8 l Z a0 hw [] b7 c3 (nar .char c2) (own_f8_line c2 (nar .char c1) (own_f8_line c1 (0 : Int32) p1)) (own_f8_column c2 (nar .char c1) (own_f8_column c1 (0 : Int32) p2)) T33.heap n0 (Nat.le_trans Z0 K33.1) w33_0 c34 w33_1 w33_2 ge7) hZ (hw _ (List.mem_of_getElem? (i := 33) rfl)) (hw _ (List.mem_of_getElem? (i := 6) rfl)) (by decide) (by decide)) q47a q47c (g := (mkF m 174 #[.val (.int p1), .val (.int p2), .val (.int p3), .val (.int p4), .val (.int p5), .val (.int c1), .val (.int c2), .val (.int c3), .val (.ref b7), .val (.int (0 : Int32)), .val (.int l1), .val (.int k1), .val (.int (1 : Int32)), .val (.int l2), .val (.int k2), .val (.int l3), .val (.int k3)] [(.int c3), (.ref b7)])) rfl (by rw [hml]; rfl) (Steps.refl _) (argsL := [(.int c3)]) (rest := []) (lenOf pd_0_3 rfl) rfl (by show 2 * 0 + _ ≤ _; exact Nat.le_of_eq rfl) (hb hby at_174) (fun _ _ => ⟨rfl, e45, (by decide : 1 + 0 ≤ _), (by decide : 3 + 0 ≤ _)⟩)
  dsimp only [Pt.U, Pt.locs, Pt.cells, Pt.slots] at X47 l47 y47 z47 st47 hQ47
  subst l47 y47 z47
  obtain ⟨rfl, N47q, K47q, w47_0, w47_1, w47_2⟩ := hQ47
  have c48 : Exa Z T47.heap b7 "com/example/same_bytes/samebytes/TextPosition" := c34.keep K47q
  have K47 : Keep h0 T47.heap [] := K33.trans K47q (allS (Or.inr sz7) all0)
  have N47 := Fr.app N45 N47q
  refine own_step (fun t k => st47.trans k) ?_
  show own_G p.tables e below _ (T47.setTop (mkF m 177 #[.val (.int p1), .val (.int p2), .val (.int p3), .val (.int p4), .val (.int p5), .val (.int c1), .val (.int c2), .val (.int c3), .val (.ref b7), .val (.int (0 : Int32)), .val (.int l1), .val (.int k1), .val (.int (1 : Int32)), .val (.int l2), .val (.int k2), .val (.int l3), .val (.int k3)] []))
  refine own_step (fun t k => XS.iload X47.here hx rfl (hb hby at_177) rfl k) ?_
  show own_G p.tables e below _ (T47.setTop (mkF m 179 #[.val (.int p1), .val (.int p2), .val (.int p3), .val (.int p4), .val (.int p5), .val (.int c1), .val (.int c2), .val (.int c3), .val (.ref b7), .val (.int (0 : Int32)), .val (.int l1), .val (.int k1), .val (.int (1 : Int32)), .val (.int l2), .val (.int k2), .val (.int l3), .val (.int k3)] [(.int (1 : Int32))]))
  have hk52 : ¬ ((1 : Int32) = (0 : Int32)) := (by decide)
  refine own_step (fun t k => XS.ifNo X47.here hx rfl (hb hby at_179) rfl ((if0 _ _).trans (feq hk52).1) k) ?_
  show own_G p.tables e below _ (T47.setTop (mkF m 182 #[.val (.int p1), .val (.int p2), .val (.int p3), .val (.int p4), .val (.int p5), .val (.int c1), .val (.int c2), .val (.int c3), .val (.ref b7), .val (.int (0 : Int32)), .val (.int l1), .val (.int k1), .val (.int (1 : Int32)), .val (.int l2), .val (.int k2), .val (.int l3), .val (.int k3)] []))
  refine own_step (fun t k => XS.aload X47.here hx rfl (hb hby at_182) rfl rfl k) ?_
  show own_G p.tables e below _ (T47.setTop (mkF m 184 #[.val (.int p1), .val (.int p2), .val (.int p3), .val (.int p4), .val (.int p5), .val (.int c1), .val (.int c2), .val (.int c3), .val (.ref b7), .val (.int (0 : Int32)), .val (.int l1), .val (.int k1), .val (.int (1 : Int32)), .val (.int l2), .val (.int k2), .val (.int l3), .val (.int k3)] [(.ref b7)]))
  obtain ⟨cq53, kq53, q53a, q53b, q53c⟩ := isOf hZ rfl c48
  obtain ⟨_, _, ⟨T53, L53, k53, n53⟩, -, X53, ⟨Lc53, hQ53, l53, y53, z53⟩, st53⟩ := X47.virtualBack hx (y := (⟨"com/example/same_bytes/samebytes/TextPosition", "line", "()I"⟩ : MethodName)) (z := (⟨"com/example/same_bytes/samebytes/TextPosition", "line", "()I"⟩ : MethodName)) hown (mvT hZ (hw _ (List.mem_of_getElem? (i := 36) rfl))) (mvT hZ (hw _ (List.mem_of_getElem? (i := 37) rfl))) (notFace_of_selects (args := #[]) (mvT hZ (hw _ (List.mem_of_getElem? (i := 39) rfl)))) (mvT hZ (hw _ (List.mem_of_getElem? (i := 39) rfl))) (mvT hZ (hw _ (List.mem_of_getElem? (i := 38) rfl))) (by decide) (backOf (W := 0) (rm9 l Z a0 hw [] b7 (own_f8_line c3 (nar .char c2) (own_f8_line c2 (nar .char c1) (own_f8_line c1 (0 : Int32) p1))) T47.heap n0 (Nat.le_trans Z0 K47.1) w47_1) hZ (hw _ (List.mem_of_getElem? (i := 40) rfl)) (hw _ (List.mem_of_getElem? (i := 6) rfl)) (by decide) (by decide)) q53a q53c (g := (mkF m 184 #[.val (.int p1), .val (.int p2), .val (.int p3), .val (.int p4), .val (.int p5), .val (.int c1), .val (.int c2), .val (.int c3), .val (.ref b7), .val (.int (0 : Int32)), .val (.int l1), .val (.int k1), .val (.int (1 : Int32)), .val (.int l2), .val (.int k2), .val (.int l3), .val (.int k3)] [(.ref b7)])) rfl (by rw [hml]; rfl) (Steps.refl _) (argsL := []) (rest := []) (lenOf pd_0_4 rfl) rfl (by show 2 * 0 + _ ≤ _; exact Nat.le_of_eq rfl) (hb hby at_184) (fun _ _ => ⟨rfl, rfl, (by decide : 1 + 0 ≤ _), (by decide : 3 + 0 ≤ _)⟩)
  dsimp only [Pt.U, Pt.locs, Pt.cells, Pt.slots] at X53 l53 y53 z53 st53 hQ53
  subst l53 y53 z53
  obtain ⟨rfl, N53q, e53⟩ := hQ53
  have N53 := Fr.app N47 N53q
  refine own_step (fun t k => st53.trans k) ?_
  show own_G p.tables e below _ (T53.setTop (mkF m 187 #[.val (.int p1), .val (.int p2), .val (.int p3), .val (.int p4), .val (.int p5), .val (.int c1), .val (.int c2), .val (.int c3), .val (.ref b7), .val (.int (0 : Int32)), .val (.int l1), .val (.int k1), .val (.int (1 : Int32)), .val (.int l2), .val (.int k2), .val (.int l3), .val (.int k3)] [(.int (own_f8_line c3 (nar .char c2) (own_f8_line c2 (nar .char c1) (own_f8_line c1 (0 : Int32) p1))))]))
  refine own_step (fun t k => XS.iload X53.here hx rfl (hb hby at_187) rfl k) ?_
  show own_G p.tables e below _ (T53.setTop (mkF m 189 #[.val (.int p1), .val (.int p2), .val (.int p3), .val (.int p4), .val (.int p5), .val (.int c1), .val (.int c2), .val (.int c3), .val (.ref b7), .val (.int (0 : Int32)), .val (.int l1), .val (.int k1), .val (.int (1 : Int32)), .val (.int l2), .val (.int k2), .val (.int l3), .val (.int k3)] [(.int l3), (.int (own_f8_line c3 (nar .char c2) (own_f8_line c2 (nar .char c1) (own_f8_line c1 (0 : Int32) p1))))]))
  have hk54 : (own_f8_line c3 (nar .char c2) (own_f8_line c2 (nar .char c1) (own_f8_line c1 (0 : Int32) p1))) = l3 := (by rw [hd_l3, hd_l2, hd_l1, n1, n2, own_line, own_line, own_line])
  refine own_step (fun t k => XS.icmpNo X53.here hx rfl (hb hby at_189) rfl ((teq hk54).2) k) ?_
  show own_G p.tables e below _ (T53.setTop (mkF m 192 #[.val (.int p1), .val (.int p2), .val (.int p3), .val (.int p4), .val (.int p5), .val (.int c1), .val (.int c2), .val (.int c3), .val (.ref b7), .val (.int (0 : Int32)), .val (.int l1), .val (.int k1), .val (.int (1 : Int32)), .val (.int l2), .val (.int k2), .val (.int l3), .val (.int k3)] []))
  refine own_step (fun t k => XS.aload X53.here hx rfl (hb hby at_192) rfl rfl k) ?_
  show own_G p.tables e below _ (T53.setTop (mkF m 194 #[.val (.int p1), .val (.int p2), .val (.int p3), .val (.int p4), .val (.int p5), .val (.int c1), .val (.int c2), .val (.int c3), .val (.ref b7), .val (.int (0 : Int32)), .val (.int l1), .val (.int k1), .val (.int (1 : Int32)), .val (.int l2), .val (.int k2), .val (.int l3), .val (.int k3)] [(.ref b7)]))
  obtain ⟨cq55, kq55, q55a, q55b, q55c⟩ := isOf hZ e53 c48
  obtain ⟨_, _, ⟨T55, L55, k55, n55⟩, -, X55, ⟨Lc55, hQ55, l55, y55, z55⟩, st55⟩ := X53.virtualBack hx (y := (⟨"com/example/same_bytes/samebytes/TextPosition", "column", "()I"⟩ : MethodName)) (z := (⟨"com/example/same_bytes/samebytes/TextPosition", "column", "()I"⟩ : MethodName)) hown (mvT hZ (hw _ (List.mem_of_getElem? (i := 41) rfl))) (mvT hZ (hw _ (List.mem_of_getElem? (i := 42) rfl))) (notFace_of_selects (args := #[]) (mvT hZ (hw _ (List.mem_of_getElem? (i := 44) rfl)))) (mvT hZ (hw _ (List.mem_of_getElem? (i := 44) rfl))) (mvT hZ (hw _ (List.mem_of_getElem? (i := 43) rfl))) (by decide) (backOf (W := 0) (rm10 l Z a0 hw [] b7 (own_f8_column c3 (nar .char c2) (own_f8_column c2 (nar .char c1) (own_f8_column c1 (0 : Int32) p2))) T47.heap n0 (Nat.le_trans Z0 K47.1) w47_2) hZ (hw _ (List.mem_of_getElem? (i := 45) rfl)) (hw _ (List.mem_of_getElem? (i := 6) rfl)) (by decide) (by decide)) q55a q55c (g := (mkF m 194 #[.val (.int p1), .val (.int p2), .val (.int p3), .val (.int p4), .val (.int p5), .val (.int c1), .val (.int c2), .val (.int c3), .val (.ref b7), .val (.int (0 : Int32)), .val (.int l1), .val (.int k1), .val (.int (1 : Int32)), .val (.int l2), .val (.int k2), .val (.int l3), .val (.int k3)] [(.ref b7)])) rfl (by rw [hml]; rfl) (Steps.refl _) (argsL := []) (rest := []) (lenOf pd_0_4 rfl) rfl (by show 2 * 0 + _ ≤ _; exact Nat.le_of_eq rfl) (hb hby at_194) (fun _ _ => ⟨rfl, e53, (by decide : 1 + 0 ≤ _), (by decide : 3 + 0 ≤ _)⟩)
  dsimp only [Pt.U, Pt.locs, Pt.cells, Pt.slots] at X55 l55 y55 z55 st55 hQ55
  subst l55 y55 z55
  obtain ⟨rfl, N55q, e55⟩ := hQ55
  have N55 := Fr.app N53 N55q
  refine own_step (fun t k => st55.trans k) ?_
  show own_G p.tables e below _ (T55.setTop (mkF m 197 #[.val (.int p1), .val (.int p2), .val (.int p3), .val (.int p4), .val (.int p5), .val (.int c1), .val (.int c2), .val (.int c3), .val (.ref b7), .val (.int (0 : Int32)), .val (.int l1), .val (.int k1), .val (.int (1 : Int32)), .val (.int l2), .val (.int k2), .val (.int l3), .val (.int k3)] [(.int (own_f8_column c3 (nar .char c2) (own_f8_column c2 (nar .char c1) (own_f8_column c1 (0 : Int32) p2))))]))
  refine own_step (fun t k => XS.iload X55.here hx rfl (hb hby at_197) rfl k) ?_
  show own_G p.tables e below _ (T55.setTop (mkF m 199 #[.val (.int p1), .val (.int p2), .val (.int p3), .val (.int p4), .val (.int p5), .val (.int c1), .val (.int c2), .val (.int c3), .val (.ref b7), .val (.int (0 : Int32)), .val (.int l1), .val (.int k1), .val (.int (1 : Int32)), .val (.int l2), .val (.int k2), .val (.int l3), .val (.int k3)] [(.int k3), (.int (own_f8_column c3 (nar .char c2) (own_f8_column c2 (nar .char c1) (own_f8_column c1 (0 : Int32) p2))))]))
  have hk56 : (own_f8_column c3 (nar .char c2) (own_f8_column c2 (nar .char c1) (own_f8_column c1 (0 : Int32) p2))) = k3 := (by rw [hd_k3, hd_k2, hd_k1, n1, n2, own_col, own_col, own_col])
  refine own_step (fun t k => XS.icmpNo X55.here hx rfl (hb hby at_199) rfl ((teq hk56).2) k) ?_
  show own_G p.tables e below _ (T55.setTop (mkF m 202 #[.val (.int p1), .val (.int p2), .val (.int p3), .val (.int p4), .val (.int p5), .val (.int c1), .val (.int c2), .val (.int c3), .val (.ref b7), .val (.int (0 : Int32)), .val (.int l1), .val (.int k1), .val (.int (1 : Int32)), .val (.int l2), .val (.int k2), .val (.int l3), .val (.int k3)] []))
  refine own_step (fun t k => XS.iconst X55.here hx rfl (hb hby at_202) k) ?_
  show own_G p.tables e below _ (T55.setTop (mkF m 203 #[.val (.int p1), .val (.int p2), .val (.int p3), .val (.int p4), .val (.int p5), .val (.int c1), .val (.int c2), .val (.int c3), .val (.ref b7), .val (.int (0 : Int32)), .val (.int l1), .val (.int k1), .val (.int (1 : Int32)), .val (.int l2), .val (.int k2), .val (.int l3), .val (.int k3)] [(.int (1 : Int32))]))
  refine own_step (fun t k => XS.goto X55.here hx rfl (pc0 := 203) (pc' := 207) rfl (hb hby at_203) (by decide) (by decide) k) ?_
  show own_G p.tables e below _ (T55.setTop (mkF m 207 #[.val (.int p1), .val (.int p2), .val (.int p3), .val (.int p4), .val (.int p5), .val (.int c1), .val (.int c2), .val (.int c3), .val (.ref b7), .val (.int (0 : Int32)), .val (.int l1), .val (.int k1), .val (.int (1 : Int32)), .val (.int l2), .val (.int k2), .val (.int l3), .val (.int k3)] [(.int (1 : Int32))]))
  refine own_step (fun t k => XS.istore X55.here hx rfl (hb hby at_207) rfl (l' := #[.val (.int p1), .val (.int p2), .val (.int p3), .val (.int p4), .val (.int p5), .val (.int c1), .val (.int c2), .val (.int c3), .val (.ref b7), .val (.int (0 : Int32)), .val (.int l1), .val (.int k1), .val (.int (1 : Int32)), .val (.int l2), .val (.int k2), .val (.int l3), .val (.int k3)]) rfl k) ?_
  show own_G p.tables e below _ (T55.setTop (mkF m 209 #[.val (.int p1), .val (.int p2), .val (.int p3), .val (.int p4), .val (.int p5), .val (.int c1), .val (.int c2), .val (.int c3), .val (.ref b7), .val (.int (0 : Int32)), .val (.int l1), .val (.int k1), .val (.int (1 : Int32)), .val (.int l2), .val (.int k2), .val (.int l3), .val (.int k3)] []))
  refine own_step (fun t k => XS.iload X55.here hx rfl (hb hby at_209) rfl k) ?_
  show own_G p.tables e below _ (T55.setTop (mkF m 211 #[.val (.int p1), .val (.int p2), .val (.int p3), .val (.int p4), .val (.int p5), .val (.int c1), .val (.int c2), .val (.int c3), .val (.ref b7), .val (.int (0 : Int32)), .val (.int l1), .val (.int k1), .val (.int (1 : Int32)), .val (.int l2), .val (.int k2), .val (.int l3), .val (.int k3)] [(.int (1 : Int32))]))
  obtain ⟨fs, hr, hrun, hended, hW, hsame⟩ := X55.leave (v := some (.int (1 : Int32))) (fun h => by rw [Bd.returns] at h; cases h)
  refine own_done (retN X55 hx (t := .boolean) Bd.returns (by simp) (hb hby at_211) hr) hrun hended ⟨_, _, rfl, ?_, ⟨_, rfl⟩, hW, hsame.mono (by decide) (by decide)⟩
  show Q0 Z p1 p2 p3 p4 p5 h0 n0 _ T55.heap _
  rw [e55]
  exact ⟨rfl, N55⟩
set_option maxRecDepth 65536 in
set_option maxHeartbeats 40000000 in
theorem comes_1 {Post : Tables → Env → Array Value → State → Outcome → State → Prop} (hpost : ∀ tb e args s v u, (limb_1_1.after args s (.returned v) u = true ∧ limb_1_2.after args s (.returned v) u = true ∧ True) → FrameEnd s (.returned v) u (Jvm.fieldLocs frame_1_writes args s ++ Jvm.arrayLocs frame_1_arrays args s ++ Jvm.staticLocs frame_1_statics s) 16 128 → Post tb e args s (.returned v) u) :
    ArmFor flags0 classFile x code maxLocals ret World_1 tables_1 room_1 Calls_1 rest_1 Pre_1 Post := by
  intro l hfl _ _ p e ha hc hk s m args below hf hA hF happ hP
  obtain ⟨hcalls, hrest, hpre⟩ := hP
  obtain ⟨-, -, -, hnamed, -, -, -, hat⟩ := (Spec.applies_iff hf).mp happ
  obtain ⟨hg, hn⟩ := and_e (Cond.before_iff.mp (show (Jvm.Cond.and given_1 narrow_1).before args s = true from hpre))
  obtain ⟨g1, g2⟩ := and_e hg
  obtain ⟨g3, g4⟩ := and_e g2
  obtain ⟨g5, g6⟩ := and_e g4
  obtain ⟨g7, g8⟩ := and_e g6
  obtain ⟨g9, g10⟩ := and_e g8
  obtain ⟨w0, w1, w2, w3, w4, rfl⟩ : ∃ w0 w1 w2 w3 w4 : Value, args = #[w0, w1, w2, w3, w4] := by
    have hs : args.size = 5 := by simpa [Cond.value, given_1] using g1
    obtain ⟨L⟩ := args
    match L, hs with
    | [w0, w1, w2, w3, w4], _ => exact ⟨w0, w1, w2, w3, w4, rfl⟩
  have hw := fun d (hd : d ∈ tables_1) => atoms_spec (ws := Jvm.Cond.code x code maxLocals ret :: tables_1) hat d (List.mem_cons_of_mem _ hd)
  obtain ⟨i0, ei0⟩ := is_v g3
  obtain rfl : w0 = (.int i0) := Option.some.inj ei0
  obtain ⟨i1, ei1⟩ := is_v g5
  obtain rfl : w1 = (.int i1) := Option.some.inj ei1
  obtain ⟨i2, ei2⟩ := is_v g7
  obtain rfl : w2 = (.int i2) := Option.some.inj ei2
  obtain ⟨i3, ei3⟩ := is_v g9
  obtain rfl : w3 = (.int i3) := Option.some.inj ei3
  obtain ⟨i4, ei4⟩ := is_v g10
  obtain rfl : w4 = (.int i4) := Option.some.inj ei4
  obtain ⟨n, o, h1, h2, h3, _, L, rfl, ⟨rfl, N⟩, hq⟩ := rm0 l s _ hw tables_1 i0 i1 i2 i3 i4 s.heap s.heap.size (Nat.le_refl _)  p e ha hc hk s m _ below hf ((Spec.applies_iff_loose hf).mp happ).1 ⟨rfl, State.Warmed39.refl s, rfl⟩ trivial
  refine ⟨n, _, h1, h2, h3, hpost _ _ _ _ _ _ ⟨Cond.after_iff.mpr rfl, Cond.after_iff.mpr (eq_i res_at (Term.int_eval (1)) rfl), trivial⟩ ⟨hq.1, hq.2.1, (hq.2.2.sift fun y hy => Or.inr (N y hy)).mono (by decide) (by decide)⟩⟩
theorem main_1_1 : Claimed_1_1 := comes_1 fun _ _ _ _ _ _ h hF => ⟨h.1, hF⟩
theorem main_1_2 : Claimed_1_2 := comes_1 fun _ _ _ _ _ _ h hF => ⟨h.2.1, hF⟩
end Jvm.Pilot.@@N@@
namespace Jvm.Pilot.@@N@@
open Jvm Jvm.ClassFile Sem Op Lib Jvm.Free Jvm.Stand Jvm.Pilot.@@N@@.Jvm.D
/-! MADE BY PROGRAM (witnessworld.py) out of the Statement's table words and the real class files: 9 classes; the members and pool entries that the words name. The judged class is class 1, her method 6. -/
namespace start1
open Jvm.ClassFile
def u (s : String) : CpInfo := .utf8 (stringToUtf16 s)
/-- a pool by its gaps: so many unusable entries, then the entry; so many at the end -/
def gap : Nat → List CpInfo → List CpInfo
  | 0, r => r
  | n + 1, r => .unusable :: gap n r
def poolList (es : List (Nat × CpInfo)) (last : Nat) : List CpInfo := es.foldr (fun e r => gap e.1 (e.2 :: r)) (gap last [])
def pool (es : List (Nat × CpInfo)) (last : Nat) : Array CpInfo := ⟨poolList es last⟩
def fileOf (pool : Array CpInfo) (this : Nat) (attrs : Array Attribute := #[]) (ms : Array MethodInfo := #[]) (fl : Nat := 33) (sup : Nat := 0) (ifs : Array Nat := #[]) (fds : Array FieldInfo := #[]) : ClassFile where
  minorVersion := 0
  majorVersion := 65
  constantPool := pool
  accessFlags := fl
  thisClass := this
  superClass := sup
  interfaces := ifs
  fields := fds
  methods := ms
  attributes := attrs
def plain (name : String) (sup : Option ClassId) : Class where
  name := name
  kind := .ordinary
  loader := none
  accessFlags := 33
  super := sup
  interfaces := #[]
  cf := none
  fields := #[]
  methods := #[]
  instanceTypes := #[]
  staticTypes := #[]
  resolved := #[]
  callSites := []
  init := .initialized
  statics := none
  mirror := none

def pool0 : Array CpInfo := pool [(5, u "<init>"), (0, u "()V"), (1, .class_ 10), (1, u "java/lang/Object")] 113

def k0c0 : Code := { maxStack := 0, maxLocals := 1, code := object_method_1_code, exceptionTable := #[], attributes := #[] }
def k0m0 : Method := { name := "<init>", desc := "()V", sig := { parameters := [], returnType := none }, accessFlags := 1, code := some k0c0 }
/-- java/lang/Object -/
def k0 : Class := { plain "java/lang/Object" none with
  accessFlags := 33
  interfaces := #[]
  cf := some (fileOf pool0 8 #[] #[{ accessFlags := 1, nameIndex := 5, descriptorIndex := 6, attributes := #[] }] 33 0 #[] #[])
  fields := #[]
  methods := #[k0m0]
  instanceTypes := #[]
  staticTypes := #[]
  resolved := Array.replicate 124 none
  statics := none }

def pool1 : Array CpInfo := pool [(2, .class_ 4), (1, u "java/lang/Object"), (0, u "<init>"), (0, u "()V"), (0, .methodref 8 9), (0, .class_ 10), (0, .nameAndType 11 12), (0, u "com/example/same_bytes/samebytes/TextPositionAdvancePinLaw"), (0, u "skips"), (0, u "(CC)Z"), (0, .methodref 8 14), (0, .nameAndType 15 16), (0, u "ends"), (0, u "(C)Z"), (0, .methodref 8 18), (0, .nameAndType 19 20), (0, u "pick"), (0, u "(I)C"), (0, .class_ 22), (0, u "com/example/same_bytes/samebytes/TextPosition"), (0, .methodref 21 24), (0, .nameAndType 5 25), (0, u "(II)V"), (0, .methodref 8 27), (0, .nameAndType 28 29), (0, u "expLine"), (0, u "(ICC)I"), (0, .methodref 8 31), (0, .nameAndType 32 29), (0, u "expCol"), (0, .methodref 21 34), (0, .nameAndType 35 36), (0, u "advance"), (0, u "(C)V"), (0, .methodref 21 38), (0, .nameAndType 39 40), (0, u "line"), (0, u "()I"), (0, .methodref 21 42), (0, .nameAndType 43 40), (0, u "column"), (3, u "law"), (0, u "(IIIII)Z")] 2

def k1m0 : Method := { name := "<init>", desc := "()V", sig := { parameters := [], returnType := none }, accessFlags := 1, code := none }
def k1c1 : Code := { maxStack := 2, maxLocals := 2, code := method_2_code, exceptionTable := #[], attributes := #[] }
def k1m1 : Method := { name := "pick", desc := "(I)C", sig := { parameters := [.int], returnType := some .char }, accessFlags := 10, code := some k1c1 }
def k1c2 : Code := { maxStack := 2, maxLocals := 2, code := method_3_code, exceptionTable := #[], attributes := #[] }
def k1m2 : Method := { name := "skips", desc := "(CC)Z", sig := { parameters := [.char, .char], returnType := some .boolean }, accessFlags := 10, code := some k1c2 }
def k1c3 : Code := { maxStack := 2, maxLocals := 1, code := method_4_code, exceptionTable := #[], attributes := #[] }
def k1m3 : Method := { name := "ends", desc := "(C)Z", sig := { parameters := [.char], returnType := some .boolean }, accessFlags := 10, code := some k1c3 }
def k1c4 : Code := { maxStack := 2, maxLocals := 3, code := method_5_code, exceptionTable := #[], attributes := #[] }
def k1m4 : Method := { name := "expLine", desc := "(ICC)I", sig := { parameters := [.int, .char, .char], returnType := some .int }, accessFlags := 10, code := some k1c4 }
def k1c5 : Code := { maxStack := 2, maxLocals := 3, code := method_6_code, exceptionTable := #[], attributes := #[] }
def k1m5 : Method := { name := "expCol", desc := "(ICC)I", sig := { parameters := [.int, .char, .char], returnType := some .int }, accessFlags := 10, code := some k1c5 }
def k1c6 : Code := { maxStack := 4, maxLocals := 17, code := code, exceptionTable := #[], attributes := #[] }
def k1m6 : Method := { name := "law", desc := "(IIIII)Z", sig := { parameters := [.int, .int, .int, .int, .int], returnType := some .boolean }, accessFlags := 9, code := some k1c6 }
/-- com/example/same_bytes/samebytes/TextPositionAdvancePinLaw -/
def k1 : Class := { plain "com/example/same_bytes/samebytes/TextPositionAdvancePinLaw" (some 0) with
  accessFlags := 49
  interfaces := #[]
  cf := some (fileOf pool1 8 #[] #[{ accessFlags := 1, nameIndex := 5, descriptorIndex := 6, attributes := #[] }, { accessFlags := 10, nameIndex := 19, descriptorIndex := 20, attributes := #[] }, { accessFlags := 10, nameIndex := 11, descriptorIndex := 12, attributes := #[] }, { accessFlags := 10, nameIndex := 15, descriptorIndex := 16, attributes := #[] }, { accessFlags := 10, nameIndex := 28, descriptorIndex := 29, attributes := #[] }, { accessFlags := 10, nameIndex := 32, descriptorIndex := 29, attributes := #[] }, { accessFlags := 9, nameIndex := 47, descriptorIndex := 48, attributes := #[] }] 49 2 #[] #[])
  fields := #[]
  methods := #[k1m0, k1m1, k1m2, k1m3, k1m4, k1m5, k1m6]
  instanceTypes := #[]
  staticTypes := #[]
  resolved := Array.replicate 51 none
  statics := none }

def pool2 : Array CpInfo := pool [(2, .class_ 4), (1, u "com/example/same_bytes/samebytes/TextPosition"), (0, u "<init>"), (0, u "(II)V"), (0, .methodref 8 9), (0, .class_ 10), (0, .nameAndType 5 11), (0, u "java/lang/Object"), (0, u "()V"), (0, .fieldref 2 13), (0, .nameAndType 14 15), (0, u "line"), (0, u "I"), (0, .fieldref 2 17), (0, .nameAndType 18 15), (0, u "column"), (0, .fieldref 2 20), (0, .nameAndType 21 22), (0, u "last"), (0, u "C"), (2, u "advance"), (0, u "(C)V"), (1, u "()I")] 2

def k2m0 : Method := { name := "<init>", desc := "()V", sig := { parameters := [], returnType := none }, accessFlags := 0, code := none }
def k2c1 : Code := { maxStack := 2, maxLocals := 3, code := prog_112_method_2_code, exceptionTable := #[], attributes := #[] }
def k2m1 : Method := { name := "<init>", desc := "(II)V", sig := { parameters := [.int, .int], returnType := none }, accessFlags := 0, code := some k2c1 }
def k2c2 : Code := { maxStack := 3, maxLocals := 3, code := prog_112_method_3_code, exceptionTable := #[], attributes := #[] }
def k2m2 : Method := { name := "advance", desc := "(C)V", sig := { parameters := [.char], returnType := none }, accessFlags := 0, code := some k2c2 }
def k2c3 : Code := { maxStack := 1, maxLocals := 1, code := prog_112_method_4_code, exceptionTable := #[], attributes := #[] }
def k2m3 : Method := { name := "line", desc := "()I", sig := { parameters := [], returnType := some .int }, accessFlags := 0, code := some k2c3 }
def k2c4 : Code := { maxStack := 1, maxLocals := 1, code := prog_112_method_5_code, exceptionTable := #[], attributes := #[] }
def k2m4 : Method := { name := "column", desc := "()I", sig := { parameters := [], returnType := some .int }, accessFlags := 0, code := some k2c4 }
/-- com/example/same_bytes/samebytes/TextPosition -/
def k2 : Class := { plain "com/example/same_bytes/samebytes/TextPosition" (some 0) with
  accessFlags := 48
  interfaces := #[]
  cf := some (fileOf pool2 2 #[] #[{ accessFlags := 0, nameIndex := 5, descriptorIndex := 11, attributes := #[] }, { accessFlags := 0, nameIndex := 5, descriptorIndex := 6, attributes := #[] }, { accessFlags := 0, nameIndex := 25, descriptorIndex := 26, attributes := #[] }, { accessFlags := 0, nameIndex := 14, descriptorIndex := 28, attributes := #[] }, { accessFlags := 0, nameIndex := 18, descriptorIndex := 28, attributes := #[] }] 48 8 #[] #[{ accessFlags := 2, nameIndex := 14, descriptorIndex := 15, attributes := #[] }, { accessFlags := 2, nameIndex := 18, descriptorIndex := 15, attributes := #[] }, { accessFlags := 2, nameIndex := 21, descriptorIndex := 22, attributes := #[] }])
  fields := #[{ name := "line", type := .int, accessFlags := 2, slot := 0, constantValue := 0 }, { name := "column", type := .int, accessFlags := 2, slot := 1, constantValue := 0 }, { name := "last", type := .char, accessFlags := 2, slot := 2, constantValue := 0 }]
  methods := #[k2m0, k2m1, k2m2, k2m3, k2m4]
  instanceTypes := #[.int, .int, .char]
  staticTypes := #[]
  resolved := Array.replicate 31 none
  statics := none }

def pool3 : Array CpInfo := pool [(1, u "java/lang/Cloneable"), (0, .class_ 1), (0, u "java/lang/Object"), (0, .class_ 3)] 3

/-- java/lang/Cloneable -/
def k3 : Class := { plain "java/lang/Cloneable" (some 0) with
  accessFlags := 1537
  interfaces := #[]
  cf := some (fileOf pool3 2 #[] #[] 1537 4 #[] #[])
  fields := #[]
  methods := #[]
  instanceTypes := #[]
  staticTypes := #[]
  resolved := Array.replicate 8 none
  statics := none }

def pool4 : Array CpInfo := pool [(1, u "java/io/Serializable"), (0, .class_ 1), (0, u "java/lang/Object"), (0, .class_ 3)] 3

/-- java/io/Serializable -/
def k4 : Class := { plain "java/io/Serializable" (some 0) with
  accessFlags := 1537
  interfaces := #[]
  cf := some (fileOf pool4 2 #[] #[] 1537 4 #[] #[])
  fields := #[]
  methods := #[]
  instanceTypes := #[]
  staticTypes := #[]
  resolved := Array.replicate 8 none
  statics := none }

/-- the primitive byte -/
def k5 : Class := { plain "byte" none with kind := .primitive 'B', accessFlags := 0x411 }
/-- [B -/
def k6 : Class := { plain "[B" (some 0) with kind := .array 5 .byte, interfaces := #[3, 4], accessFlags := 1041 }

/-- the primitive int -/
def k7 : Class := { plain "int" none with kind := .primitive 'I', accessFlags := 0x411 }
/-- [I -/
def k8 : Class := { plain "[I" (some 0) with kind := .array 7 .int, interfaces := #[3, 4], accessFlags := 1041 }

def heap : Heap := #[]
def classes : Array Class := #[k0, k1, k2, k3, k4, k5, k6, k7, k8]
def interned : List (Array UInt16 × Addr) := []
def slotsUsed : Nat := 0
def theMethod : MethodId := ⟨1, 6⟩
def args0 : Array Value := #[.int 5, .int 7, .int 1, .int 2, .int 3]
def aboutOver (below : List Frame) : State where
  vm := { classes := classes, interned := interned.toArray }
  heap := heap
  slotsUsed := slotsUsed
  threads := #[{ frames := .invoking theMethod args0 :: below }]
def below0 : List Frame := [.native { method := ⟨0, 0⟩, args := #[] }]
def about1 : State := aboutOver below0
def p0 : Program := .bare "" "" ""
def e0 : Env := launch0.env 0 0 0
theorem w_frames : about1.frames = Frame.invoking theMethod args0 :: below0 := rfl
set_option maxRecDepth 65536 in
theorem w_args : argsFit about1.vm theMethod args0 = true := by decide +kernel
set_option maxRecDepth 65536 in
theorem w_heap : heapFits about1 = true := by decide +kernel
set_option maxRecDepth 65536 in
theorem w_runnable : about1.curStatus? = some .runnable := by decide +kernel
set_option maxRecDepth 65536 in
theorem w_alone : about1.alone = true := by decide +kernel
set_option maxRecDepth 65536 in
theorem w_named : about1.methodNamed? x = some theMethod := by decide +kernel
set_option maxRecDepth 65536 in
theorem w_hears : about1.hears theMethod below0 = true := by decide +kernel
set_option maxRecDepth 65536 in
theorem w_ripe : about1.ripe theMethod args0 below0 = true := by decide +kernel
theorem w_running : about1.status = .running := rfl
set_option maxRecDepth 65536 in
theorem w_room : about1.hasRoom e0.platform room_1 = true :=
  launch0.hasRoom_least _ room_1 (by decide +kernel) (by decide +kernel) (by decide +kernel) (by decide +kernel) (by decide +kernel) (by decide +kernel)
theorem allAtoms_all (ts : List Jvm.Cond) (a : Array Jvm.Value) (st : Jvm.State) : (allAtoms ts).before a st = ts.all (fun c => c.before a st) := by
  induction ts with
  | nil => rfl
  | cons c t ih =>
    show (Jvm.Cond.and c (allAtoms t)).before a st = _
    rw [Jvm.Cond.before_and, ih, List.all_cons]
def words1 : List Jvm.Cond := Jvm.Cond.code x code maxLocals ret :: tables_1
/-- a 'code' word, met by the world's own term for the bytes: nothing is compared byte by byte -/
theorem code_word {y : MethodName} {bytes : ByteArray} {mx : Nat} {rt : Option FieldType} {a : Array Value} {s : State} {m : MethodId} {meth : Method} {c : Code} (h1 : s.methodNamed? y = some m) (h2 : s.vm.method? m = some meth) (h3 : meth.code = some c) (h4 : c.code = bytes)
    (h5 : (c.maxLocals == mx && c.exceptionTable.isEmpty && decide (c.maxStack ≤ mostOperands) && decide (meth.sig.returnType = rt) && !meth.locks && decide (parseMethodDescriptor y.desc = some meth.sig)) = true) : (Jvm.Cond.code y bytes mx rt).before a s = true := by
  simp only [Bool.and_eq_true, beq_iff_eq, Bool.not_eq_true', decide_eq_true_eq] at h5
  obtain ⟨⟨⟨⟨⟨g1, g2⟩, g3⟩, g4⟩, g5⟩, g6⟩ := h5
  simp [Cond.before, Cond.holds, Cond.value, h1, h2, h3, h4, g1, g2, g3, g4, g5, g6]
def isCode : Jvm.Cond → Bool
  | .code _ _ _ _ => true
  | _ => false
theorem all_split {L : List Jvm.Cond} {P : Jvm.Cond → Bool} (h1 : L.all (fun c => isCode c || P c) = true) (h2 : ∀ c ∈ L.filter isCode, P c = true) : L.all P = true := by
  refine List.all_eq_true.mpr fun c hc => ?_
  have h := List.all_eq_true.mp h1 c hc
  rcases Bool.eq_false_or_eq_true (isCode c) with hi | hi
  · exact h2 c (List.mem_filter.mpr ⟨hc, hi⟩)
  · simpa [hi] using h
set_option maxRecDepth 65536 in
theorem w_c0 : (Jvm.Cond.code x code maxLocals ret).before args0 about1 = true := code_word (m := ⟨1, 6⟩) (meth := k1m6) (c := k1c6) (by decide +kernel) rfl rfl rfl (by decide +kernel)
set_option maxRecDepth 65536 in
theorem w_c1 : (Jvm.Cond.code ({ cls := "com/example/same_bytes/samebytes/TextPositionAdvancePinLaw", name := "pick", desc := "(I)C" } : Jvm.MethodName) method_2_code (2 : Nat) (Option.some Jvm.ClassFile.FieldType.char)).before args0 about1 = true := code_word (m := ⟨1, 1⟩) (meth := k1m1) (c := k1c1) (by decide +kernel) rfl rfl rfl (by decide +kernel)
set_option maxRecDepth 65536 in
theorem w_c2 : (Jvm.Cond.code ({ cls := "com/example/same_bytes/samebytes/TextPosition", name := "<init>", desc := "(II)V" } : Jvm.MethodName) prog_112_method_2_code (3 : Nat) (Option.none : Option Jvm.ClassFile.FieldType)).before args0 about1 = true := code_word (m := ⟨2, 1⟩) (meth := k2m1) (c := k2c1) (by decide +kernel) rfl rfl rfl (by decide +kernel)
set_option maxRecDepth 65536 in
theorem w_c3 : (Jvm.Cond.code ({ cls := "java/lang/Object", name := "<init>", desc := "()V" } : Jvm.MethodName) object_method_1_code (1 : Nat) (Option.none : Option Jvm.ClassFile.FieldType)).before args0 about1 = true := code_word (m := ⟨0, 0⟩) (meth := k0m0) (c := k0c0) (by decide +kernel) rfl rfl rfl (by decide +kernel)
set_option maxRecDepth 65536 in
theorem w_c4 : (Jvm.Cond.code ({ cls := "com/example/same_bytes/samebytes/TextPositionAdvancePinLaw", name := "expLine", desc := "(ICC)I" } : Jvm.MethodName) method_5_code (3 : Nat) (Option.some Jvm.ClassFile.FieldType.int)).before args0 about1 = true := code_word (m := ⟨1, 4⟩) (meth := k1m4) (c := k1c4) (by decide +kernel) rfl rfl rfl (by decide +kernel)
set_option maxRecDepth 65536 in
theorem w_c5 : (Jvm.Cond.code ({ cls := "com/example/same_bytes/samebytes/TextPositionAdvancePinLaw", name := "skips", desc := "(CC)Z" } : Jvm.MethodName) method_3_code (2 : Nat) (Option.some Jvm.ClassFile.FieldType.boolean)).before args0 about1 = true := code_word (m := ⟨1, 2⟩) (meth := k1m2) (c := k1c2) (by decide +kernel) rfl rfl rfl (by decide +kernel)
set_option maxRecDepth 65536 in
theorem w_c6 : (Jvm.Cond.code ({ cls := "com/example/same_bytes/samebytes/TextPositionAdvancePinLaw", name := "ends", desc := "(C)Z" } : Jvm.MethodName) method_4_code (1 : Nat) (Option.some Jvm.ClassFile.FieldType.boolean)).before args0 about1 = true := code_word (m := ⟨1, 3⟩) (meth := k1m3) (c := k1c3) (by decide +kernel) rfl rfl rfl (by decide +kernel)
set_option maxRecDepth 65536 in
theorem w_c7 : (Jvm.Cond.code ({ cls := "com/example/same_bytes/samebytes/TextPositionAdvancePinLaw", name := "expCol", desc := "(ICC)I" } : Jvm.MethodName) method_6_code (3 : Nat) (Option.some Jvm.ClassFile.FieldType.int)).before args0 about1 = true := code_word (m := ⟨1, 5⟩) (meth := k1m5) (c := k1c5) (by decide +kernel) rfl rfl rfl (by decide +kernel)
set_option maxRecDepth 65536 in
theorem w_c8 : (Jvm.Cond.code ({ cls := "com/example/same_bytes/samebytes/TextPosition", name := "advance", desc := "(C)V" } : Jvm.MethodName) prog_112_method_3_code (3 : Nat) (Option.none : Option Jvm.ClassFile.FieldType)).before args0 about1 = true := code_word (m := ⟨2, 2⟩) (meth := k2m2) (c := k2c2) (by decide +kernel) rfl rfl rfl (by decide +kernel)
set_option maxRecDepth 65536 in
theorem w_c9 : (Jvm.Cond.code ({ cls := "com/example/same_bytes/samebytes/TextPosition", name := "line", desc := "()I" } : Jvm.MethodName) prog_112_method_4_code (1 : Nat) (Option.some Jvm.ClassFile.FieldType.int)).before args0 about1 = true := code_word (m := ⟨2, 3⟩) (meth := k2m3) (c := k2c3) (by decide +kernel) rfl rfl rfl (by decide +kernel)
set_option maxRecDepth 65536 in
theorem w_c10 : (Jvm.Cond.code ({ cls := "com/example/same_bytes/samebytes/TextPosition", name := "column", desc := "()I" } : Jvm.MethodName) prog_112_method_5_code (1 : Nat) (Option.some Jvm.ClassFile.FieldType.int)).before args0 about1 = true := code_word (m := ⟨2, 4⟩) (meth := k2m4) (c := k2c4) (by decide +kernel) rfl rfl rfl (by decide +kernel)
def codes1 : List Jvm.Cond := [Jvm.Cond.code x code maxLocals ret, Jvm.Cond.code ({ cls := "com/example/same_bytes/samebytes/TextPositionAdvancePinLaw", name := "pick", desc := "(I)C" } : Jvm.MethodName) method_2_code (2 : Nat) (Option.some Jvm.ClassFile.FieldType.char), Jvm.Cond.code ({ cls := "com/example/same_bytes/samebytes/TextPosition", name := "<init>", desc := "(II)V" } : Jvm.MethodName) prog_112_method_2_code (3 : Nat) (Option.none : Option Jvm.ClassFile.FieldType), Jvm.Cond.code ({ cls := "java/lang/Object", name := "<init>", desc := "()V" } : Jvm.MethodName) object_method_1_code (1 : Nat) (Option.none : Option Jvm.ClassFile.FieldType), Jvm.Cond.code ({ cls := "com/example/same_bytes/samebytes/TextPositionAdvancePinLaw", name := "expLine", desc := "(ICC)I" } : Jvm.MethodName) method_5_code (3 : Nat) (Option.some Jvm.ClassFile.FieldType.int), Jvm.Cond.code ({ cls := "com/example/same_bytes/samebytes/TextPositionAdvancePinLaw", name := "skips", desc := "(CC)Z" } : Jvm.MethodName) method_3_code (2 : Nat) (Option.some Jvm.ClassFile.FieldType.boolean), Jvm.Cond.code ({ cls := "com/example/same_bytes/samebytes/TextPositionAdvancePinLaw", name := "ends", desc := "(C)Z" } : Jvm.MethodName) method_4_code (1 : Nat) (Option.some Jvm.ClassFile.FieldType.boolean), Jvm.Cond.code ({ cls := "com/example/same_bytes/samebytes/TextPositionAdvancePinLaw", name := "expCol", desc := "(ICC)I" } : Jvm.MethodName) method_6_code (3 : Nat) (Option.some Jvm.ClassFile.FieldType.int), Jvm.Cond.code ({ cls := "com/example/same_bytes/samebytes/TextPosition", name := "advance", desc := "(C)V" } : Jvm.MethodName) prog_112_method_3_code (3 : Nat) (Option.none : Option Jvm.ClassFile.FieldType), Jvm.Cond.code ({ cls := "com/example/same_bytes/samebytes/TextPosition", name := "line", desc := "()I" } : Jvm.MethodName) prog_112_method_4_code (1 : Nat) (Option.some Jvm.ClassFile.FieldType.int), Jvm.Cond.code ({ cls := "com/example/same_bytes/samebytes/TextPosition", name := "column", desc := "()I" } : Jvm.MethodName) prog_112_method_5_code (1 : Nat) (Option.some Jvm.ClassFile.FieldType.int)]
set_option maxRecDepth 65536 in
theorem codes_eq : words1.filter isCode = codes1 := rfl
theorem w_codes : ∀ c ∈ words1.filter isCode, c.before args0 about1 = true := by
  rw [codes_eq]
  intro c hc
  simp only [codes1, List.mem_cons, List.not_mem_nil, or_false] at hc
  rcases hc with rfl | rfl | rfl | rfl | rfl | rfl | rfl | rfl | rfl | rfl | rfl
  · exact w_c0
  · exact w_c1
  · exact w_c2
  · exact w_c3
  · exact w_c4
  · exact w_c5
  · exact w_c6
  · exact w_c7
  · exact w_c8
  · exact w_c9
  · exact w_c10
set_option maxRecDepth 65536 in
theorem w_t1 : (words1.take 24).all (fun c => isCode c || c.before args0 about1) = true := by decide +kernel
set_option maxRecDepth 65536 in
theorem w_t2 : (words1.drop 24).all (fun c => isCode c || c.before args0 about1) = true := by decide +kernel
theorem w_tables : (allAtoms (Jvm.Cond.code x code maxLocals ret :: tables_1)).before args0 about1 = true := by
  rw [allAtoms_all]
  show words1.all (fun c => c.before args0 about1) = true
  refine all_split ?_ w_codes
  rw [← List.take_append_drop 24 words1, List.all_append, w_t1, w_t2]
  rfl
set_option maxRecDepth 65536 in
theorem w_case : (Jvm.Cond.and given_1 narrow_1).before args0 about1 = true := by decide +kernel
theorem w_applies : (headSpec (Jvm.Cond.code x code maxLocals ret :: tables_1) room_1).applies x e0.platform about1 = true :=
  (Spec.applies_iff w_frames).mpr ⟨w_running, w_runnable, w_alone, w_named, w_hears, w_ripe, w_room, w_tables⟩
theorem atStart : AtStart classFile x code maxLocals ret World_1 tables_1 room_1 Calls_1 rest_1 Pre_1 launch0 p0 e0 about1 theMethod args0 below0 :=
  ⟨lists_1, trivial, launch0.admits_env _ _ _, launch0.least_env, fairChoices_fair.cas, fairChoices_fair.clock, w_frames, w_args, w_heap, w_applies, trivial, trivial, w_case⟩
end start1
theorem witness_1 : WitnessClaimed_1 := ⟨start1.p0, start1.e0, start1.about1, start1.theMethod, start1.args0, start1.below0, start1.atStart⟩
end Jvm.Pilot.@@N@@
