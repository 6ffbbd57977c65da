import JvmDerived
import JvmDerived.Pilot.@@N@@Statement
import JvmDerived.Pilot.@@N@@Code
set_option linter.unusedVariables false
set_option linter.unusedSimpArgs false
@@BLOCK:NumsL.lean.txt@@
namespace Jvm.RoadKit
open Sem ClassFile Op Lib Jvm.Stand Jvm.Free Jvm.LawKit
section New
variable {p : Program} {l : Launch} {e : Env} {R : Room} {s : State} {m : MethodId} {args : Array Value} {below : List Frame} {meth : Method} {c : Code} {T : State} {locs : List Loc} {cells slots : Nat}
theorem retI (X : Stand p l e R s m args below meth c T locs cells slots) (hx : p.tables.exec = Jvm.exec) {pc : Nat} {Ls : Array Slot} {z : Int32} {rest : List Value} (hret : meth.sig.returnType = some .int) (hd : decode c.code pc = .ok (.ireturn, 1)) {fs : List Frame}
    (hl : ∀ (f : JFrame) (acts : List Action), f.method = m → f.locked = none → f.entered = [] → (doReturn e (T.setTop f) acts (some (.int z))).1 = T.setFrames fs) : Steps p.tables e below (T.setTop (mkF m pc Ls (.int z :: rest))) (T.setFrames fs) := by
  have hm' : T.vm.method? m = some meth := X.method'
  have hn : narrow .int (.int z) = .int z := rfl
  show Steps p.tables e below (T.setTop { method := m, pc := pc, locals := Ls, stack := _ :: rest, locked := none }) _
  jvm_step X.here [X.here.top, hx, hd, hm', hret, hn]
  first | (intro acts; rw [hl _ acts rfl rfl rfl]) | rw [hl _ _ rfl rfl rfl]
  exact Steps.refl _
theorem own_retJ (X : Stand p l e R s m args below meth c T locs cells slots) (hx : p.tables.exec = Jvm.exec) {pc : Nat} {Ls : Array Slot} {z : Int64} {rest : List Value} (hret : meth.sig.returnType = some .long) (hd : decode c.code pc = .ok (.lreturn, 1)) {fs : List Frame}
    (hl : ∀ (f : JFrame) (acts : List Action), f.method = m → f.locked = none → f.entered = [] → (doReturn e (T.setTop f) acts (some (.long z))).1 = T.setFrames fs) : Steps p.tables e below (T.setTop (mkF m pc Ls (.long z :: rest))) (T.setFrames fs) := by
  have hm' : T.vm.method? m = some meth := X.method'
  show Steps p.tables e below (T.setTop { method := m, pc := pc, locals := Ls, stack := _ :: rest, locked := none }) _
  jvm_step X.here [X.here.top, hx, hd, hm', hret, narrow]
  first | (intro acts; rw [hl _ acts rfl rfl rfl]) | rw [hl _ _ rfl rfl rfl]
  exact Steps.refl _
theorem own_retA (X : Stand p l e R s m args below meth c T locs cells slots) (hx : p.tables.exec = Jvm.exec) {pc : Nat} {Ls : Array Slot} {b : Addr} {t : FieldType} {rest : List Value} (hret : meth.sig.returnType = some t) (ht : t.isReference = true) (hb0 : b = b) (hd : decode c.code pc = .ok (.areturn, 1)) {fs : List Frame}
    (hl : ∀ (f : JFrame) (acts : List Action), f.method = m → f.locked = none → f.entered = [] → (doReturn e (T.setTop f) acts (some (.ref b))).1 = T.setFrames fs) : Steps p.tables e below (T.setTop (mkF m pc Ls (.ref b :: rest))) (T.setFrames fs) := by
  have hm' : T.vm.method? m = some meth := X.method'
  show Steps p.tables e below (T.setTop { method := m, pc := pc, locals := Ls, stack := _ :: rest, locked := none }) _
  jvm_step X.here [X.here.top, hx, hd, hm', hret, Value.isRef, ht]
  first | (intro acts; rw [hl _ acts rfl rfl rfl]) | rw [hl _ _ rfl rfl rfl]
  exact Steps.refl _
end New
/-- a walk's goal at the state A -/
def own_G (tb : Tables) (e : Env) (below : List Frame) (P : Outcome → State → Prop) (A : State) : Prop := ∃ s₂ o, Steps tb e below A s₂ ∧ s₂.status = .running ∧ Ended s₂ below o ∧ P o s₂
section Go
variable {tb : Tables} {e : Env} {below : List Frame} {P : Outcome → State → Prop} {A B : State}
theorem own_step (h : ∀ t, Steps tb e below B t → Steps tb e below A t) (k : own_G tb e below P B) : own_G tb e below P A := by
  obtain ⟨s₂, o, h1, h2⟩ := k
  exact ⟨s₂, o, h _ h1, h2⟩
theorem own_start (h : ∀ t, Steps tb e below B t → Steps tb e below A t) (k : own_G tb e below P B) : ∃ s₂ o, Steps tb e below A s₂ ∧ s₂.status = .running ∧ Ended s₂ below o ∧ P o s₂ := own_step h k
theorem own_done {s₂ : State} {o : Outcome} (h1 : Steps tb e below A s₂) (h2 : s₂.status = .running) (h3 : Ended s₂ below o) (h4 : P o s₂) : own_G tb e below P A := ⟨s₂, o, h1, h2, h3, h4⟩
theorem own_nm {α : Type} (x : α) (F : α → State) (h : ∀ v, v = x → own_G tb e below P (F v)) : own_G tb e below P (F x) := h x rfl
theorem own_gen (h : ∀ P', P' = P → own_G tb e below P' A) : own_G tb e below P A := h P rfl
theorem own_imp (h : own_G tb e below P B → own_G tb e below P A) (k : own_G tb e below P B) : own_G tb e below P A := h k
end Go

end Jvm.RoadKit
namespace Jvm.Pilot.@@N@@
open Jvm Jvm.ClassFile Sem Op Lib Jvm.Free Jvm.Stand Jvm.LawKit Jvm.RoadKit Bundle Jvm.Pilot.@@N@@.Jvm.D

theorem d2_0 : decode prog_1_method_3_code 0 = .ok (.iload_n 0, 1) := by decide +kernel
theorem d2_1 : decode prog_1_method_3_code 1 = .ok (.iload_n 1, 1) := by decide +kernel
theorem d2_2 : decode prog_1_method_3_code 2 = .ok (.sipush 255, 3) := by decide +kernel
theorem d2_5 : decode prog_1_method_3_code 5 = .ok (.iand, 1) := by decide +kernel
theorem d2_6 : decode prog_1_method_3_code 6 = .ok (.imul, 1) := by decide +kernel
theorem d2_7 : decode prog_1_method_3_code 7 = .ok (.sipush 255, 3) := by decide +kernel
theorem d2_10 : decode prog_1_method_3_code 10 = .ok (.iload_n 0, 1) := by decide +kernel
theorem d2_11 : decode prog_1_method_3_code 11 = .ok (.isub, 1) := by decide +kernel
theorem d2_12 : decode prog_1_method_3_code 12 = .ok (.iload_n 2, 1) := by decide +kernel
theorem d2_13 : decode prog_1_method_3_code 13 = .ok (.sipush 255, 3) := by decide +kernel
theorem d2_16 : decode prog_1_method_3_code 16 = .ok (.iand, 1) := by decide +kernel
theorem d2_17 : decode prog_1_method_3_code 17 = .ok (.imul, 1) := by decide +kernel
theorem d2_18 : decode prog_1_method_3_code 18 = .ok (.iadd, 1) := by decide +kernel
theorem d2_19 : decode prog_1_method_3_code 19 = .ok (.bipush 127, 2) := by decide +kernel
theorem d2_21 : decode prog_1_method_3_code 21 = .ok (.iadd, 1) := by decide +kernel
theorem d2_22 : decode prog_1_method_3_code 22 = .ok (.sipush 255, 3) := by decide +kernel
theorem d2_25 : decode prog_1_method_3_code 25 = .ok (.idiv, 1) := by decide +kernel
theorem d2_26 : decode prog_1_method_3_code 26 = .ok (.ireturn, 1) := by decide +kernel
theorem pn_2 : plainName "com/example/dirtytree/dirtytree/Argb" = true := by first | (simp [plainName, overriddenIn]; done) | decide +kernel
theorem ef_2 (m : MethodId) (p1 : Int32) (p2 : Int32) (p3 : Int32) : entryFrame m #[(.int p1), (.int p2), (.int p3)] 3 = mkF m 0 #[.val (.int p1), .val (.int p2), .val (.int p3)] [] := by first | (simp [entryFrame, mkF, argsToLocals, Value.category]; done) | rfl
def Q2 (Z : State) (p1 : Int32) (p2 : Int32) (p3 : Int32) (h0 : Heap) (n0 : Nat) (v : Option Value) (h : Heap) (L : List Loc) : Prop := v = some (.int ((((p1 * (p2 &&& (255 : Int32))) + (((255 : Int32) - p1) * (p3 &&& (255 : Int32)))) + (127 : Int32)) / (255 : Int32))) ∧ Fr n0 L ∧ h = h0
set_option maxRecDepth 65536 in
set_option maxHeartbeats 40000000 in
theorem rm2 (l : Launch) (Z : State) (a0 : Array Value) (hw : ∀ d ∈ tables_1, d.before a0 Z = true) (ws : List Jvm.Cond) (p1 : Int32) (p2 : Int32) (p3 : Int32) (h0 : Heap) (n0 : Nat) (Z0 : n0 ≤ h0.size) :
    MetFree l (⟨"com/example/dirtytree/dirtytree/Argb", "blend", "(III)I"⟩ : MethodName) (head1 (Jvm.Cond.code (⟨"com/example/dirtytree/dirtytree/Argb", "blend", "(III)I"⟩ : MethodName) prog_1_method_3_code 3 (some .int) :: ws) ({ frames := 0, cells := 0, slots := 0, locals := 0 } : Room)) (fun a U => a = #[(.int p1), (.int p2), (.int p3)] ∧ Z.Warmed39 U.vm ∧ U.heap = h0) (fun _ _ _ _ _ => True) (fun _ U o U' => ∃ v L, o = .returned v ∧ Q2 Z p1 p2 p3 h0 n0 v U'.heap L ∧ FrameEnd U o U' L ({ frames := 0, cells := 0, slots := 0, locals := 0 } : Room).cells ({ frames := 0, cells := 0, slots := 0, locals := 0 } : Room).slots) := by
  refine MetFree.of_bodySF (plainFor_of_name pn_2) hisR ?_
  intro p e s m args below meth c s₁ Bd hml0 hP hK
  obtain ⟨rfl, hZ, hh⟩ := hP
  have hx := Bd.exec
  have hby := Bd.bytes
  have hml : c.maxLocals = 3 := hml0
  have hown : s.vm.findClass "com/example/dirtytree/dirtytree/Argb" = some m.cls := findClass_of_methodNamed Bd.named
  have hnm := (name_of_methodNamed Bd.named Bd.method).1
  have X0 : Stand p l e ({ frames := 0, cells := 0, slots := 0, locals := 0 } : Room) s m #[(.int p1), (.int p2), (.int p3)] below meth c s₁ [] 0 0 := Stand.of_body Bd
  have e0 : s₁.heap = h0 := by rw [← hh, Bd.state]; rfl
  have N0 := Fr.nil n0
  refine own_start (fun t k => castTop (ef_2 m p1 p2 p3) k) ?_
  show own_G p.tables e below _ (s₁.setTop (mkF m 0 #[.val (.int p1), .val (.int p2), .val (.int p3)] []))
  refine own_step (fun t k => XS.iloadN X0.here hx rfl (hb hby d2_0) rfl k) ?_
  show own_G p.tables e below _ (s₁.setTop (mkF m 1 #[.val (.int p1), .val (.int p2), .val (.int p3)] [(.int p1)]))
  refine own_step (fun t k => XS.iloadN X0.here hx rfl (hb hby d2_1) rfl k) ?_
  show own_G p.tables e below _ (s₁.setTop (mkF m 2 #[.val (.int p1), .val (.int p2), .val (.int p3)] [(.int p2), (.int p1)]))
  refine own_step (fun t k => XS.sipush X0.here hx rfl (hb hby d2_2) k) ?_
  show own_G p.tables e below _ (s₁.setTop (mkF m 5 #[.val (.int p1), .val (.int p2), .val (.int p3)] [(.int (255 : Int32)), (.int p2), (.int p1)]))
  refine own_step (fun t k => XS.iand X0.here hx rfl (hb hby d2_5) rfl k) ?_
  show own_G p.tables e below _ (s₁.setTop (mkF m 6 #[.val (.int p1), .val (.int p2), .val (.int p3)] [(.int (p2 &&& (255 : Int32))), (.int p1)]))
  refine own_step (fun t k => XS.imul X0.here hx rfl (hb hby d2_6) rfl k) ?_
  show own_G p.tables e below _ (s₁.setTop (mkF m 7 #[.val (.int p1), .val (.int p2), .val (.int p3)] [(.int (p1 * (p2 &&& (255 : Int32))))]))
  refine own_step (fun t k => XS.sipush X0.here hx rfl (hb hby d2_7) k) ?_
  show own_G p.tables e below _ (s₁.setTop (mkF m 10 #[.val (.int p1), .val (.int p2), .val (.int p3)] [(.int (255 : Int32)), (.int (p1 * (p2 &&& (255 : Int32))))]))
  refine own_step (fun t k => XS.iloadN X0.here hx rfl (hb hby d2_10) rfl k) ?_
  show own_G p.tables e below _ (s₁.setTop (mkF m 11 #[.val (.int p1), .val (.int p2), .val (.int p3)] [(.int p1), (.int (255 : Int32)), (.int (p1 * (p2 &&& (255 : Int32))))]))
  refine own_step (fun t k => XS.isub X0.here hx rfl (hb hby d2_11) rfl k) ?_
  show own_G p.tables e below _ (s₁.setTop (mkF m 12 #[.val (.int p1), .val (.int p2), .val (.int p3)] [(.int ((255 : Int32) - p1)), (.int (p1 * (p2 &&& (255 : Int32))))]))
  refine own_step (fun t k => XS.iloadN X0.here hx rfl (hb hby d2_12) rfl k) ?_
  show own_G p.tables e below _ (s₁.setTop (mkF m 13 #[.val (.int p1), .val (.int p2), .val (.int p3)] [(.int p3), (.int ((255 : Int32) - p1)), (.int (p1 * (p2 &&& (255 : Int32))))]))
  refine own_step (fun t k => XS.sipush X0.here hx rfl (hb hby d2_13) k) ?_
  show own_G p.tables e below _ (s₁.setTop (mkF m 16 #[.val (.int p1), .val (.int p2), .val (.int p3)] [(.int (255 : Int32)), (.int p3), (.int ((255 : Int32) - p1)), (.int (p1 * (p2 &&& (255 : Int32))))]))
  refine own_step (fun t k => XS.iand X0.here hx rfl (hb hby d2_16) rfl k) ?_
  show own_G p.tables e below _ (s₁.setTop (mkF m 17 #[.val (.int p1), .val (.int p2), .val (.int p3)] [(.int (p3 &&& (255 : Int32))), (.int ((255 : Int32) - p1)), (.int (p1 * (p2 &&& (255 : Int32))))]))
  refine own_step (fun t k => XS.imul X0.here hx rfl (hb hby d2_17) rfl k) ?_
  show own_G p.tables e below _ (s₁.setTop (mkF m 18 #[.val (.int p1), .val (.int p2), .val (.int p3)] [(.int (((255 : Int32) - p1) * (p3 &&& (255 : Int32)))), (.int (p1 * (p2 &&& (255 : Int32))))]))
  refine own_step (fun t k => XS.iadd X0.here hx rfl (hb hby d2_18) rfl k) ?_
  show own_G p.tables e below _ (s₁.setTop (mkF m 19 #[.val (.int p1), .val (.int p2), .val (.int p3)] [(.int ((p1 * (p2 &&& (255 : Int32))) + (((255 : Int32) - p1) * (p3 &&& (255 : Int32)))))]))
  refine own_step (fun t k => XS.bipush X0.here hx rfl (hb hby d2_19) k) ?_
  show own_G p.tables e below _ (s₁.setTop (mkF m 21 #[.val (.int p1), .val (.int p2), .val (.int p3)] [(.int (127 : Int32)), (.int ((p1 * (p2 &&& (255 : Int32))) + (((255 : Int32) - p1) * (p3 &&& (255 : Int32)))))]))
  refine own_step (fun t k => XS.iadd X0.here hx rfl (hb hby d2_21) rfl k) ?_
  show own_G p.tables e below _ (s₁.setTop (mkF m 22 #[.val (.int p1), .val (.int p2), .val (.int p3)] [(.int (((p1 * (p2 &&& (255 : Int32))) + (((255 : Int32) - p1) * (p3 &&& (255 : Int32)))) + (127 : Int32)))]))
  refine own_step (fun t k => XS.sipush X0.here hx rfl (hb hby d2_22) k) ?_
  show own_G p.tables e below _ (s₁.setTop (mkF m 25 #[.val (.int p1), .val (.int p2), .val (.int p3)] [(.int (255 : Int32)), (.int (((p1 * (p2 &&& (255 : Int32))) + (((255 : Int32) - p1) * (p3 &&& (255 : Int32)))) + (127 : Int32)))]))
  refine own_step (fun t k => XS.idiv X0.here hx rfl (hb hby d2_25) rfl (by decide) k) ?_
  show own_G p.tables e below _ (s₁.setTop (mkF m 26 #[.val (.int p1), .val (.int p2), .val (.int p3)] [(.int ((((p1 * (p2 &&& (255 : Int32))) + (((255 : Int32) - p1) * (p3 &&& (255 : Int32)))) + (127 : Int32)) / (255 : Int32)))]))
  obtain ⟨fs, hr, hrun, hended, hW, hsame⟩ := X0.leave (v := some (.int ((((p1 * (p2 &&& (255 : Int32))) + (((255 : Int32) - p1) * (p3 &&& (255 : Int32)))) + (127 : Int32)) / (255 : Int32)))) (fun h => by rw [Bd.returns] at h; cases h)
  refine own_done (retI X0 hx Bd.returns (hb hby d2_26) hr) hrun hended ⟨_, _, rfl, ?_, ⟨_, rfl⟩, hW, hsame.mono (by decide) (by decide)⟩
  show Q2 Z p1 p2 p3 h0 n0 _ s₁.heap _
  rw [e0]
  exact ⟨congrArg (fun z => some (Value.int z)) (show ((((p1 * (p2 &&& (255 : Int32))) + (((255 : Int32) - p1) * (p3 &&& (255 : Int32)))) + (127 : Int32)) / (255 : Int32)) = ((((p1 * (p2 &&& (255 : Int32))) + (((255 : Int32) - p1) * (p3 &&& (255 : Int32)))) + (127 : Int32)) / (255 : Int32)) from rfl), N0, rfl⟩
theorem d1_0 : decode prog_1_method_2_code 0 = .ok (.iload_n 0, 1) := by decide +kernel
theorem d1_1 : decode prog_1_method_2_code 1 = .ok (.bipush 24, 2) := by decide +kernel
theorem d1_3 : decode prog_1_method_2_code 3 = .ok (.iushr, 1) := by decide +kernel
theorem d1_4 : decode prog_1_method_2_code 4 = .ok (.istore_n 2, 1) := by decide +kernel
theorem d1_5 : decode prog_1_method_2_code 5 = .ok (.iload_n 2, 1) := by decide +kernel
theorem d1_6 : decode prog_1_method_2_code 6 = .ok (.sipush 255, 3) := by decide +kernel
theorem d1_9 : decode prog_1_method_2_code 9 = .ok (.if_icmp .ne 8, 3) := by decide +kernel
theorem d1_12 : decode prog_1_method_2_code 12 = .ok (.iload_n 0, 1) := by decide +kernel
theorem d1_13 : decode prog_1_method_2_code 13 = .ok (.ldc 7, 2) := by decide +kernel
theorem d1_15 : decode prog_1_method_2_code 15 = .ok (.iand, 1) := by decide +kernel
theorem d1_16 : decode prog_1_method_2_code 16 = .ok (.ireturn, 1) := by decide +kernel
theorem d1_17 : decode prog_1_method_2_code 17 = .ok (.iload_n 2, 1) := by decide +kernel
theorem d1_18 : decode prog_1_method_2_code 18 = .ok (.iload_n 0, 1) := by decide +kernel
theorem d1_19 : decode prog_1_method_2_code 19 = .ok (.bipush 16, 2) := by decide +kernel
theorem d1_21 : decode prog_1_method_2_code 21 = .ok (.iushr, 1) := by decide +kernel
theorem d1_22 : decode prog_1_method_2_code 22 = .ok (.iload_n 1, 1) := by decide +kernel
theorem d1_23 : decode prog_1_method_2_code 23 = .ok (.bipush 16, 2) := by decide +kernel
theorem d1_25 : decode prog_1_method_2_code 25 = .ok (.iushr, 1) := by decide +kernel
theorem d1_26 : decode prog_1_method_2_code 26 = .ok (.invokestatic 8, 3) := by decide +kernel
theorem d1_29 : decode prog_1_method_2_code 29 = .ok (.bipush 16, 2) := by decide +kernel
theorem d1_31 : decode prog_1_method_2_code 31 = .ok (.ishl, 1) := by decide +kernel
theorem d1_32 : decode prog_1_method_2_code 32 = .ok (.iload_n 2, 1) := by decide +kernel
theorem d1_33 : decode prog_1_method_2_code 33 = .ok (.iload_n 0, 1) := by decide +kernel
theorem d1_34 : decode prog_1_method_2_code 34 = .ok (.bipush 8, 2) := by decide +kernel
theorem d1_36 : decode prog_1_method_2_code 36 = .ok (.iushr, 1) := by decide +kernel
theorem d1_37 : decode prog_1_method_2_code 37 = .ok (.iload_n 1, 1) := by decide +kernel
theorem d1_38 : decode prog_1_method_2_code 38 = .ok (.bipush 8, 2) := by decide +kernel
theorem d1_40 : decode prog_1_method_2_code 40 = .ok (.iushr, 1) := by decide +kernel
theorem d1_41 : decode prog_1_method_2_code 41 = .ok (.invokestatic 8, 3) := by decide +kernel
theorem d1_44 : decode prog_1_method_2_code 44 = .ok (.bipush 8, 2) := by decide +kernel
theorem d1_46 : decode prog_1_method_2_code 46 = .ok (.ishl, 1) := by decide +kernel
theorem d1_47 : decode prog_1_method_2_code 47 = .ok (.ior, 1) := by decide +kernel
theorem d1_48 : decode prog_1_method_2_code 48 = .ok (.iload_n 2, 1) := by decide +kernel
theorem d1_49 : decode prog_1_method_2_code 49 = .ok (.iload_n 0, 1) := by decide +kernel
theorem d1_50 : decode prog_1_method_2_code 50 = .ok (.iload_n 1, 1) := by decide +kernel
theorem d1_51 : decode prog_1_method_2_code 51 = .ok (.invokestatic 8, 3) := by decide +kernel
theorem d1_54 : decode prog_1_method_2_code 54 = .ok (.ior, 1) := by decide +kernel
theorem d1_55 : decode prog_1_method_2_code 55 = .ok (.ireturn, 1) := by decide +kernel
theorem pn_1 : plainName "com/example/dirtytree/dirtytree/Argb" = true := by first | (simp [plainName, overriddenIn]; done) | decide +kernel
theorem pd_1_0 : parseMethodDescriptor "(III)I" = some ⟨[.int, .int, .int], some .int⟩ := by decide +kernel
theorem ef_1 (m : MethodId) (p1 : Int32) (p2 : Int32) : entryFrame m #[(.int p1), (.int p2)] 3 = mkF m 0 #[.val (.int p1), .val (.int p2), .unset] [] := by first | (simp [entryFrame, mkF, argsToLocals, Value.category]; done) | rfl
def own_f1 (p1 : Int32) (p2 : Int32) : Int32 :=
  (if ((p1.toUInt32 >>> ((24 : Int32) &&& 31).toUInt32).toInt32) = (255 : Int32) then (p1 &&& (16777215 : Int32)) else (((((((((p1.toUInt32 >>> ((24 : Int32) &&& 31).toUInt32).toInt32) * (((p1.toUInt32 >>> ((16 : Int32) &&& 31).toUInt32).toInt32) &&& (255 : Int32))) + (((255 : Int32) - ((p1.toUInt32 >>> ((24 : Int32) &&& 31).toUInt32).toInt32)) * (((p2.toUInt32 >>> ((16 : Int32) &&& 31).toUInt32).toInt32) &&& (255 : Int32)))) + (127 : Int32)) / (255 : Int32)) <<< ((16 : Int32) &&& 31)) ||| (((((((p1.toUInt32 >>> ((24 : Int32) &&& 31).toUInt32).toInt32) * (((p1.toUInt32 >>> ((8 : Int32) &&& 31).toUInt32).toInt32) &&& (255 : Int32))) + (((255 : Int32) - ((p1.toUInt32 >>> ((24 : Int32) &&& 31).toUInt32).toInt32)) * (((p2.toUInt32 >>> ((8 : Int32) &&& 31).toUInt32).toInt32) &&& (255 : Int32)))) + (127 : Int32)) / (255 : Int32)) <<< ((8 : Int32) &&& 31))) ||| ((((((p1.toUInt32 >>> ((24 : Int32) &&& 31).toUInt32).toInt32) * (p1 &&& (255 : Int32))) + (((255 : Int32) - ((p1.toUInt32 >>> ((24 : Int32) &&& 31).toUInt32).toInt32)) * (p2 &&& (255 : Int32)))) + (127 : Int32)) / (255 : Int32))))
def Q1 (Z : State) (p1 : Int32) (p2 : Int32) (h0 : Heap) (n0 : Nat) (v : Option Value) (h : Heap) (L : List Loc) : Prop := v = some (.int (own_f1 p1 p2)) ∧ Fr n0 L ∧ h = h0
set_option maxRecDepth 65536 in
set_option maxHeartbeats 40000000 in
theorem rm1 (l : Launch) (Z : State) (a0 : Array Value) (hw : ∀ d ∈ tables_1, d.before a0 Z = true) (ws : List Jvm.Cond) (p1 : Int32) (p2 : Int32) (h0 : Heap) (n0 : Nat) (Z0 : n0 ≤ h0.size) :
    MetFree l (⟨"com/example/dirtytree/dirtytree/Argb", "over", "(II)I"⟩ : MethodName) (head1 (Jvm.Cond.code (⟨"com/example/dirtytree/dirtytree/Argb", "over", "(II)I"⟩ : MethodName) prog_1_method_2_code 3 (some .int) :: ws) ({ frames := 1, cells := 0, slots := 0, locals := 15 } : Room)) (fun a U => a = #[(.int p1), (.int p2)] ∧ Z.Warmed39 U.vm ∧ U.heap = h0) (fun _ _ _ _ _ => True) (fun _ U o U' => ∃ v L, o = .returned v ∧ Q1 Z p1 p2 h0 n0 v U'.heap L ∧ FrameEnd U o U' L ({ frames := 1, cells := 0, slots := 0, locals := 15 } : Room).cells ({ frames := 1, cells := 0, slots := 0, locals := 15 } : Room).slots) := by
  refine MetFree.of_bodySF (plainFor_of_name pn_1) hisR ?_
  intro p e s m args below meth c s₁ Bd hml0 hP hK
  obtain ⟨rfl, hZ, hh⟩ := hP
  have hx := Bd.exec
  have hby := Bd.bytes
  have hml : c.maxLocals = 3 := hml0
  have hown : s.vm.findClass "com/example/dirtytree/dirtytree/Argb" = some m.cls := findClass_of_methodNamed Bd.named
  have hnm := (name_of_methodNamed Bd.named Bd.method).1
  have X0 : Stand p l e ({ frames := 1, cells := 0, slots := 0, locals := 15 } : Room) s m #[(.int p1), (.int p2)] below meth c s₁ [] 0 0 := Stand.of_body Bd
  have e0 : s₁.heap = h0 := by rw [← hh, Bd.state]; rfl
  have N0 := Fr.nil n0
  refine own_start (fun t k => castTop (ef_1 m p1 p2) k) ?_
  show own_G p.tables e below _ (s₁.setTop (mkF m 0 #[.val (.int p1), .val (.int p2), .unset] []))
  refine own_step (fun t k => XS.iloadN X0.here hx rfl (hb hby d1_0) rfl k) ?_
  show own_G p.tables e below _ (s₁.setTop (mkF m 1 #[.val (.int p1), .val (.int p2), .unset] [(.int p1)]))
  refine own_step (fun t k => XS.bipush X0.here hx rfl (hb hby d1_1) k) ?_
  show own_G p.tables e below _ (s₁.setTop (mkF m 3 #[.val (.int p1), .val (.int p2), .unset] [(.int (24 : Int32)), (.int p1)]))
  refine own_step (fun t k => XS.iushr X0.here hx rfl (hb hby d1_3) rfl k) ?_
  show own_G p.tables e below _ (s₁.setTop (mkF m 4 #[.val (.int p1), .val (.int p2), .unset] [(.int ((p1.toUInt32 >>> ((24 : Int32) &&& 31).toUInt32).toInt32))]))
  refine own_step (fun t k => XS.istoreN X0.here hx rfl (hb hby d1_4) rfl (l' := #[.val (.int p1), .val (.int p2), .val (.int ((p1.toUInt32 >>> ((24 : Int32) &&& 31).toUInt32).toInt32))]) rfl k) ?_
  show own_G p.tables e below _ (s₁.setTop (mkF m 5 #[.val (.int p1), .val (.int p2), .val (.int ((p1.toUInt32 >>> ((24 : Int32) &&& 31).toUInt32).toInt32))] []))
  refine own_step (fun t k => XS.iloadN X0.here hx rfl (hb hby d1_5) rfl k) ?_
  show own_G p.tables e below _ (s₁.setTop (mkF m 6 #[.val (.int p1), .val (.int p2), .val (.int ((p1.toUInt32 >>> ((24 : Int32) &&& 31).toUInt32).toInt32))] [(.int ((p1.toUInt32 >>> ((24 : Int32) &&& 31).toUInt32).toInt32))]))
  refine own_step (fun t k => XS.sipush X0.here hx rfl (hb hby d1_6) k) ?_
  show own_G p.tables e below _ (s₁.setTop (mkF m 9 #[.val (.int p1), .val (.int p2), .val (.int ((p1.toUInt32 >>> ((24 : Int32) &&& 31).toUInt32).toInt32))] [(.int (255 : Int32)), (.int ((p1.toUInt32 >>> ((24 : Int32) &&& 31).toUInt32).toInt32))]))
  by_cases hc1 : ((p1.toUInt32 >>> ((24 : Int32) &&& 31).toUInt32).toInt32) = (255 : Int32)
  · skip
    refine own_step (fun t k => XS.icmpNo X0.here hx rfl (hb hby d1_9) rfl ((teq hc1).2) k) ?_
    show own_G p.tables e below _ (s₁.setTop (mkF m 12 #[.val (.int p1), .val (.int p2), .val (.int ((p1.toUInt32 >>> ((24 : Int32) &&& 31).toUInt32).toInt32))] []))
    refine own_step (fun t k => XS.iloadN X0.here hx rfl (hb hby d1_12) rfl k) ?_
    show own_G p.tables e below _ (s₁.setTop (mkF m 13 #[.val (.int p1), .val (.int p2), .val (.int ((p1.toUInt32 >>> ((24 : Int32) &&& 31).toUInt32).toInt32))] [(.int p1)]))
    refine own_step (X0.ldcInt hx hown (mvT hZ (hw _ (List.mem_of_getElem? (i := 14) rfl))) (g := (mkF m 13 #[.val (.int p1), .val (.int p2), .val (.int ((p1.toUInt32 >>> ((24 : Int32) &&& 31).toUInt32).toInt32))] [(.int p1)])) rfl (hb hby d1_13)) ?_
    show own_G p.tables e below _ (s₁.setTop (mkF m 15 #[.val (.int p1), .val (.int p2), .val (.int ((p1.toUInt32 >>> ((24 : Int32) &&& 31).toUInt32).toInt32))] [(.int (16777215 : Int32)), (.int p1)]))
    refine own_step (fun t k => XS.iand X0.here hx rfl (hb hby d1_15) rfl k) ?_
    show own_G p.tables e below _ (s₁.setTop (mkF m 16 #[.val (.int p1), .val (.int p2), .val (.int ((p1.toUInt32 >>> ((24 : Int32) &&& 31).toUInt32).toInt32))] [(.int (p1 &&& (16777215 : Int32)))]))
    obtain ⟨fs, hr, hrun, hended, hW, hsame⟩ := X0.leave (v := some (.int (p1 &&& (16777215 : Int32)))) (fun h => by rw [Bd.returns] at h; cases h)
    refine own_done (retI X0 hx Bd.returns (hb hby d1_16) hr) hrun hended ⟨_, _, rfl, ?_, ⟨_, rfl⟩, hW, hsame.mono (by decide) (by decide)⟩
    show Q1 Z p1 p2 h0 n0 _ s₁.heap _
    rw [e0]
    exact ⟨congrArg (fun z => some (Value.int z)) (show (p1 &&& (16777215 : Int32)) = (own_f1 p1 p2) from by unfold own_f1; simp only [if_pos hc1]), N0, rfl⟩
  · skip
    refine own_step (fun t k => XS.icmpYes X0.here hx rfl (pc0 := 9) (pc' := 17) rfl (hb hby d1_9) rfl ((feq hc1).2) (by decide) (by decide) k) ?_
    show own_G p.tables e below _ (s₁.setTop (mkF m 17 #[.val (.int p1), .val (.int p2), .val (.int ((p1.toUInt32 >>> ((24 : Int32) &&& 31).toUInt32).toInt32))] []))
    refine own_step (fun t k => XS.iloadN X0.here hx rfl (hb hby d1_17) rfl k) ?_
    show own_G p.tables e below _ (s₁.setTop (mkF m 18 #[.val (.int p1), .val (.int p2), .val (.int ((p1.toUInt32 >>> ((24 : Int32) &&& 31).toUInt32).toInt32))] [(.int ((p1.toUInt32 >>> ((24 : Int32) &&& 31).toUInt32).toInt32))]))
    refine own_step (fun t k => XS.iloadN X0.here hx rfl (hb hby d1_18) rfl k) ?_
    show own_G p.tables e below _ (s₁.setTop (mkF m 19 #[.val (.int p1), .val (.int p2), .val (.int ((p1.toUInt32 >>> ((24 : Int32) &&& 31).toUInt32).toInt32))] [(.int p1), (.int ((p1.toUInt32 >>> ((24 : Int32) &&& 31).toUInt32).toInt32))]))
    refine own_step (fun t k => XS.bipush X0.here hx rfl (hb hby d1_19) k) ?_
    show own_G p.tables e below _ (s₁.setTop (mkF m 21 #[.val (.int p1), .val (.int p2), .val (.int ((p1.toUInt32 >>> ((24 : Int32) &&& 31).toUInt32).toInt32))] [(.int (16 : Int32)), (.int p1), (.int ((p1.toUInt32 >>> ((24 : Int32) &&& 31).toUInt32).toInt32))]))
    refine own_step (fun t k => XS.iushr X0.here hx rfl (hb hby d1_21) rfl k) ?_
    show own_G p.tables e below _ (s₁.setTop (mkF m 22 #[.val (.int p1), .val (.int p2), .val (.int ((p1.toUInt32 >>> ((24 : Int32) &&& 31).toUInt32).toInt32))] [(.int ((p1.toUInt32 >>> ((16 : Int32) &&& 31).toUInt32).toInt32)), (.int ((p1.toUInt32 >>> ((24 : Int32) &&& 31).toUInt32).toInt32))]))
    refine own_step (fun t k => XS.iloadN X0.here hx rfl (hb hby d1_22) rfl k) ?_
    show own_G p.tables e below _ (s₁.setTop (mkF m 23 #[.val (.int p1), .val (.int p2), .val (.int ((p1.toUInt32 >>> ((24 : Int32) &&& 31).toUInt32).toInt32))] [(.int p2), (.int ((p1.toUInt32 >>> ((16 : Int32) &&& 31).toUInt32).toInt32)), (.int ((p1.toUInt32 >>> ((24 : Int32) &&& 31).toUInt32).toInt32))]))
    refine own_step (fun t k => XS.bipush X0.here hx rfl (hb hby d1_23) k) ?_
    show own_G p.tables e below _ (s₁.setTop (mkF m 25 #[.val (.int p1), .val (.int p2), .val (.int ((p1.toUInt32 >>> ((24 : Int32) &&& 31).toUInt32).toInt32))] [(.int (16 : Int32)), (.int p2), (.int ((p1.toUInt32 >>> ((16 : Int32) &&& 31).toUInt32).toInt32)), (.int ((p1.toUInt32 >>> ((24 : Int32) &&& 31).toUInt32).toInt32))]))
    refine own_step (fun t k => XS.iushr X0.here hx rfl (hb hby d1_25) rfl k) ?_
    show own_G p.tables e below _ (s₁.setTop (mkF m 26 #[.val (.int p1), .val (.int p2), .val (.int ((p1.toUInt32 >>> ((24 : Int32) &&& 31).toUInt32).toInt32))] [(.int ((p2.toUInt32 >>> ((16 : Int32) &&& 31).toUInt32).toInt32)), (.int ((p1.toUInt32 >>> ((16 : Int32) &&& 31).toUInt32).toInt32)), (.int ((p1.toUInt32 >>> ((24 : Int32) &&& 31).toUInt32).toInt32))]))
    obtain ⟨_, _, ⟨T2, L2, k2, n2⟩, -, X2, ⟨Lc2, hQ2, l2, y2, z2⟩, st2⟩ := Jvm.LawKit.callS X0 hx (y := (⟨"com/example/dirtytree/dirtytree/Argb", "blend", "(III)I"⟩ : MethodName)) hown (mvT hZ (hw _ (List.mem_of_getElem? (i := 5) rfl))) (mvT hZ (hw _ (List.mem_of_getElem? (i := 6) rfl))) (mvT hZ (hw _ (List.mem_of_getElem? (i := 3) rfl))) (mvT hZ (hw _ (List.mem_of_getElem? (i := 7) rfl))) (by decide) (backOf (W := 0) (rm2 l Z a0 hw [] ((p1.toUInt32 >>> ((24 : Int32) &&& 31).toUInt32).toInt32) ((p1.toUInt32 >>> ((16 : Int32) &&& 31).toUInt32).toInt32) ((p2.toUInt32 >>> ((16 : Int32) &&& 31).toUInt32).toInt32) h0 n0 (Nat.le_trans Z0 (Keep.refl h0 []).1) ) hZ (hw _ (List.mem_of_getElem? (i := 7) rfl)) (hw _ (List.mem_of_getElem? (i := 3) rfl)) (by decide) (by decide)) (g := (mkF m 26 #[.val (.int p1), .val (.int p2), .val (.int ((p1.toUInt32 >>> ((24 : Int32) &&& 31).toUInt32).toInt32))] [(.int ((p2.toUInt32 >>> ((16 : Int32) &&& 31).toUInt32).toInt32)), (.int ((p1.toUInt32 >>> ((16 : Int32) &&& 31).toUInt32).toInt32)), (.int ((p1.toUInt32 >>> ((24 : Int32) &&& 31).toUInt32).toInt32))])) rfl (by rw [hml]; rfl) (argsL := [(.int ((p1.toUInt32 >>> ((24 : Int32) &&& 31).toUInt32).toInt32)), (.int ((p1.toUInt32 >>> ((16 : Int32) &&& 31).toUInt32).toInt32)), (.int ((p2.toUInt32 >>> ((16 : Int32) &&& 31).toUInt32).toInt32))]) (rest := []) (lenOf pd_1_0 rfl) rfl (by show 2 * 0 + _ ≤ _; exact Nat.le_of_eq rfl) (hb hby d1_26) (fun _ _ => ⟨rfl, e0, (by decide : 0 + 0 ≤ _), (by decide : 0 + 0 ≤ _)⟩)
    dsimp only [Pt.U, Pt.locs, Pt.cells, Pt.slots] at X2 l2 y2 z2 st2 hQ2
    subst l2 y2 z2
    obtain ⟨rfl, N2q, e2⟩ := hQ2
    have N2 := Fr.app N0 N2q
    refine own_step st2 ?_
    show own_G p.tables e below _ (T2.setTop (mkF m 29 #[.val (.int p1), .val (.int p2), .val (.int ((p1.toUInt32 >>> ((24 : Int32) &&& 31).toUInt32).toInt32))] [(.int ((((((p1.toUInt32 >>> ((24 : Int32) &&& 31).toUInt32).toInt32) * (((p1.toUInt32 >>> ((16 : Int32) &&& 31).toUInt32).toInt32) &&& (255 : Int32))) + (((255 : Int32) - ((p1.toUInt32 >>> ((24 : Int32) &&& 31).toUInt32).toInt32)) * (((p2.toUInt32 >>> ((16 : Int32) &&& 31).toUInt32).toInt32) &&& (255 : Int32)))) + (127 : Int32)) / (255 : Int32)))]))
    refine own_step (fun t k => XS.bipush X2.here hx rfl (hb hby d1_29) k) ?_
    show own_G p.tables e below _ (T2.setTop (mkF m 31 #[.val (.int p1), .val (.int p2), .val (.int ((p1.toUInt32 >>> ((24 : Int32) &&& 31).toUInt32).toInt32))] [(.int (16 : Int32)), (.int ((((((p1.toUInt32 >>> ((24 : Int32) &&& 31).toUInt32).toInt32) * (((p1.toUInt32 >>> ((16 : Int32) &&& 31).toUInt32).toInt32) &&& (255 : Int32))) + (((255 : Int32) - ((p1.toUInt32 >>> ((24 : Int32) &&& 31).toUInt32).toInt32)) * (((p2.toUInt32 >>> ((16 : Int32) &&& 31).toUInt32).toInt32) &&& (255 : Int32)))) + (127 : Int32)) / (255 : Int32)))]))
    refine own_step (fun t k => XS.ishl X2.here hx rfl (hb hby d1_31) rfl k) ?_
    show own_G p.tables e below _ (T2.setTop (mkF m 32 #[.val (.int p1), .val (.int p2), .val (.int ((p1.toUInt32 >>> ((24 : Int32) &&& 31).toUInt32).toInt32))] [(.int (((((((p1.toUInt32 >>> ((24 : Int32) &&& 31).toUInt32).toInt32) * (((p1.toUInt32 >>> ((16 : Int32) &&& 31).toUInt32).toInt32) &&& (255 : Int32))) + (((255 : Int32) - ((p1.toUInt32 >>> ((24 : Int32) &&& 31).toUInt32).toInt32)) * (((p2.toUInt32 >>> ((16 : Int32) &&& 31).toUInt32).toInt32) &&& (255 : Int32)))) + (127 : Int32)) / (255 : Int32)) <<< ((16 : Int32) &&& 31)))]))
    refine own_step (fun t k => XS.iloadN X2.here hx rfl (hb hby d1_32) rfl k) ?_
    show own_G p.tables e below _ (T2.setTop (mkF m 33 #[.val (.int p1), .val (.int p2), .val (.int ((p1.toUInt32 >>> ((24 : Int32) &&& 31).toUInt32).toInt32))] [(.int ((p1.toUInt32 >>> ((24 : Int32) &&& 31).toUInt32).toInt32)), (.int (((((((p1.toUInt32 >>> ((24 : Int32) &&& 31).toUInt32).toInt32) * (((p1.toUInt32 >>> ((16 : Int32) &&& 31).toUInt32).toInt32) &&& (255 : Int32))) + (((255 : Int32) - ((p1.toUInt32 >>> ((24 : Int32) &&& 31).toUInt32).toInt32)) * (((p2.toUInt32 >>> ((16 : Int32) &&& 31).toUInt32).toInt32) &&& (255 : Int32)))) + (127 : Int32)) / (255 : Int32)) <<< ((16 : Int32) &&& 31)))]))
    refine own_step (fun t k => XS.iloadN X2.here hx rfl (hb hby d1_33) rfl k) ?_
    show own_G p.tables e below _ (T2.setTop (mkF m 34 #[.val (.int p1), .val (.int p2), .val (.int ((p1.toUInt32 >>> ((24 : Int32) &&& 31).toUInt32).toInt32))] [(.int p1), (.int ((p1.toUInt32 >>> ((24 : Int32) &&& 31).toUInt32).toInt32)), (.int (((((((p1.toUInt32 >>> ((24 : Int32) &&& 31).toUInt32).toInt32) * (((p1.toUInt32 >>> ((16 : Int32) &&& 31).toUInt32).toInt32) &&& (255 : Int32))) + (((255 : Int32) - ((p1.toUInt32 >>> ((24 : Int32) &&& 31).toUInt32).toInt32)) * (((p2.toUInt32 >>> ((16 : Int32) &&& 31).toUInt32).toInt32) &&& (255 : Int32)))) + (127 : Int32)) / (255 : Int32)) <<< ((16 : Int32) &&& 31)))]))
    refine own_step (fun t k => XS.bipush X2.here hx rfl (hb hby d1_34) k) ?_
    show own_G p.tables e below _ (T2.setTop (mkF m 36 #[.val (.int p1), .val (.int p2), .val (.int ((p1.toUInt32 >>> ((24 : Int32) &&& 31).toUInt32).toInt32))] [(.int (8 : Int32)), (.int p1), (.int ((p1.toUInt32 >>> ((24 : Int32) &&& 31).toUInt32).toInt32)), (.int (((((((p1.toUInt32 >>> ((24 : Int32) &&& 31).toUInt32).toInt32) * (((p1.toUInt32 >>> ((16 : Int32) &&& 31).toUInt32).toInt32) &&& (255 : Int32))) + (((255 : Int32) - ((p1.toUInt32 >>> ((24 : Int32) &&& 31).toUInt32).toInt32)) * (((p2.toUInt32 >>> ((16 : Int32) &&& 31).toUInt32).toInt32) &&& (255 : Int32)))) + (127 : Int32)) / (255 : Int32)) <<< ((16 : Int32) &&& 31)))]))
    refine own_step (fun t k => XS.iushr X2.here hx rfl (hb hby d1_36) rfl k) ?_
    show own_G p.tables e below _ (T2.setTop (mkF m 37 #[.val (.int p1), .val (.int p2), .val (.int ((p1.toUInt32 >>> ((24 : Int32) &&& 31).toUInt32).toInt32))] [(.int ((p1.toUInt32 >>> ((8 : Int32) &&& 31).toUInt32).toInt32)), (.int ((p1.toUInt32 >>> ((24 : Int32) &&& 31).toUInt32).toInt32)), (.int (((((((p1.toUInt32 >>> ((24 : Int32) &&& 31).toUInt32).toInt32) * (((p1.toUInt32 >>> ((16 : Int32) &&& 31).toUInt32).toInt32) &&& (255 : Int32))) + (((255 : Int32) - ((p1.toUInt32 >>> ((24 : Int32) &&& 31).toUInt32).toInt32)) * (((p2.toUInt32 >>> ((16 : Int32) &&& 31).toUInt32).toInt32) &&& (255 : Int32)))) + (127 : Int32)) / (255 : Int32)) <<< ((16 : Int32) &&& 31)))]))
    refine own_step (fun t k => XS.iloadN X2.here hx rfl (hb hby d1_37) rfl k) ?_
    show own_G p.tables e below _ (T2.setTop (mkF m 38 #[.val (.int p1), .val (.int p2), .val (.int ((p1.toUInt32 >>> ((24 : Int32) &&& 31).toUInt32).toInt32))] [(.int p2), (.int ((p1.toUInt32 >>> ((8 : Int32) &&& 31).toUInt32).toInt32)), (.int ((p1.toUInt32 >>> ((24 : Int32) &&& 31).toUInt32).toInt32)), (.int (((((((p1.toUInt32 >>> ((24 : Int32) &&& 31).toUInt32).toInt32) * (((p1.toUInt32 >>> ((16 : Int32) &&& 31).toUInt32).toInt32) &&& (255 : Int32))) + (((255 : Int32) - ((p1.toUInt32 >>> ((24 : Int32) &&& 31).toUInt32).toInt32)) * (((p2.toUInt32 >>> ((16 : Int32) &&& 31).toUInt32).toInt32) &&& (255 : Int32)))) + (127 : Int32)) / (255 : Int32)) <<< ((16 : Int32) &&& 31)))]))
    refine own_step (fun t k => XS.bipush X2.here hx rfl (hb hby d1_38) k) ?_
    show own_G p.tables e below _ (T2.setTop (mkF m 40 #[.val (.int p1), .val (.int p2), .val (.int ((p1.toUInt32 >>> ((24 : Int32) &&& 31).toUInt32).toInt32))] [(.int (8 : Int32)), (.int p2), (.int ((p1.toUInt32 >>> ((8 : Int32) &&& 31).toUInt32).toInt32)), (.int ((p1.toUInt32 >>> ((24 : Int32) &&& 31).toUInt32).toInt32)), (.int (((((((p1.toUInt32 >>> ((24 : Int32) &&& 31).toUInt32).toInt32) * (((p1.toUInt32 >>> ((16 : Int32) &&& 31).toUInt32).toInt32) &&& (255 : Int32))) + (((255 : Int32) - ((p1.toUInt32 >>> ((24 : Int32) &&& 31).toUInt32).toInt32)) * (((p2.toUInt32 >>> ((16 : Int32) &&& 31).toUInt32).toInt32) &&& (255 : Int32)))) + (127 : Int32)) / (255 : Int32)) <<< ((16 : Int32) &&& 31)))]))
    refine own_step (fun t k => XS.iushr X2.here hx rfl (hb hby d1_40) rfl k) ?_
    show own_G p.tables e below _ (T2.setTop (mkF m 41 #[.val (.int p1), .val (.int p2), .val (.int ((p1.toUInt32 >>> ((24 : Int32) &&& 31).toUInt32).toInt32))] [(.int ((p2.toUInt32 >>> ((8 : Int32) &&& 31).toUInt32).toInt32)), (.int ((p1.toUInt32 >>> ((8 : Int32) &&& 31).toUInt32).toInt32)), (.int ((p1.toUInt32 >>> ((24 : Int32) &&& 31).toUInt32).toInt32)), (.int (((((((p1.toUInt32 >>> ((24 : Int32) &&& 31).toUInt32).toInt32) * (((p1.toUInt32 >>> ((16 : Int32) &&& 31).toUInt32).toInt32) &&& (255 : Int32))) + (((255 : Int32) - ((p1.toUInt32 >>> ((24 : Int32) &&& 31).toUInt32).toInt32)) * (((p2.toUInt32 >>> ((16 : Int32) &&& 31).toUInt32).toInt32) &&& (255 : Int32)))) + (127 : Int32)) / (255 : Int32)) <<< ((16 : Int32) &&& 31)))]))
    obtain ⟨_, _, ⟨T3, L3, k3, n3⟩, -, X3, ⟨Lc3, hQ3, l3, y3, z3⟩, st3⟩ := Jvm.LawKit.callS X2 hx (y := (⟨"com/example/dirtytree/dirtytree/Argb", "blend", "(III)I"⟩ : MethodName)) hown (mvT hZ (hw _ (List.mem_of_getElem? (i := 5) rfl))) (mvT hZ (hw _ (List.mem_of_getElem? (i := 6) rfl))) (mvT hZ (hw _ (List.mem_of_getElem? (i := 3) rfl))) (mvT hZ (hw _ (List.mem_of_getElem? (i := 7) rfl))) (by decide) (backOf (W := 1) (rm2 l Z a0 hw [] ((p1.toUInt32 >>> ((24 : Int32) &&& 31).toUInt32).toInt32) ((p1.toUInt32 >>> ((8 : Int32) &&& 31).toUInt32).toInt32) ((p2.toUInt32 >>> ((8 : Int32) &&& 31).toUInt32).toInt32) h0 n0 (Nat.le_trans Z0 (Keep.refl h0 []).1) ) hZ (hw _ (List.mem_of_getElem? (i := 7) rfl)) (hw _ (List.mem_of_getElem? (i := 3) rfl)) (by decide) (by decide)) (g := (mkF m 41 #[.val (.int p1), .val (.int p2), .val (.int ((p1.toUInt32 >>> ((24 : Int32) &&& 31).toUInt32).toInt32))] [(.int ((p2.toUInt32 >>> ((8 : Int32) &&& 31).toUInt32).toInt32)), (.int ((p1.toUInt32 >>> ((8 : Int32) &&& 31).toUInt32).toInt32)), (.int ((p1.toUInt32 >>> ((24 : Int32) &&& 31).toUInt32).toInt32)), (.int (((((((p1.toUInt32 >>> ((24 : Int32) &&& 31).toUInt32).toInt32) * (((p1.toUInt32 >>> ((16 : Int32) &&& 31).toUInt32).toInt32) &&& (255 : Int32))) + (((255 : Int32) - ((p1.toUInt32 >>> ((24 : Int32) &&& 31).toUInt32).toInt32)) * (((p2.toUInt32 >>> ((16 : Int32) &&& 31).toUInt32).toInt32) &&& (255 : Int32)))) + (127 : Int32)) / (255 : Int32)) <<< ((16 : Int32) &&& 31)))])) rfl (by rw [hml]; rfl) (argsL := [(.int ((p1.toUInt32 >>> ((24 : Int32) &&& 31).toUInt32).toInt32)), (.int ((p1.toUInt32 >>> ((8 : Int32) &&& 31).toUInt32).toInt32)), (.int ((p2.toUInt32 >>> ((8 : Int32) &&& 31).toUInt32).toInt32))]) (rest := [(.int (((((((p1.toUInt32 >>> ((24 : Int32) &&& 31).toUInt32).toInt32) * (((p1.toUInt32 >>> ((16 : Int32) &&& 31).toUInt32).toInt32) &&& (255 : Int32))) + (((255 : Int32) - ((p1.toUInt32 >>> ((24 : Int32) &&& 31).toUInt32).toInt32)) * (((p2.toUInt32 >>> ((16 : Int32) &&& 31).toUInt32).toInt32) &&& (255 : Int32)))) + (127 : Int32)) / (255 : Int32)) <<< ((16 : Int32) &&& 31)))]) (lenOf pd_1_0 rfl) rfl (by show 2 * 0 + _ ≤ _; exact Nat.le_of_eq rfl) (hb hby d1_41) (fun _ _ => ⟨rfl, e2, (by decide : 0 + 0 ≤ _), (by decide : 0 + 0 ≤ _)⟩)
    dsimp only [Pt.U, Pt.locs, Pt.cells, Pt.slots] at X3 l3 y3 z3 st3 hQ3
    subst l3 y3 z3
    obtain ⟨rfl, N3q, e3⟩ := hQ3
    have N3 := Fr.app N2 N3q
    refine own_step st3 ?_
    show own_G p.tables e below _ (T3.setTop (mkF m 44 #[.val (.int p1), .val (.int p2), .val (.int ((p1.toUInt32 >>> ((24 : Int32) &&& 31).toUInt32).toInt32))] [(.int ((((((p1.toUInt32 >>> ((24 : Int32) &&& 31).toUInt32).toInt32) * (((p1.toUInt32 >>> ((8 : Int32) &&& 31).toUInt32).toInt32) &&& (255 : Int32))) + (((255 : Int32) - ((p1.toUInt32 >>> ((24 : Int32) &&& 31).toUInt32).toInt32)) * (((p2.toUInt32 >>> ((8 : Int32) &&& 31).toUInt32).toInt32) &&& (255 : Int32)))) + (127 : Int32)) / (255 : Int32))), (.int (((((((p1.toUInt32 >>> ((24 : Int32) &&& 31).toUInt32).toInt32) * (((p1.toUInt32 >>> ((16 : Int32) &&& 31).toUInt32).toInt32) &&& (255 : Int32))) + (((255 : Int32) - ((p1.toUInt32 >>> ((24 : Int32) &&& 31).toUInt32).toInt32)) * (((p2.toUInt32 >>> ((16 : Int32) &&& 31).toUInt32).toInt32) &&& (255 : Int32)))) + (127 : Int32)) / (255 : Int32)) <<< ((16 : Int32) &&& 31)))]))
    refine own_step (fun t k => XS.bipush X3.here hx rfl (hb hby d1_44) k) ?_
    show own_G p.tables e below _ (T3.setTop (mkF m 46 #[.val (.int p1), .val (.int p2), .val (.int ((p1.toUInt32 >>> ((24 : Int32) &&& 31).toUInt32).toInt32))] [(.int (8 : Int32)), (.int ((((((p1.toUInt32 >>> ((24 : Int32) &&& 31).toUInt32).toInt32) * (((p1.toUInt32 >>> ((8 : Int32) &&& 31).toUInt32).toInt32) &&& (255 : Int32))) + (((255 : Int32) - ((p1.toUInt32 >>> ((24 : Int32) &&& 31).toUInt32).toInt32)) * (((p2.toUInt32 >>> ((8 : Int32) &&& 31).toUInt32).toInt32) &&& (255 : Int32)))) + (127 : Int32)) / (255 : Int32))), (.int (((((((p1.toUInt32 >>> ((24 : Int32) &&& 31).toUInt32).toInt32) * (((p1.toUInt32 >>> ((16 : Int32) &&& 31).toUInt32).toInt32) &&& (255 : Int32))) + (((255 : Int32) - ((p1.toUInt32 >>> ((24 : Int32) &&& 31).toUInt32).toInt32)) * (((p2.toUInt32 >>> ((16 : Int32) &&& 31).toUInt32).toInt32) &&& (255 : Int32)))) + (127 : Int32)) / (255 : Int32)) <<< ((16 : Int32) &&& 31)))]))
    refine own_step (fun t k => XS.ishl X3.here hx rfl (hb hby d1_46) rfl k) ?_
    show own_G p.tables e below _ (T3.setTop (mkF m 47 #[.val (.int p1), .val (.int p2), .val (.int ((p1.toUInt32 >>> ((24 : Int32) &&& 31).toUInt32).toInt32))] [(.int (((((((p1.toUInt32 >>> ((24 : Int32) &&& 31).toUInt32).toInt32) * (((p1.toUInt32 >>> ((8 : Int32) &&& 31).toUInt32).toInt32) &&& (255 : Int32))) + (((255 : Int32) - ((p1.toUInt32 >>> ((24 : Int32) &&& 31).toUInt32).toInt32)) * (((p2.toUInt32 >>> ((8 : Int32) &&& 31).toUInt32).toInt32) &&& (255 : Int32)))) + (127 : Int32)) / (255 : Int32)) <<< ((8 : Int32) &&& 31))), (.int (((((((p1.toUInt32 >>> ((24 : Int32) &&& 31).toUInt32).toInt32) * (((p1.toUInt32 >>> ((16 : Int32) &&& 31).toUInt32).toInt32) &&& (255 : Int32))) + (((255 : Int32) - ((p1.toUInt32 >>> ((24 : Int32) &&& 31).toUInt32).toInt32)) * (((p2.toUInt32 >>> ((16 : Int32) &&& 31).toUInt32).toInt32) &&& (255 : Int32)))) + (127 : Int32)) / (255 : Int32)) <<< ((16 : Int32) &&& 31)))]))
    refine own_step (fun t k => XS.ior X3.here hx rfl (hb hby d1_47) rfl k) ?_
    show own_G p.tables e below _ (T3.setTop (mkF m 48 #[.val (.int p1), .val (.int p2), .val (.int ((p1.toUInt32 >>> ((24 : Int32) &&& 31).toUInt32).toInt32))] [(.int ((((((((p1.toUInt32 >>> ((24 : Int32) &&& 31).toUInt32).toInt32) * (((p1.toUInt32 >>> ((16 : Int32) &&& 31).toUInt32).toInt32) &&& (255 : Int32))) + (((255 : Int32) - ((p1.toUInt32 >>> ((24 : Int32) &&& 31).toUInt32).toInt32)) * (((p2.toUInt32 >>> ((16 : Int32) &&& 31).toUInt32).toInt32) &&& (255 : Int32)))) + (127 : Int32)) / (255 : Int32)) <<< ((16 : Int32) &&& 31)) ||| (((((((p1.toUInt32 >>> ((24 : Int32) &&& 31).toUInt32).toInt32) * (((p1.toUInt32 >>> ((8 : Int32) &&& 31).toUInt32).toInt32) &&& (255 : Int32))) + (((255 : Int32) - ((p1.toUInt32 >>> ((24 : Int32) &&& 31).toUInt32).toInt32)) * (((p2.toUInt32 >>> ((8 : Int32) &&& 31).toUInt32).toInt32) &&& (255 : Int32)))) + (127 : Int32)) / (255 : Int32)) <<< ((8 : Int32) &&& 31))))]))
    refine own_step (fun t k => XS.iloadN X3.here hx rfl (hb hby d1_48) rfl k) ?_
    show own_G p.tables e below _ (T3.setTop (mkF m 49 #[.val (.int p1), .val (.int p2), .val (.int ((p1.toUInt32 >>> ((24 : Int32) &&& 31).toUInt32).toInt32))] [(.int ((p1.toUInt32 >>> ((24 : Int32) &&& 31).toUInt32).toInt32)), (.int ((((((((p1.toUInt32 >>> ((24 : Int32) &&& 31).toUInt32).toInt32) * (((p1.toUInt32 >>> ((16 : Int32) &&& 31).toUInt32).toInt32) &&& (255 : Int32))) + (((255 : Int32) - ((p1.toUInt32 >>> ((24 : Int32) &&& 31).toUInt32).toInt32)) * (((p2.toUInt32 >>> ((16 : Int32) &&& 31).toUInt32).toInt32) &&& (255 : Int32)))) + (127 : Int32)) / (255 : Int32)) <<< ((16 : Int32) &&& 31)) ||| (((((((p1.toUInt32 >>> ((24 : Int32) &&& 31).toUInt32).toInt32) * (((p1.toUInt32 >>> ((8 : Int32) &&& 31).toUInt32).toInt32) &&& (255 : Int32))) + (((255 : Int32) - ((p1.toUInt32 >>> ((24 : Int32) &&& 31).toUInt32).toInt32)) * (((p2.toUInt32 >>> ((8 : Int32) &&& 31).toUInt32).toInt32) &&& (255 : Int32)))) + (127 : Int32)) / (255 : Int32)) <<< ((8 : Int32) &&& 31))))]))
    refine own_step (fun t k => XS.iloadN X3.here hx rfl (hb hby d1_49) rfl k) ?_
    show own_G p.tables e below _ (T3.setTop (mkF m 50 #[.val (.int p1), .val (.int p2), .val (.int ((p1.toUInt32 >>> ((24 : Int32) &&& 31).toUInt32).toInt32))] [(.int p1), (.int ((p1.toUInt32 >>> ((24 : Int32) &&& 31).toUInt32).toInt32)), (.int ((((((((p1.toUInt32 >>> ((24 : Int32) &&& 31).toUInt32).toInt32) * (((p1.toUInt32 >>> ((16 : Int32) &&& 31).toUInt32).toInt32) &&& (255 : Int32))) + (((255 : Int32) - ((p1.toUInt32 >>> ((24 : Int32) &&& 31).toUInt32).toInt32)) * (((p2.toUInt32 >>> ((16 : Int32) &&& 31).toUInt32).toInt32) &&& (255 : Int32)))) + (127 : Int32)) / (255 : Int32)) <<< ((16 : Int32) &&& 31)) ||| (((((((p1.toUInt32 >>> ((24 : Int32) &&& 31).toUInt32).toInt32) * (((p1.toUInt32 >>> ((8 : Int32) &&& 31).toUInt32).toInt32) &&& (255 : Int32))) + (((255 : Int32) - ((p1.toUInt32 >>> ((24 : Int32) &&& 31).toUInt32).toInt32)) * (((p2.toUInt32 >>> ((8 : Int32) &&& 31).toUInt32).toInt32) &&& (255 : Int32)))) + (127 : Int32)) / (255 : Int32)) <<< ((8 : Int32) &&& 31))))]))
    refine own_step (fun t k => XS.iloadN X3.here hx rfl (hb hby d1_50) rfl k) ?_
    show own_G p.tables e below _ (T3.setTop (mkF m 51 #[.val (.int p1), .val (.int p2), .val (.int ((p1.toUInt32 >>> ((24 : Int32) &&& 31).toUInt32).toInt32))] [(.int p2), (.int p1), (.int ((p1.toUInt32 >>> ((24 : Int32) &&& 31).toUInt32).toInt32)), (.int ((((((((p1.toUInt32 >>> ((24 : Int32) &&& 31).toUInt32).toInt32) * (((p1.toUInt32 >>> ((16 : Int32) &&& 31).toUInt32).toInt32) &&& (255 : Int32))) + (((255 : Int32) - ((p1.toUInt32 >>> ((24 : Int32) &&& 31).toUInt32).toInt32)) * (((p2.toUInt32 >>> ((16 : Int32) &&& 31).toUInt32).toInt32) &&& (255 : Int32)))) + (127 : Int32)) / (255 : Int32)) <<< ((16 : Int32) &&& 31)) ||| (((((((p1.toUInt32 >>> ((24 : Int32) &&& 31).toUInt32).toInt32) * (((p1.toUInt32 >>> ((8 : Int32) &&& 31).toUInt32).toInt32) &&& (255 : Int32))) + (((255 : Int32) - ((p1.toUInt32 >>> ((24 : Int32) &&& 31).toUInt32).toInt32)) * (((p2.toUInt32 >>> ((8 : Int32) &&& 31).toUInt32).toInt32) &&& (255 : Int32)))) + (127 : Int32)) / (255 : Int32)) <<< ((8 : Int32) &&& 31))))]))
    obtain ⟨_, _, ⟨T4, L4, k4, n4⟩, -, X4, ⟨Lc4, hQ4, l4, y4, z4⟩, st4⟩ := Jvm.LawKit.callS X3 hx (y := (⟨"com/example/dirtytree/dirtytree/Argb", "blend", "(III)I"⟩ : MethodName)) hown (mvT hZ (hw _ (List.mem_of_getElem? (i := 5) rfl))) (mvT hZ (hw _ (List.mem_of_getElem? (i := 6) rfl))) (mvT hZ (hw _ (List.mem_of_getElem? (i := 3) rfl))) (mvT hZ (hw _ (List.mem_of_getElem? (i := 7) rfl))) (by decide) (backOf (W := 1) (rm2 l Z a0 hw [] ((p1.toUInt32 >>> ((24 : Int32) &&& 31).toUInt32).toInt32) p1 p2 h0 n0 (Nat.le_trans Z0 (Keep.refl h0 []).1) ) hZ (hw _ (List.mem_of_getElem? (i := 7) rfl)) (hw _ (List.mem_of_getElem? (i := 3) rfl)) (by decide) (by decide)) (g := (mkF m 51 #[.val (.int p1), .val (.int p2), .val (.int ((p1.toUInt32 >>> ((24 : Int32) &&& 31).toUInt32).toInt32))] [(.int p2), (.int p1), (.int ((p1.toUInt32 >>> ((24 : Int32) &&& 31).toUInt32).toInt32)), (.int ((((((((p1.toUInt32 >>> ((24 : Int32) &&& 31).toUInt32).toInt32) * (((p1.toUInt32 >>> ((16 : Int32) &&& 31).toUInt32).toInt32) &&& (255 : Int32))) + (((255 : Int32) - ((p1.toUInt32 >>> ((24 : Int32) &&& 31).toUInt32).toInt32)) * (((p2.toUInt32 >>> ((16 : Int32) &&& 31).toUInt32).toInt32) &&& (255 : Int32)))) + (127 : Int32)) / (255 : Int32)) <<< ((16 : Int32) &&& 31)) ||| (((((((p1.toUInt32 >>> ((24 : Int32) &&& 31).toUInt32).toInt32) * (((p1.toUInt32 >>> ((8 : Int32) &&& 31).toUInt32).toInt32) &&& (255 : Int32))) + (((255 : Int32) - ((p1.toUInt32 >>> ((24 : Int32) &&& 31).toUInt32).toInt32)) * (((p2.toUInt32 >>> ((8 : Int32) &&& 31).toUInt32).toInt32) &&& (255 : Int32)))) + (127 : Int32)) / (255 : Int32)) <<< ((8 : Int32) &&& 31))))])) rfl (by rw [hml]; rfl) (argsL := [(.int ((p1.toUInt32 >>> ((24 : Int32) &&& 31).toUInt32).toInt32)), (.int p1), (.int p2)]) (rest := [(.int ((((((((p1.toUInt32 >>> ((24 : Int32) &&& 31).toUInt32).toInt32) * (((p1.toUInt32 >>> ((16 : Int32) &&& 31).toUInt32).toInt32) &&& (255 : Int32))) + (((255 : Int32) - ((p1.toUInt32 >>> ((24 : Int32) &&& 31).toUInt32).toInt32)) * (((p2.toUInt32 >>> ((16 : Int32) &&& 31).toUInt32).toInt32) &&& (255 : Int32)))) + (127 : Int32)) / (255 : Int32)) <<< ((16 : Int32) &&& 31)) ||| (((((((p1.toUInt32 >>> ((24 : Int32) &&& 31).toUInt32).toInt32) * (((p1.toUInt32 >>> ((8 : Int32) &&& 31).toUInt32).toInt32) &&& (255 : Int32))) + (((255 : Int32) - ((p1.toUInt32 >>> ((24 : Int32) &&& 31).toUInt32).toInt32)) * (((p2.toUInt32 >>> ((8 : Int32) &&& 31).toUInt32).toInt32) &&& (255 : Int32)))) + (127 : Int32)) / (255 : Int32)) <<< ((8 : Int32) &&& 31))))]) (lenOf pd_1_0 rfl) rfl (by show 2 * 0 + _ ≤ _; exact Nat.le_of_eq rfl) (hb hby d1_51) (fun _ _ => ⟨rfl, e3, (by decide : 0 + 0 ≤ _), (by decide : 0 + 0 ≤ _)⟩)
    dsimp only [Pt.U, Pt.locs, Pt.cells, Pt.slots] at X4 l4 y4 z4 st4 hQ4
    subst l4 y4 z4
    obtain ⟨rfl, N4q, e4⟩ := hQ4
    have N4 := Fr.app N3 N4q
    refine own_step st4 ?_
    show own_G p.tables e below _ (T4.setTop (mkF m 54 #[.val (.int p1), .val (.int p2), .val (.int ((p1.toUInt32 >>> ((24 : Int32) &&& 31).toUInt32).toInt32))] [(.int ((((((p1.toUInt32 >>> ((24 : Int32) &&& 31).toUInt32).toInt32) * (p1 &&& (255 : Int32))) + (((255 : Int32) - ((p1.toUInt32 >>> ((24 : Int32) &&& 31).toUInt32).toInt32)) * (p2 &&& (255 : Int32)))) + (127 : Int32)) / (255 : Int32))), (.int ((((((((p1.toUInt32 >>> ((24 : Int32) &&& 31).toUInt32).toInt32) * (((p1.toUInt32 >>> ((16 : Int32) &&& 31).toUInt32).toInt32) &&& (255 : Int32))) + (((255 : Int32) - ((p1.toUInt32 >>> ((24 : Int32) &&& 31).toUInt32).toInt32)) * (((p2.toUInt32 >>> ((16 : Int32) &&& 31).toUInt32).toInt32) &&& (255 : Int32)))) + (127 : Int32)) / (255 : Int32)) <<< ((16 : Int32) &&& 31)) ||| (((((((p1.toUInt32 >>> ((24 : Int32) &&& 31).toUInt32).toInt32) * (((p1.toUInt32 >>> ((8 : Int32) &&& 31).toUInt32).toInt32) &&& (255 : Int32))) + (((255 : Int32) - ((p1.toUInt32 >>> ((24 : Int32) &&& 31).toUInt32).toInt32)) * (((p2.toUInt32 >>> ((8 : Int32) &&& 31).toUInt32).toInt32) &&& (255 : Int32)))) + (127 : Int32)) / (255 : Int32)) <<< ((8 : Int32) &&& 31))))]))
    refine own_step (fun t k => XS.ior X4.here hx rfl (hb hby d1_54) rfl k) ?_
    show own_G p.tables e below _ (T4.setTop (mkF m 55 #[.val (.int p1), .val (.int p2), .val (.int ((p1.toUInt32 >>> ((24 : Int32) &&& 31).toUInt32).toInt32))] [(.int (((((((((p1.toUInt32 >>> ((24 : Int32) &&& 31).toUInt32).toInt32) * (((p1.toUInt32 >>> ((16 : Int32) &&& 31).toUInt32).toInt32) &&& (255 : Int32))) + (((255 : Int32) - ((p1.toUInt32 >>> ((24 : Int32) &&& 31).toUInt32).toInt32)) * (((p2.toUInt32 >>> ((16 : Int32) &&& 31).toUInt32).toInt32) &&& (255 : Int32)))) + (127 : Int32)) / (255 : Int32)) <<< ((16 : Int32) &&& 31)) ||| (((((((p1.toUInt32 >>> ((24 : Int32) &&& 31).toUInt32).toInt32) * (((p1.toUInt32 >>> ((8 : Int32) &&& 31).toUInt32).toInt32) &&& (255 : Int32))) + (((255 : Int32) - ((p1.toUInt32 >>> ((24 : Int32) &&& 31).toUInt32).toInt32)) * (((p2.toUInt32 >>> ((8 : Int32) &&& 31).toUInt32).toInt32) &&& (255 : Int32)))) + (127 : Int32)) / (255 : Int32)) <<< ((8 : Int32) &&& 31))) ||| ((((((p1.toUInt32 >>> ((24 : Int32) &&& 31).toUInt32).toInt32) * (p1 &&& (255 : Int32))) + (((255 : Int32) - ((p1.toUInt32 >>> ((24 : Int32) &&& 31).toUInt32).toInt32)) * (p2 &&& (255 : Int32)))) + (127 : Int32)) / (255 : Int32))))]))
    obtain ⟨fs, hr, hrun, hended, hW, hsame⟩ := X4.leave (v := some (.int (((((((((p1.toUInt32 >>> ((24 : Int32) &&& 31).toUInt32).toInt32) * (((p1.toUInt32 >>> ((16 : Int32) &&& 31).toUInt32).toInt32) &&& (255 : Int32))) + (((255 : Int32) - ((p1.toUInt32 >>> ((24 : Int32) &&& 31).toUInt32).toInt32)) * (((p2.toUInt32 >>> ((16 : Int32) &&& 31).toUInt32).toInt32) &&& (255 : Int32)))) + (127 : Int32)) / (255 : Int32)) <<< ((16 : Int32) &&& 31)) ||| (((((((p1.toUInt32 >>> ((24 : Int32) &&& 31).toUInt32).toInt32) * (((p1.toUInt32 >>> ((8 : Int32) &&& 31).toUInt32).toInt32) &&& (255 : Int32))) + (((255 : Int32) - ((p1.toUInt32 >>> ((24 : Int32) &&& 31).toUInt32).toInt32)) * (((p2.toUInt32 >>> ((8 : Int32) &&& 31).toUInt32).toInt32) &&& (255 : Int32)))) + (127 : Int32)) / (255 : Int32)) <<< ((8 : Int32) &&& 31))) ||| ((((((p1.toUInt32 >>> ((24 : Int32) &&& 31).toUInt32).toInt32) * (p1 &&& (255 : Int32))) + (((255 : Int32) - ((p1.toUInt32 >>> ((24 : Int32) &&& 31).toUInt32).toInt32)) * (p2 &&& (255 : Int32)))) + (127 : Int32)) / (255 : Int32))))) (fun h => by rw [Bd.returns] at h; cases h)
    refine own_done (retI X4 hx Bd.returns (hb hby d1_55) hr) hrun hended ⟨_, _, rfl, ?_, ⟨_, rfl⟩, hW, hsame.mono (by decide) (by decide)⟩
    show Q1 Z p1 p2 h0 n0 _ T4.heap _
    rw [e4]
    exact ⟨congrArg (fun z => some (Value.int z)) (show (((((((((p1.toUInt32 >>> ((24 : Int32) &&& 31).toUInt32).toInt32) * (((p1.toUInt32 >>> ((16 : Int32) &&& 31).toUInt32).toInt32) &&& (255 : Int32))) + (((255 : Int32) - ((p1.toUInt32 >>> ((24 : Int32) &&& 31).toUInt32).toInt32)) * (((p2.toUInt32 >>> ((16 : Int32) &&& 31).toUInt32).toInt32) &&& (255 : Int32)))) + (127 : Int32)) / (255 : Int32)) <<< ((16 : Int32) &&& 31)) ||| (((((((p1.toUInt32 >>> ((24 : Int32) &&& 31).toUInt32).toInt32) * (((p1.toUInt32 >>> ((8 : Int32) &&& 31).toUInt32).toInt32) &&& (255 : Int32))) + (((255 : Int32) - ((p1.toUInt32 >>> ((24 : Int32) &&& 31).toUInt32).toInt32)) * (((p2.toUInt32 >>> ((8 : Int32) &&& 31).toUInt32).toInt32) &&& (255 : Int32)))) + (127 : Int32)) / (255 : Int32)) <<< ((8 : Int32) &&& 31))) ||| ((((((p1.toUInt32 >>> ((24 : Int32) &&& 31).toUInt32).toInt32) * (p1 &&& (255 : Int32))) + (((255 : Int32) - ((p1.toUInt32 >>> ((24 : Int32) &&& 31).toUInt32).toInt32)) * (p2 &&& (255 : Int32)))) + (127 : Int32)) / (255 : Int32))) = (own_f1 p1 p2) from by unfold own_f1; simp only [if_neg hc1]), N4, rfl⟩
theorem d3_0 : decode method_3_code 0 = .ok (.iload_n 0, 1) := by decide +kernel
theorem d3_1 : decode method_3_code 1 = .ok (.iload_n 1, 1) := by decide +kernel
theorem d3_2 : decode method_3_code 2 = .ok (.imul, 1) := by decide +kernel
theorem d3_3 : decode method_3_code 3 = .ok (.sipush 255, 3) := by decide +kernel
theorem d3_6 : decode method_3_code 6 = .ok (.iload_n 0, 1) := by decide +kernel
theorem d3_7 : decode method_3_code 7 = .ok (.isub, 1) := by decide +kernel
theorem d3_8 : decode method_3_code 8 = .ok (.iload_n 2, 1) := by decide +kernel
theorem d3_9 : decode method_3_code 9 = .ok (.imul, 1) := by decide +kernel
theorem d3_10 : decode method_3_code 10 = .ok (.iadd, 1) := by decide +kernel
theorem d3_11 : decode method_3_code 11 = .ok (.bipush 127, 2) := by decide +kernel
theorem d3_13 : decode method_3_code 13 = .ok (.iadd, 1) := by decide +kernel
theorem d3_14 : decode method_3_code 14 = .ok (.sipush 255, 3) := by decide +kernel
theorem d3_17 : decode method_3_code 17 = .ok (.idiv, 1) := by decide +kernel
theorem d3_18 : decode method_3_code 18 = .ok (.ireturn, 1) := by decide +kernel
theorem pn_3 : plainName "com/example/dirtytree/dirtytree/ArgbOverPinLaw" = true := by first | (simp [plainName, overriddenIn]; done) | decide +kernel
theorem ef_3 (m : MethodId) (p1 : Int32) (p2 : Int32) (p3 : Int32) : entryFrame m #[(.int p1), (.int p2), (.int p3)] 3 = mkF m 0 #[.val (.int p1), .val (.int p2), .val (.int p3)] [] := by first | (simp [entryFrame, mkF, argsToLocals, Value.category]; done) | rfl
def Q3 (Z : State) (p1 : Int32) (p2 : Int32) (p3 : Int32) (h0 : Heap) (n0 : Nat) (v : Option Value) (h : Heap) (L : List Loc) : Prop := v = some (.int ((((p1 * p2) + (((255 : Int32) - p1) * p3)) + (127 : Int32)) / (255 : Int32))) ∧ Fr n0 L ∧ h = h0
set_option maxRecDepth 65536 in
set_option maxHeartbeats 40000000 in
theorem rm3 (l : Launch) (Z : State) (a0 : Array Value) (hw : ∀ d ∈ tables_1, d.before a0 Z = true) (ws : List Jvm.Cond) (p1 : Int32) (p2 : Int32) (p3 : Int32) (h0 : Heap) (n0 : Nat) (Z0 : n0 ≤ h0.size) :
    MetFree l (⟨"com/example/dirtytree/dirtytree/ArgbOverPinLaw", "channel", "(III)I"⟩ : MethodName) (head1 (Jvm.Cond.code (⟨"com/example/dirtytree/dirtytree/ArgbOverPinLaw", "channel", "(III)I"⟩ : MethodName) method_3_code 3 (some .int) :: ws) ({ frames := 0, cells := 0, slots := 0, locals := 0 } : Room)) (fun a U => a = #[(.int p1), (.int p2), (.int p3)] ∧ Z.Warmed39 U.vm ∧ U.heap = h0) (fun _ _ _ _ _ => True) (fun _ U o U' => ∃ v L, o = .returned v ∧ Q3 Z p1 p2 p3 h0 n0 v U'.heap L ∧ FrameEnd U o U' L ({ frames := 0, cells := 0, slots := 0, locals := 0 } : Room).cells ({ frames := 0, cells := 0, slots := 0, locals := 0 } : Room).slots) := by
  refine MetFree.of_bodySF (plainFor_of_name pn_3) hisR ?_
  intro p e s m args below meth c s₁ Bd hml0 hP hK
  obtain ⟨rfl, hZ, hh⟩ := hP
  have hx := Bd.exec
  have hby := Bd.bytes
  have hml : c.maxLocals = 3 := hml0
  have hown : s.vm.findClass "com/example/dirtytree/dirtytree/ArgbOverPinLaw" = some m.cls := findClass_of_methodNamed Bd.named
  have hnm := (name_of_methodNamed Bd.named Bd.method).1
  have X0 : Stand p l e ({ frames := 0, cells := 0, slots := 0, locals := 0 } : Room) s m #[(.int p1), (.int p2), (.int p3)] below meth c s₁ [] 0 0 := Stand.of_body Bd
  have e0 : s₁.heap = h0 := by rw [← hh, Bd.state]; rfl
  have N0 := Fr.nil n0
  refine own_start (fun t k => castTop (ef_3 m p1 p2 p3) k) ?_
  show own_G p.tables e below _ (s₁.setTop (mkF m 0 #[.val (.int p1), .val (.int p2), .val (.int p3)] []))
  refine own_step (fun t k => XS.iloadN X0.here hx rfl (hb hby d3_0) rfl k) ?_
  show own_G p.tables e below _ (s₁.setTop (mkF m 1 #[.val (.int p1), .val (.int p2), .val (.int p3)] [(.int p1)]))
  refine own_step (fun t k => XS.iloadN X0.here hx rfl (hb hby d3_1) rfl k) ?_
  show own_G p.tables e below _ (s₁.setTop (mkF m 2 #[.val (.int p1), .val (.int p2), .val (.int p3)] [(.int p2), (.int p1)]))
  refine own_step (fun t k => XS.imul X0.here hx rfl (hb hby d3_2) rfl k) ?_
  show own_G p.tables e below _ (s₁.setTop (mkF m 3 #[.val (.int p1), .val (.int p2), .val (.int p3)] [(.int (p1 * p2))]))
  refine own_step (fun t k => XS.sipush X0.here hx rfl (hb hby d3_3) k) ?_
  show own_G p.tables e below _ (s₁.setTop (mkF m 6 #[.val (.int p1), .val (.int p2), .val (.int p3)] [(.int (255 : Int32)), (.int (p1 * p2))]))
  refine own_step (fun t k => XS.iloadN X0.here hx rfl (hb hby d3_6) rfl k) ?_
  show own_G p.tables e below _ (s₁.setTop (mkF m 7 #[.val (.int p1), .val (.int p2), .val (.int p3)] [(.int p1), (.int (255 : Int32)), (.int (p1 * p2))]))
  refine own_step (fun t k => XS.isub X0.here hx rfl (hb hby d3_7) rfl k) ?_
  show own_G p.tables e below _ (s₁.setTop (mkF m 8 #[.val (.int p1), .val (.int p2), .val (.int p3)] [(.int ((255 : Int32) - p1)), (.int (p1 * p2))]))
  refine own_step (fun t k => XS.iloadN X0.here hx rfl (hb hby d3_8) rfl k) ?_
  show own_G p.tables e below _ (s₁.setTop (mkF m 9 #[.val (.int p1), .val (.int p2), .val (.int p3)] [(.int p3), (.int ((255 : Int32) - p1)), (.int (p1 * p2))]))
  refine own_step (fun t k => XS.imul X0.here hx rfl (hb hby d3_9) rfl k) ?_
  show own_G p.tables e below _ (s₁.setTop (mkF m 10 #[.val (.int p1), .val (.int p2), .val (.int p3)] [(.int (((255 : Int32) - p1) * p3)), (.int (p1 * p2))]))
  refine own_step (fun t k => XS.iadd X0.here hx rfl (hb hby d3_10) rfl k) ?_
  show own_G p.tables e below _ (s₁.setTop (mkF m 11 #[.val (.int p1), .val (.int p2), .val (.int p3)] [(.int ((p1 * p2) + (((255 : Int32) - p1) * p3)))]))
  refine own_step (fun t k => XS.bipush X0.here hx rfl (hb hby d3_11) k) ?_
  show own_G p.tables e below _ (s₁.setTop (mkF m 13 #[.val (.int p1), .val (.int p2), .val (.int p3)] [(.int (127 : Int32)), (.int ((p1 * p2) + (((255 : Int32) - p1) * p3)))]))
  refine own_step (fun t k => XS.iadd X0.here hx rfl (hb hby d3_13) rfl k) ?_
  show own_G p.tables e below _ (s₁.setTop (mkF m 14 #[.val (.int p1), .val (.int p2), .val (.int p3)] [(.int (((p1 * p2) + (((255 : Int32) - p1) * p3)) + (127 : Int32)))]))
  refine own_step (fun t k => XS.sipush X0.here hx rfl (hb hby d3_14) k) ?_
  show own_G p.tables e below _ (s₁.setTop (mkF m 17 #[.val (.int p1), .val (.int p2), .val (.int p3)] [(.int (255 : Int32)), (.int (((p1 * p2) + (((255 : Int32) - p1) * p3)) + (127 : Int32)))]))
  refine own_step (fun t k => XS.idiv X0.here hx rfl (hb hby d3_17) rfl (by decide) k) ?_
  show own_G p.tables e below _ (s₁.setTop (mkF m 18 #[.val (.int p1), .val (.int p2), .val (.int p3)] [(.int ((((p1 * p2) + (((255 : Int32) - p1) * p3)) + (127 : Int32)) / (255 : Int32)))]))
  obtain ⟨fs, hr, hrun, hended, hW, hsame⟩ := X0.leave (v := some (.int ((((p1 * p2) + (((255 : Int32) - p1) * p3)) + (127 : Int32)) / (255 : Int32)))) (fun h => by rw [Bd.returns] at h; cases h)
  refine own_done (retI X0 hx Bd.returns (hb hby d3_18) hr) hrun hended ⟨_, _, rfl, ?_, ⟨_, rfl⟩, hW, hsame.mono (by decide) (by decide)⟩
  show Q3 Z p1 p2 p3 h0 n0 _ s₁.heap _
  rw [e0]
  exact ⟨congrArg (fun z => some (Value.int z)) (show ((((p1 * p2) + (((255 : Int32) - p1) * p3)) + (127 : Int32)) / (255 : Int32)) = ((((p1 * p2) + (((255 : Int32) - p1) * p3)) + (127 : Int32)) / (255 : Int32)) from rfl), N0, rfl⟩

theorem own_u (x : Int32) : (x.toInt = (x.toUInt32.toNat : Int) ∧ x.toUInt32.toNat < 2 ^ 31) ∨ (x.toInt = (x.toUInt32.toNat : Int) - 2 ^ 32 ∧ 2 ^ 31 ≤ x.toUInt32.toNat ∧ x.toUInt32.toNat < 2 ^ 32) := by
  have h : x.toInt = x.toUInt32.toBitVec.toInt := rfl
  have hn : x.toUInt32.toBitVec.toNat = x.toUInt32.toNat := rfl
  have hl := x.toUInt32.toNat_lt
  rw [h, BitVec.toInt_eq_toNat_cond, hn]
  split <;> omega
theorem own_us (x : Int32) (n : UInt32) (k : Nat) (hn : n.toNat % 32 = k) (hk : 1 ≤ k) : ((x.toUInt32 >>> n).toInt32).toInt = ((x.toUInt32.toNat / 2 ^ k : Nat) : Int) := by
  have e : (x.toUInt32 >>> n).toNat = x.toUInt32.toNat / 2 ^ k := by rw [UInt32.toNat_shiftRight, Nat.shiftRight_eq_div_pow, hn]
  have hl := x.toUInt32.toNat_lt
  have h2 : x.toUInt32.toNat / 2 ^ k < 2 ^ 31 := by
    have : x.toUInt32.toNat / 2 ^ k ≤ x.toUInt32.toNat / 2 ^ 1 := Nat.div_le_div_left (Nat.pow_le_pow_right (by decide) hk) (by decide)
    omega
  have q := own_u (x.toUInt32 >>> n).toInt32
  have r : (x.toUInt32 >>> n).toInt32.toUInt32.toNat = (x.toUInt32 >>> n).toNat := rfl
  rw [r, e] at q
  omega
theorem own_m8 (x : Int32) : (x &&& 255).toInt = x.toInt % 2 ^ 8 := Jvm.Kit.i32_mask x 255 (k := 8) (by decide) (by decide)
theorem own_b24 (x : Int32) : (x.toUInt32 >>> ((24 : Int32) &&& 31).toUInt32).toInt32 = ((x >>> ((24 : Int32) &&& 31)) &&& (255 : Int32)) := by
  refine Int32.toInt_inj.mp ?_
  rw [own_us x _ 24 (by decide) (by decide), own_m8, Jvm.Kit.i32_shr x _ (k := 24) (by decide)]
  have := own_u x
  omega
theorem own_b16 (x : Int32) : ((x.toUInt32 >>> ((16 : Int32) &&& 31).toUInt32).toInt32 &&& (255 : Int32)) = ((x >>> ((16 : Int32) &&& 31)) &&& (255 : Int32)) := by
  refine Int32.toInt_inj.mp ?_
  rw [own_m8, own_m8, own_us x _ 16 (by decide) (by decide), Jvm.Kit.i32_shr x _ (k := 16) (by decide)]
  have := own_u x
  omega
theorem own_b8 (x : Int32) : ((x.toUInt32 >>> ((8 : Int32) &&& 31).toUInt32).toInt32 &&& (255 : Int32)) = ((x >>> ((8 : Int32) &&& 31)) &&& (255 : Int32)) := by
  refine Int32.toInt_inj.mp ?_
  rw [own_m8, own_m8, own_us x _ 8 (by decide) (by decide), Jvm.Kit.i32_shr x _ (k := 8) (by decide)]
  have := own_u x
  omega
theorem own_ch (a s d : Int32) (ha : 0 ≤ a.toInt ∧ a.toInt ≤ 255) (hs : 0 ≤ s.toInt ∧ s.toInt ≤ 255) (hd : 0 ≤ d.toInt ∧ d.toInt ≤ 255) :
    ((((a * s) + (((255 : Int32) - a) * d)) + (127 : Int32)) / (255 : Int32)).toInt = (a.toInt * s.toInt + (255 - a.toInt) * d.toInt + 127) / 255 ∧ 0 ≤ (a.toInt * s.toInt + (255 - a.toInt) * d.toInt + 127) / 255 ∧ (a.toInt * s.toInt + (255 - a.toInt) * d.toInt + 127) / 255 ≤ 255 := by
  have e255 : (255 : Int32).toInt = 255 := rfl
  have e127 : (127 : Int32).toInt = 127 := rfl
  have p1 : 0 ≤ a.toInt * s.toInt := Int.mul_nonneg ha.1 hs.1
  have p2 : a.toInt * s.toInt ≤ a.toInt * 255 := Int.mul_le_mul_of_nonneg_left hs.2 ha.1
  have p3 : 0 ≤ (255 - a.toInt) * d.toInt := Int.mul_nonneg (by omega) hd.1
  have p4 : (255 - a.toInt) * d.toInt ≤ (255 - a.toInt) * 255 := Int.mul_le_mul_of_nonneg_left hd.2 (by omega)
  have m1 : (a * s).toInt = a.toInt * s.toInt := Jvm.Kit.i32_mul (by omega) (by omega)
  have s1 : ((255 : Int32) - a).toInt = 255 - a.toInt := by
    have := Jvm.Kit.i32_sub (p := 255) (q := a) (by omega) (by omega)
    rw [this, e255]
  have m2 : (((255 : Int32) - a) * d).toInt = (255 - a.toInt) * d.toInt := by
    have := Jvm.Kit.i32_mul (p := (255 : Int32) - a) (q := d) (by rw [s1]; omega) (by rw [s1]; omega)
    rw [this, s1]
  have a1 : ((a * s) + (((255 : Int32) - a) * d)).toInt = a.toInt * s.toInt + (255 - a.toInt) * d.toInt := by
    have := Jvm.Kit.i32_add (p := a * s) (q := ((255 : Int32) - a) * d) (by rw [m1, m2]; omega) (by rw [m1, m2]; omega)
    rw [this, m1, m2]
  have a2 : (((a * s) + (((255 : Int32) - a) * d)) + (127 : Int32)).toInt = a.toInt * s.toInt + (255 - a.toInt) * d.toInt + 127 := by
    have := Jvm.Kit.i32_add (p := (a * s) + (((255 : Int32) - a) * d)) (q := 127) (by rw [a1, e127]; omega) (by rw [a1, e127]; omega)
    rw [this, a1, e127]
  have dv := Jvm.Kit.i32_div (x := ((a * s) + (((255 : Int32) - a) * d)) + (127 : Int32)) (y := 255) (by rw [e255]; omega)
  rw [a2, e255, Int.tdiv_eq_ediv_of_nonneg (by omega)] at dv
  refine ⟨dv, ?_, ?_⟩ <;> omega
theorem own_or (a b : Int32) (k q : Nat) (ha : a.toUInt32.toNat = 2 ^ k * q) (hb : b.toUInt32.toNat < 2 ^ k) : (a ||| b).toUInt32.toNat = a.toUInt32.toNat + b.toUInt32.toNat := by
  have : (a ||| b).toUInt32.toNat = a.toUInt32.toNat ||| b.toUInt32.toNat := by
    show (a.toBitVec ||| b.toBitVec).toNat = _
    exact BitVec.toNat_or _ _
  rw [this, ha, Nat.two_pow_add_eq_or_of_lt hb]
theorem own_pack (r g b : Int32) (hr : 0 ≤ r.toInt ∧ r.toInt ≤ 255) (hg : 0 ≤ g.toInt ∧ g.toInt ≤ 255) (hb : 0 ≤ b.toInt ∧ b.toInt ≤ 255) :
    (((r <<< ((16 : Int32) &&& 31)) ||| (g <<< ((8 : Int32) &&& 31))) ||| b).toInt = r.toInt * 65536 + g.toInt * 256 + b.toInt := by
  have s1 : (r <<< ((16 : Int32) &&& 31)).toInt = r.toInt * 2 ^ 16 := Jvm.Kit.i32_shl r _ (k := 16) (by decide) (by omega) (by omega)
  have s2 : (g <<< ((8 : Int32) &&& 31)).toInt = g.toInt * 2 ^ 8 := Jvm.Kit.i32_shl g _ (k := 8) (by decide) (by omega) (by omega)
  have u0 := own_u r
  have u1 := own_u (r <<< ((16 : Int32) &&& 31))
  have u2 := own_u (g <<< ((8 : Int32) &&& 31))
  have u2' := own_u g
  have u3 := own_u b
  have o1 := own_or (r <<< ((16 : Int32) &&& 31)) (g <<< ((8 : Int32) &&& 31)) 16 r.toUInt32.toNat (by omega) (by omega)
  have u4 := own_u ((r <<< ((16 : Int32) &&& 31)) ||| (g <<< ((8 : Int32) &&& 31)))
  have o2 := own_or ((r <<< ((16 : Int32) &&& 31)) ||| (g <<< ((8 : Int32) &&& 31))) b 8 (r.toUInt32.toNat * 256 + g.toUInt32.toNat) (by omega) (by omega)
  have u5 := own_u (((r <<< ((16 : Int32) &&& 31)) ||| (g <<< ((8 : Int32) &&& 31))) ||| b)
  omega
theorem own_sum (r g b : Int32) (hr : 0 ≤ r.toInt ∧ r.toInt ≤ 255) (hg : 0 ≤ g.toInt ∧ g.toInt ≤ 255) (hb : 0 ≤ b.toInt ∧ b.toInt ≤ 255) :
    (((r * (65536 : Int32)) + (g * (256 : Int32))) + b).toInt = r.toInt * 65536 + g.toInt * 256 + b.toInt := by
  have e1 : (65536 : Int32).toInt = 65536 := rfl
  have e2 : (256 : Int32).toInt = 256 := rfl
  have m1 := Jvm.Kit.i32_mul (p := r) (q := 65536) (by rw [e1]; omega) (by rw [e1]; omega)
  have m2 := Jvm.Kit.i32_mul (p := g) (q := 256) (by rw [e2]; omega) (by rw [e2]; omega)
  rw [e1] at m1
  rw [e2] at m2
  have a1 := Jvm.Kit.i32_add (p := r * 65536) (q := g * 256) (by omega) (by omega)
  have a2 := Jvm.Kit.i32_add (p := r * 65536 + g * 256) (q := b) (by omega) (by omega)
  omega
theorem own_eq (top bel : Int32) : own_f1 top bel = (((((((((top >>> ((24 : Int32) &&& 31)) &&& (255 : Int32)) * ((top >>> ((16 : Int32) &&& 31)) &&& (255 : Int32))) + (((255 : Int32) - ((top >>> ((24 : Int32) &&& 31)) &&& (255 : Int32))) * ((bel >>> ((16 : Int32) &&& 31)) &&& (255 : Int32)))) + (127 : Int32)) / (255 : Int32)) * (65536 : Int32)) + (((((((top >>> ((24 : Int32) &&& 31)) &&& (255 : Int32)) * ((top >>> ((8 : Int32) &&& 31)) &&& (255 : Int32))) + (((255 : Int32) - ((top >>> ((24 : Int32) &&& 31)) &&& (255 : Int32))) * ((bel >>> ((8 : Int32) &&& 31)) &&& (255 : Int32)))) + (127 : Int32)) / (255 : Int32)) * (256 : Int32))) + ((((((top >>> ((24 : Int32) &&& 31)) &&& (255 : Int32)) * (top &&& (255 : Int32))) + (((255 : Int32) - ((top >>> ((24 : Int32) &&& 31)) &&& (255 : Int32))) * (bel &&& (255 : Int32)))) + (127 : Int32)) / (255 : Int32))) := by
  unfold own_f1
  simp only [own_b24, own_b16, own_b8]
  have r1 : ∀ x : Int32, 0 ≤ (x &&& (255 : Int32)).toInt ∧ (x &&& (255 : Int32)).toInt ≤ 255 := fun x => by rw [own_m8]; omega
  have c1 := own_ch _ _ _ (r1 (top >>> ((24 : Int32) &&& 31))) (r1 (top >>> ((16 : Int32) &&& 31))) (r1 (bel >>> ((16 : Int32) &&& 31)))
  have c2 := own_ch _ _ _ (r1 (top >>> ((24 : Int32) &&& 31))) (r1 (top >>> ((8 : Int32) &&& 31))) (r1 (bel >>> ((8 : Int32) &&& 31)))
  have c3 := own_ch _ _ _ (r1 (top >>> ((24 : Int32) &&& 31))) (r1 top) (r1 bel)
  rw [← c1.1] at c1
  rw [← c2.1] at c2
  rw [← c3.1] at c3
  refine Int32.toInt_inj.mp ?_
  rw [own_sum _ _ _ c1.2 c2.2 c3.2]
  split
  · rename_i h
    have k1 := (own_ch _ _ _ (r1 (top >>> ((24 : Int32) &&& 31))) (r1 (top >>> ((16 : Int32) &&& 31))) (r1 (bel >>> ((16 : Int32) &&& 31)))).1
    have k2 := (own_ch _ _ _ (r1 (top >>> ((24 : Int32) &&& 31))) (r1 (top >>> ((8 : Int32) &&& 31))) (r1 (bel >>> ((8 : Int32) &&& 31)))).1
    have k3 := (own_ch _ _ _ (r1 (top >>> ((24 : Int32) &&& 31))) (r1 top) (r1 bel)).1
    rw [k1, k2, k3, h]
    have e255 : (255 : Int32).toInt = 255 := rfl
    have m := Jvm.Kit.i32_mask top 16777215 (k := 24) (by decide) (by decide)
    have g1 := own_m8 (top >>> ((16 : Int32) &&& 31))
    have g2 := own_m8 (top >>> ((8 : Int32) &&& 31))
    have g3 := own_m8 top
    rw [Jvm.Kit.i32_shr top _ (k := 16) (by decide)] at g1
    rw [Jvm.Kit.i32_shr top _ (k := 8) (by decide)] at g2
    have z : ∀ d : Int, (255 - (255 : Int)) * d = 0 := fun d => by rw [Int.sub_self, Int.zero_mul]
    rw [e255, z, z, z]
    omega
  · exact own_pack _ _ _ c1.2 c2.2 c3.2

theorem pn_0 : plainName "com/example/dirtytree/dirtytree/ArgbOverPinLaw" = true := by first | (simp [plainName, overriddenIn]; done) | decide +kernel
theorem pd_0_0 : parseMethodDescriptor "(II)I" = some ⟨[.int, .int], some .int⟩ := by decide +kernel
theorem pd_0_1 : parseMethodDescriptor "(III)I" = some ⟨[.int, .int, .int], some .int⟩ := by decide +kernel
theorem ef_0 (m : MethodId) (p1 : Int32) (p2 : Int32) (p3 : Int32) : entryFrame m #[(.int p1), (.int p2), (.int p3)] maxLocals = mkF m 0 #[.val (.int p1), .val (.int p2), .val (.int p3), .unset, .unset, .unset, .unset, .unset, .unset, .unset, .unset, .unset] [] := by first | (simp [entryFrame, mkF, argsToLocals, Value.category, maxLocals]; done) | rfl
def Q0 (Z : State) (p1 : Int32) (p2 : Int32) (p3 : Int32) (h0 : Heap) (n0 : Nat) (v : Option Value) (h : Heap) (L : List Loc) : Prop := v = some (.int (1 : Int32)) ∧ Fr n0 L
set_option maxRecDepth 65536 in
set_option maxHeartbeats 40000000 in
theorem rm0 (l : Launch) (Z : State) (a0 : Array Value) (hw : ∀ d ∈ tables_1, d.before a0 Z = true) (ws : List Jvm.Cond) (p1 : Int32) (p2 : Int32) (p3 : Int32) (h0 : Heap) (n0 : Nat) (Z0 : n0 ≤ h0.size) :
    MetFree l x (head1 (Jvm.Cond.code x code maxLocals ret :: ws) room_1) (fun a U => a = #[(.int p1), (.int p2), (.int p3)] ∧ Z.Warmed39 U.vm ∧ U.heap = h0) (fun _ _ _ _ _ => True) (fun _ U o U' => ∃ v L, o = .returned v ∧ Q0 Z p1 p2 p3 h0 n0 v U'.heap L ∧ FrameEnd U o U' L room_1.cells room_1.slots) := by
  refine MetFree.of_bodySF (plainFor_of_name pn_0) hisR ?_
  intro p e s m args below meth c s₁ Bd hml0 hP hK
  obtain ⟨rfl, hZ, hh⟩ := hP
  have hx := Bd.exec
  have hby := Bd.bytes
  have hml : c.maxLocals = 12 := hml0
  have hown : s.vm.findClass "com/example/dirtytree/dirtytree/ArgbOverPinLaw" = some m.cls := findClass_of_methodNamed Bd.named
  have hnm := (name_of_methodNamed Bd.named Bd.method).1
  have X0 : Stand p l e room_1 s m #[(.int p1), (.int p2), (.int p3)] below meth c s₁ [] 0 0 := Stand.of_body Bd
  have e0 : s₁.heap = h0 := by rw [← hh, Bd.state]; rfl
  have N0 := Fr.nil n0
  refine own_start (fun t k => castTop (ef_0 m p1 p2 p3) k) ?_
  show own_G p.tables e below _ (s₁.setTop (mkF m 0 #[.val (.int p1), .val (.int p2), .val (.int p3), .unset, .unset, .unset, .unset, .unset, .unset, .unset, .unset, .unset] []))
  refine own_step (fun t k => XS.iloadN X0.here hx rfl (hb hby at_0) rfl k) ?_
  show own_G p.tables e below _ (s₁.setTop (mkF m 1 #[.val (.int p1), .val (.int p2), .val (.int p3), .unset, .unset, .unset, .unset, .unset, .unset, .unset, .unset, .unset] [(.int p1)]))
  refine own_step (fun t k => XS.istoreN X0.here hx rfl (hb hby at_1) rfl (l' := #[.val (.int p1), .val (.int p2), .val (.int p3), .val (.int p1), .unset, .unset, .unset, .unset, .unset, .unset, .unset, .unset]) rfl k) ?_
  show own_G p.tables e below _ (s₁.setTop (mkF m 2 #[.val (.int p1), .val (.int p2), .val (.int p3), .val (.int p1), .unset, .unset, .unset, .unset, .unset, .unset, .unset, .unset] []))
  refine own_step (fun t k => XS.iloadN X0.here hx rfl (hb hby at_2) rfl k) ?_
  show own_G p.tables e below _ (s₁.setTop (mkF m 3 #[.val (.int p1), .val (.int p2), .val (.int p3), .val (.int p1), .unset, .unset, .unset, .unset, .unset, .unset, .unset, .unset] [(.int p3)]))
  refine own_step (fun t k => XS.iconst X0.here hx rfl (hb hby at_3) k) ?_
  show own_G p.tables e below _ (s₁.setTop (mkF m 4 #[.val (.int p1), .val (.int p2), .val (.int p3), .val (.int p1), .unset, .unset, .unset, .unset, .unset, .unset, .unset, .unset] [(.int (3 : Int32)), (.int p3)]))
  refine own_step (fun t k => XS.iand X0.here hx rfl (hb hby at_4) rfl k) ?_
  show own_G p.tables e below _ (s₁.setTop (mkF m 5 #[.val (.int p1), .val (.int p2), .val (.int p3), .val (.int p1), .unset, .unset, .unset, .unset, .unset, .unset, .unset, .unset] [(.int (p3 &&& (3 : Int32)))]))
  refine own_step (fun t k => XS.istore X0.here hx rfl (hb hby at_5) rfl (l' := #[.val (.int p1), .val (.int p2), .val (.int p3), .val (.int p1), .val (.int (p3 &&& (3 : Int32))), .unset, .unset, .unset, .unset, .unset, .unset, .unset]) rfl k) ?_
  show own_G p.tables e below _ (s₁.setTop (mkF m 7 #[.val (.int p1), .val (.int p2), .val (.int p3), .val (.int p1), .val (.int (p3 &&& (3 : Int32))), .unset, .unset, .unset, .unset, .unset, .unset, .unset] []))
  refine own_step (fun t k => XS.iload X0.here hx rfl (hb hby at_7) rfl k) ?_
  show own_G p.tables e below _ (s₁.setTop (mkF m 9 #[.val (.int p1), .val (.int p2), .val (.int p3), .val (.int p1), .val (.int (p3 &&& (3 : Int32))), .unset, .unset, .unset, .unset, .unset, .unset, .unset] [(.int (p3 &&& (3 : Int32)))]))
  refine own_step (fun t k => XS.iconst X0.here hx rfl (hb hby at_9) k) ?_
  show own_G p.tables e below _ (s₁.setTop (mkF m 10 #[.val (.int p1), .val (.int p2), .val (.int p3), .val (.int p1), .val (.int (p3 &&& (3 : Int32))), .unset, .unset, .unset, .unset, .unset, .unset, .unset] [(.int (1 : Int32)), (.int (p3 &&& (3 : Int32)))]))
  refine own_imp (B := s₁.setTop (mkF m 32 #[.val (.int p1), .val (.int p2), .val (.int p3), .val (.int (if (p3 &&& (3 : Int32)) = (1 : Int32) then (p1 ||| (-16777216 : Int32)) else (if (p3 &&& (3 : Int32)) = (2 : Int32) then (p1 &&& (16777215 : Int32)) else p1))), .val (.int (p3 &&& (3 : Int32))), .unset, .unset, .unset, .unset, .unset, .unset, .unset] [])) (fun k0 => ?_) ?_
  · by_cases hc1 : (p3 &&& (3 : Int32)) = (1 : Int32)
    · simp only [if_pos hc1] at k0
      refine own_step (fun t k => XS.icmpNo X0.here hx rfl (hb hby at_10) rfl ((teq hc1).2) k) ?_
      show own_G p.tables e below _ (s₁.setTop (mkF m 13 #[.val (.int p1), .val (.int p2), .val (.int p3), .val (.int p1), .val (.int (p3 &&& (3 : Int32))), .unset, .unset, .unset, .unset, .unset, .unset, .unset] []))
      refine own_step (fun t k => XS.iloadN X0.here hx rfl (hb hby at_13) rfl k) ?_
      show own_G p.tables e below _ (s₁.setTop (mkF m 14 #[.val (.int p1), .val (.int p2), .val (.int p3), .val (.int p1), .val (.int (p3 &&& (3 : Int32))), .unset, .unset, .unset, .unset, .unset, .unset, .unset] [(.int p1)]))
      refine own_step (X0.ldcInt hx hown (mvT hZ (hw _ (List.mem_of_getElem? (i := 13) rfl))) (g := (mkF m 14 #[.val (.int p1), .val (.int p2), .val (.int p3), .val (.int p1), .val (.int (p3 &&& (3 : Int32))), .unset, .unset, .unset, .unset, .unset, .unset, .unset] [(.int p1)])) rfl (hb hby at_14)) ?_
      show own_G p.tables e below _ (s₁.setTop (mkF m 16 #[.val (.int p1), .val (.int p2), .val (.int p3), .val (.int p1), .val (.int (p3 &&& (3 : Int32))), .unset, .unset, .unset, .unset, .unset, .unset, .unset] [(.int (-16777216 : Int32)), (.int p1)]))
      refine own_step (fun t k => XS.ior X0.here hx rfl (hb hby at_16) rfl k) ?_
      show own_G p.tables e below _ (s₁.setTop (mkF m 17 #[.val (.int p1), .val (.int p2), .val (.int p3), .val (.int p1), .val (.int (p3 &&& (3 : Int32))), .unset, .unset, .unset, .unset, .unset, .unset, .unset] [(.int (p1 ||| (-16777216 : Int32)))]))
      refine own_step (fun t k => XS.istoreN X0.here hx rfl (hb hby at_17) rfl (l' := #[.val (.int p1), .val (.int p2), .val (.int p3), .val (.int (p1 ||| (-16777216 : Int32))), .val (.int (p3 &&& (3 : Int32))), .unset, .unset, .unset, .unset, .unset, .unset, .unset]) rfl k) ?_
      show own_G p.tables e below _ (s₁.setTop (mkF m 18 #[.val (.int p1), .val (.int p2), .val (.int p3), .val (.int (p1 ||| (-16777216 : Int32))), .val (.int (p3 &&& (3 : Int32))), .unset, .unset, .unset, .unset, .unset, .unset, .unset] []))
      refine own_step (fun t k => XS.goto X0.here hx rfl (pc0 := 18) (pc' := 32) rfl (hb hby at_18) (by decide) (by decide) k) ?_
      show own_G p.tables e below _ (s₁.setTop (mkF m 32 #[.val (.int p1), .val (.int p2), .val (.int p3), .val (.int (p1 ||| (-16777216 : Int32))), .val (.int (p3 &&& (3 : Int32))), .unset, .unset, .unset, .unset, .unset, .unset, .unset] []))
      exact k0
    · simp only [if_neg hc1] at k0
      refine own_step (fun t k => XS.icmpYes X0.here hx rfl (pc0 := 10) (pc' := 21) rfl (hb hby at_10) rfl ((feq hc1).2) (by decide) (by decide) k) ?_
      show own_G p.tables e below _ (s₁.setTop (mkF m 21 #[.val (.int p1), .val (.int p2), .val (.int p3), .val (.int p1), .val (.int (p3 &&& (3 : Int32))), .unset, .unset, .unset, .unset, .unset, .unset, .unset] []))
      refine own_step (fun t k => XS.iload X0.here hx rfl (hb hby at_21) rfl k) ?_
      show own_G p.tables e below _ (s₁.setTop (mkF m 23 #[.val (.int p1), .val (.int p2), .val (.int p3), .val (.int p1), .val (.int (p3 &&& (3 : Int32))), .unset, .unset, .unset, .unset, .unset, .unset, .unset] [(.int (p3 &&& (3 : Int32)))]))
      refine own_step (fun t k => XS.iconst X0.here hx rfl (hb hby at_23) k) ?_
      show own_G p.tables e below _ (s₁.setTop (mkF m 24 #[.val (.int p1), .val (.int p2), .val (.int p3), .val (.int p1), .val (.int (p3 &&& (3 : Int32))), .unset, .unset, .unset, .unset, .unset, .unset, .unset] [(.int (2 : Int32)), (.int (p3 &&& (3 : Int32)))]))
      refine own_imp (B := s₁.setTop (mkF m 32 #[.val (.int p1), .val (.int p2), .val (.int p3), .val (.int (if (p3 &&& (3 : Int32)) = (2 : Int32) then (p1 &&& (16777215 : Int32)) else p1)), .val (.int (p3 &&& (3 : Int32))), .unset, .unset, .unset, .unset, .unset, .unset, .unset] [])) (fun k0 => ?_) ?_
      · by_cases hc2 : (p3 &&& (3 : Int32)) = (2 : Int32)
        · simp only [if_pos hc2] at k0
          refine own_step (fun t k => XS.icmpNo X0.here hx rfl (hb hby at_24) rfl ((teq hc2).2) k) ?_
          show own_G p.tables e below _ (s₁.setTop (mkF m 27 #[.val (.int p1), .val (.int p2), .val (.int p3), .val (.int p1), .val (.int (p3 &&& (3 : Int32))), .unset, .unset, .unset, .unset, .unset, .unset, .unset] []))
          refine own_step (fun t k => XS.iloadN X0.here hx rfl (hb hby at_27) rfl k) ?_
          show own_G p.tables e below _ (s₁.setTop (mkF m 28 #[.val (.int p1), .val (.int p2), .val (.int p3), .val (.int p1), .val (.int (p3 &&& (3 : Int32))), .unset, .unset, .unset, .unset, .unset, .unset, .unset] [(.int p1)]))
          refine own_step (X0.ldcInt hx hown (mvT hZ (hw _ (List.mem_of_getElem? (i := 0) rfl))) (g := (mkF m 28 #[.val (.int p1), .val (.int p2), .val (.int p3), .val (.int p1), .val (.int (p3 &&& (3 : Int32))), .unset, .unset, .unset, .unset, .unset, .unset, .unset] [(.int p1)])) rfl (hb hby at_28)) ?_
          show own_G p.tables e below _ (s₁.setTop (mkF m 30 #[.val (.int p1), .val (.int p2), .val (.int p3), .val (.int p1), .val (.int (p3 &&& (3 : Int32))), .unset, .unset, .unset, .unset, .unset, .unset, .unset] [(.int (16777215 : Int32)), (.int p1)]))
          refine own_step (fun t k => XS.iand X0.here hx rfl (hb hby at_30) rfl k) ?_
          show own_G p.tables e below _ (s₁.setTop (mkF m 31 #[.val (.int p1), .val (.int p2), .val (.int p3), .val (.int p1), .val (.int (p3 &&& (3 : Int32))), .unset, .unset, .unset, .unset, .unset, .unset, .unset] [(.int (p1 &&& (16777215 : Int32)))]))
          refine own_step (fun t k => XS.istoreN X0.here hx rfl (hb hby at_31) rfl (l' := #[.val (.int p1), .val (.int p2), .val (.int p3), .val (.int (p1 &&& (16777215 : Int32))), .val (.int (p3 &&& (3 : Int32))), .unset, .unset, .unset, .unset, .unset, .unset, .unset]) rfl k) ?_
          show own_G p.tables e below _ (s₁.setTop (mkF m 32 #[.val (.int p1), .val (.int p2), .val (.int p3), .val (.int (p1 &&& (16777215 : Int32))), .val (.int (p3 &&& (3 : Int32))), .unset, .unset, .unset, .unset, .unset, .unset, .unset] []))
          exact k0
        · simp only [if_neg hc2] at k0
          refine own_step (fun t k => XS.icmpYes X0.here hx rfl (pc0 := 24) (pc' := 32) rfl (hb hby at_24) rfl ((feq hc2).2) (by decide) (by decide) k) ?_
          show own_G p.tables e below _ (s₁.setTop (mkF m 32 #[.val (.int p1), .val (.int p2), .val (.int p3), .val (.int p1), .val (.int (p3 &&& (3 : Int32))), .unset, .unset, .unset, .unset, .unset, .unset, .unset] []))
          exact k0
      show own_G p.tables e below _ (s₁.setTop (mkF m 32 #[.val (.int p1), .val (.int p2), .val (.int p3), .val (.int (if (p3 &&& (3 : Int32)) = (2 : Int32) then (p1 &&& (16777215 : Int32)) else p1)), .val (.int (p3 &&& (3 : Int32))), .unset, .unset, .unset, .unset, .unset, .unset, .unset] []))
      exact k0
  show own_G p.tables e below _ (s₁.setTop (mkF m 32 #[.val (.int p1), .val (.int p2), .val (.int p3), .val (.int (if (p3 &&& (3 : Int32)) = (1 : Int32) then (p1 ||| (-16777216 : Int32)) else (if (p3 &&& (3 : Int32)) = (2 : Int32) then (p1 &&& (16777215 : Int32)) else p1))), .val (.int (p3 &&& (3 : Int32))), .unset, .unset, .unset, .unset, .unset, .unset, .unset] []))
  refine own_nm ((if (p3 &&& (3 : Int32)) = (1 : Int32) then (p1 ||| (-16777216 : Int32)) else (if (p3 &&& (3 : Int32)) = (2 : Int32) then (p1 &&& (16777215 : Int32)) else p1)) : Int32) (fun top => s₁.setTop (mkF m 32 #[.val (.int p1), .val (.int p2), .val (.int p3), .val (.int top), .val (.int (p3 &&& (3 : Int32))), .unset, .unset, .unset, .unset, .unset, .unset, .unset] [])) ?_
  intro top hd_top
  show own_G p.tables e below _ (s₁.setTop (mkF m 32 #[.val (.int p1), .val (.int p2), .val (.int p3), .val (.int top), .val (.int (p3 &&& (3 : Int32))), .unset, .unset, .unset, .unset, .unset, .unset, .unset] []))
  refine own_step (fun t k => XS.iloadN X0.here hx rfl (hb hby at_32) rfl k) ?_
  show own_G p.tables e below _ (s₁.setTop (mkF m 33 #[.val (.int p1), .val (.int p2), .val (.int p3), .val (.int top), .val (.int (p3 &&& (3 : Int32))), .unset, .unset, .unset, .unset, .unset, .unset, .unset] [(.int p2)]))
  refine own_step (X0.ldcInt hx hown (mvT hZ (hw _ (List.mem_of_getElem? (i := 0) rfl))) (g := (mkF m 33 #[.val (.int p1), .val (.int p2), .val (.int p3), .val (.int top), .val (.int (p3 &&& (3 : Int32))), .unset, .unset, .unset, .unset, .unset, .unset, .unset] [(.int p2)])) rfl (hb hby at_33)) ?_
  show own_G p.tables e below _ (s₁.setTop (mkF m 35 #[.val (.int p1), .val (.int p2), .val (.int p3), .val (.int top), .val (.int (p3 &&& (3 : Int32))), .unset, .unset, .unset, .unset, .unset, .unset, .unset] [(.int (16777215 : Int32)), (.int p2)]))
  refine own_step (fun t k => XS.iand X0.here hx rfl (hb hby at_35) rfl k) ?_
  show own_G p.tables e below _ (s₁.setTop (mkF m 36 #[.val (.int p1), .val (.int p2), .val (.int p3), .val (.int top), .val (.int (p3 &&& (3 : Int32))), .unset, .unset, .unset, .unset, .unset, .unset, .unset] [(.int (p2 &&& (16777215 : Int32)))]))
  refine own_nm ((p2 &&& (16777215 : Int32)) : Int32) (fun bel => s₁.setTop (mkF m 36 #[.val (.int p1), .val (.int p2), .val (.int p3), .val (.int top), .val (.int (p3 &&& (3 : Int32))), .unset, .unset, .unset, .unset, .unset, .unset, .unset] [(.int bel)])) ?_
  intro bel hd_bel
  show own_G p.tables e below _ (s₁.setTop (mkF m 36 #[.val (.int p1), .val (.int p2), .val (.int p3), .val (.int top), .val (.int (p3 &&& (3 : Int32))), .unset, .unset, .unset, .unset, .unset, .unset, .unset] [(.int bel)]))
  refine own_step (fun t k => XS.istore X0.here hx rfl (hb hby at_36) rfl (l' := #[.val (.int p1), .val (.int p2), .val (.int p3), .val (.int top), .val (.int (p3 &&& (3 : Int32))), .val (.int bel), .unset, .unset, .unset, .unset, .unset, .unset]) rfl k) ?_
  show own_G p.tables e below _ (s₁.setTop (mkF m 38 #[.val (.int p1), .val (.int p2), .val (.int p3), .val (.int top), .val (.int (p3 &&& (3 : Int32))), .val (.int bel), .unset, .unset, .unset, .unset, .unset, .unset] []))
  refine own_step (fun t k => XS.iloadN X0.here hx rfl (hb hby at_38) rfl k) ?_
  show own_G p.tables e below _ (s₁.setTop (mkF m 39 #[.val (.int p1), .val (.int p2), .val (.int p3), .val (.int top), .val (.int (p3 &&& (3 : Int32))), .val (.int bel), .unset, .unset, .unset, .unset, .unset, .unset] [(.int top)]))
  refine own_step (fun t k => XS.iload X0.here hx rfl (hb hby at_39) rfl k) ?_
  show own_G p.tables e below _ (s₁.setTop (mkF m 41 #[.val (.int p1), .val (.int p2), .val (.int p3), .val (.int top), .val (.int (p3 &&& (3 : Int32))), .val (.int bel), .unset, .unset, .unset, .unset, .unset, .unset] [(.int bel), (.int top)]))
  obtain ⟨_, _, ⟨T4, L4, k4, n4⟩, -, X4, ⟨Lc4, hQ4, l4, y4, z4⟩, st4⟩ := Jvm.LawKit.callS X0 hx (y := (⟨"com/example/dirtytree/dirtytree/Argb", "over", "(II)I"⟩ : MethodName)) hown (mvT hZ (hw _ (List.mem_of_getElem? (i := 1) rfl))) (mvT hZ (hw _ (List.mem_of_getElem? (i := 2) rfl))) (mvT hZ (hw _ (List.mem_of_getElem? (i := 3) rfl))) (mvT hZ (hw _ (List.mem_of_getElem? (i := 4) rfl))) (by decide) (backOf (W := 0) (rm1 l Z a0 hw [] top bel h0 n0 (Nat.le_trans Z0 (Keep.refl h0 []).1) ) hZ (hw _ (List.mem_of_getElem? (i := 4) rfl)) (hw _ (List.mem_of_getElem? (i := 3) rfl)) (by decide) (by decide)) (g := (mkF m 41 #[.val (.int p1), .val (.int p2), .val (.int p3), .val (.int top), .val (.int (p3 &&& (3 : Int32))), .val (.int bel), .unset, .unset, .unset, .unset, .unset, .unset] [(.int bel), (.int top)])) rfl (by rw [hml]; rfl) (argsL := [(.int top), (.int bel)]) (rest := []) (lenOf pd_0_0 rfl) rfl (by show 2 * 0 + _ ≤ _; exact Nat.le_of_eq rfl) (hb hby at_41) (fun _ _ => ⟨rfl, e0, (by decide : 0 + 0 ≤ _), (by decide : 0 + 0 ≤ _)⟩)
  dsimp only [Pt.U, Pt.locs, Pt.cells, Pt.slots] at X4 l4 y4 z4 st4 hQ4
  subst l4 y4 z4
  obtain ⟨rfl, N4q, e4⟩ := hQ4
  have N4 := Fr.app N0 N4q
  refine own_step st4 ?_
  show own_G p.tables e below _ (T4.setTop (mkF m 44 #[.val (.int p1), .val (.int p2), .val (.int p3), .val (.int top), .val (.int (p3 &&& (3 : Int32))), .val (.int bel), .unset, .unset, .unset, .unset, .unset, .unset] [(.int (own_f1 top bel))]))
  refine own_step (fun t k => XS.istore X4.here hx rfl (hb hby at_44) rfl (l' := #[.val (.int p1), .val (.int p2), .val (.int p3), .val (.int top), .val (.int (p3 &&& (3 : Int32))), .val (.int bel), .val (.int (own_f1 top bel)), .unset, .unset, .unset, .unset, .unset]) rfl k) ?_
  show own_G p.tables e below _ (T4.setTop (mkF m 46 #[.val (.int p1), .val (.int p2), .val (.int p3), .val (.int top), .val (.int (p3 &&& (3 : Int32))), .val (.int bel), .val (.int (own_f1 top bel)), .unset, .unset, .unset, .unset, .unset] []))
  refine own_step (fun t k => XS.iloadN X4.here hx rfl (hb hby at_46) rfl k) ?_
  show own_G p.tables e below _ (T4.setTop (mkF m 47 #[.val (.int p1), .val (.int p2), .val (.int p3), .val (.int top), .val (.int (p3 &&& (3 : Int32))), .val (.int bel), .val (.int (own_f1 top bel)), .unset, .unset, .unset, .unset, .unset] [(.int top)]))
  refine own_step (fun t k => XS.bipush X4.here hx rfl (hb hby at_47) k) ?_
  show own_G p.tables e below _ (T4.setTop (mkF m 49 #[.val (.int p1), .val (.int p2), .val (.int p3), .val (.int top), .val (.int (p3 &&& (3 : Int32))), .val (.int bel), .val (.int (own_f1 top bel)), .unset, .unset, .unset, .unset, .unset] [(.int (24 : Int32)), (.int top)]))
  refine own_step (fun t k => XS.ishr X4.here hx rfl (hb hby at_49) rfl k) ?_
  show own_G p.tables e below _ (T4.setTop (mkF m 50 #[.val (.int p1), .val (.int p2), .val (.int p3), .val (.int top), .val (.int (p3 &&& (3 : Int32))), .val (.int bel), .val (.int (own_f1 top bel)), .unset, .unset, .unset, .unset, .unset] [(.int (top >>> ((24 : Int32) &&& 31)))]))
  refine own_step (fun t k => XS.sipush X4.here hx rfl (hb hby at_50) k) ?_
  show own_G p.tables e below _ (T4.setTop (mkF m 53 #[.val (.int p1), .val (.int p2), .val (.int p3), .val (.int top), .val (.int (p3 &&& (3 : Int32))), .val (.int bel), .val (.int (own_f1 top bel)), .unset, .unset, .unset, .unset, .unset] [(.int (255 : Int32)), (.int (top >>> ((24 : Int32) &&& 31)))]))
  refine own_step (fun t k => XS.iand X4.here hx rfl (hb hby at_53) rfl k) ?_
  show own_G p.tables e below _ (T4.setTop (mkF m 54 #[.val (.int p1), .val (.int p2), .val (.int p3), .val (.int top), .val (.int (p3 &&& (3 : Int32))), .val (.int bel), .val (.int (own_f1 top bel)), .unset, .unset, .unset, .unset, .unset] [(.int ((top >>> ((24 : Int32) &&& 31)) &&& (255 : Int32)))]))
  refine own_nm (((top >>> ((24 : Int32) &&& 31)) &&& (255 : Int32)) : Int32) (fun al => T4.setTop (mkF m 54 #[.val (.int p1), .val (.int p2), .val (.int p3), .val (.int top), .val (.int (p3 &&& (3 : Int32))), .val (.int bel), .val (.int (own_f1 top bel)), .unset, .unset, .unset, .unset, .unset] [(.int al)])) ?_
  intro al hd_al
  show own_G p.tables e below _ (T4.setTop (mkF m 54 #[.val (.int p1), .val (.int p2), .val (.int p3), .val (.int top), .val (.int (p3 &&& (3 : Int32))), .val (.int bel), .val (.int (own_f1 top bel)), .unset, .unset, .unset, .unset, .unset] [(.int al)]))
  refine own_step (fun t k => XS.istore X4.here hx rfl (hb hby at_54) rfl (l' := #[.val (.int p1), .val (.int p2), .val (.int p3), .val (.int top), .val (.int (p3 &&& (3 : Int32))), .val (.int bel), .val (.int (own_f1 top bel)), .val (.int al), .unset, .unset, .unset, .unset]) rfl k) ?_
  show own_G p.tables e below _ (T4.setTop (mkF m 56 #[.val (.int p1), .val (.int p2), .val (.int p3), .val (.int top), .val (.int (p3 &&& (3 : Int32))), .val (.int bel), .val (.int (own_f1 top bel)), .val (.int al), .unset, .unset, .unset, .unset] []))
  refine own_step (fun t k => XS.iload X4.here hx rfl (hb hby at_56) rfl k) ?_
  show own_G p.tables e below _ (T4.setTop (mkF m 58 #[.val (.int p1), .val (.int p2), .val (.int p3), .val (.int top), .val (.int (p3 &&& (3 : Int32))), .val (.int bel), .val (.int (own_f1 top bel)), .val (.int al), .unset, .unset, .unset, .unset] [(.int al)]))
  refine own_step (fun t k => XS.iloadN X4.here hx rfl (hb hby at_58) rfl k) ?_
  show own_G p.tables e below _ (T4.setTop (mkF m 59 #[.val (.int p1), .val (.int p2), .val (.int p3), .val (.int top), .val (.int (p3 &&& (3 : Int32))), .val (.int bel), .val (.int (own_f1 top bel)), .val (.int al), .unset, .unset, .unset, .unset] [(.int top), (.int al)]))
  refine own_step (fun t k => XS.bipush X4.here hx rfl (hb hby at_59) k) ?_
  show own_G p.tables e below _ (T4.setTop (mkF m 61 #[.val (.int p1), .val (.int p2), .val (.int p3), .val (.int top), .val (.int (p3 &&& (3 : Int32))), .val (.int bel), .val (.int (own_f1 top bel)), .val (.int al), .unset, .unset, .unset, .unset] [(.int (16 : Int32)), (.int top), (.int al)]))
  refine own_step (fun t k => XS.ishr X4.here hx rfl (hb hby at_61) rfl k) ?_
  show own_G p.tables e below _ (T4.setTop (mkF m 62 #[.val (.int p1), .val (.int p2), .val (.int p3), .val (.int top), .val (.int (p3 &&& (3 : Int32))), .val (.int bel), .val (.int (own_f1 top bel)), .val (.int al), .unset, .unset, .unset, .unset] [(.int (top >>> ((16 : Int32) &&& 31))), (.int al)]))
  refine own_step (fun t k => XS.sipush X4.here hx rfl (hb hby at_62) k) ?_
  show own_G p.tables e below _ (T4.setTop (mkF m 65 #[.val (.int p1), .val (.int p2), .val (.int p3), .val (.int top), .val (.int (p3 &&& (3 : Int32))), .val (.int bel), .val (.int (own_f1 top bel)), .val (.int al), .unset, .unset, .unset, .unset] [(.int (255 : Int32)), (.int (top >>> ((16 : Int32) &&& 31))), (.int al)]))
  refine own_step (fun t k => XS.iand X4.here hx rfl (hb hby at_65) rfl k) ?_
  show own_G p.tables e below _ (T4.setTop (mkF m 66 #[.val (.int p1), .val (.int p2), .val (.int p3), .val (.int top), .val (.int (p3 &&& (3 : Int32))), .val (.int bel), .val (.int (own_f1 top bel)), .val (.int al), .unset, .unset, .unset, .unset] [(.int ((top >>> ((16 : Int32) &&& 31)) &&& (255 : Int32))), (.int al)]))
  refine own_step (fun t k => XS.iload X4.here hx rfl (hb hby at_66) rfl k) ?_
  show own_G p.tables e below _ (T4.setTop (mkF m 68 #[.val (.int p1), .val (.int p2), .val (.int p3), .val (.int top), .val (.int (p3 &&& (3 : Int32))), .val (.int bel), .val (.int (own_f1 top bel)), .val (.int al), .unset, .unset, .unset, .unset] [(.int bel), (.int ((top >>> ((16 : Int32) &&& 31)) &&& (255 : Int32))), (.int al)]))
  refine own_step (fun t k => XS.bipush X4.here hx rfl (hb hby at_68) k) ?_
  show own_G p.tables e below _ (T4.setTop (mkF m 70 #[.val (.int p1), .val (.int p2), .val (.int p3), .val (.int top), .val (.int (p3 &&& (3 : Int32))), .val (.int bel), .val (.int (own_f1 top bel)), .val (.int al), .unset, .unset, .unset, .unset] [(.int (16 : Int32)), (.int bel), (.int ((top >>> ((16 : Int32) &&& 31)) &&& (255 : Int32))), (.int al)]))
  refine own_step (fun t k => XS.ishr X4.here hx rfl (hb hby at_70) rfl k) ?_
  show own_G p.tables e below _ (T4.setTop (mkF m 71 #[.val (.int p1), .val (.int p2), .val (.int p3), .val (.int top), .val (.int (p3 &&& (3 : Int32))), .val (.int bel), .val (.int (own_f1 top bel)), .val (.int al), .unset, .unset, .unset, .unset] [(.int (bel >>> ((16 : Int32) &&& 31))), (.int ((top >>> ((16 : Int32) &&& 31)) &&& (255 : Int32))), (.int al)]))
  refine own_step (fun t k => XS.sipush X4.here hx rfl (hb hby at_71) k) ?_
  show own_G p.tables e below _ (T4.setTop (mkF m 74 #[.val (.int p1), .val (.int p2), .val (.int p3), .val (.int top), .val (.int (p3 &&& (3 : Int32))), .val (.int bel), .val (.int (own_f1 top bel)), .val (.int al), .unset, .unset, .unset, .unset] [(.int (255 : Int32)), (.int (bel >>> ((16 : Int32) &&& 31))), (.int ((top >>> ((16 : Int32) &&& 31)) &&& (255 : Int32))), (.int al)]))
  refine own_step (fun t k => XS.iand X4.here hx rfl (hb hby at_74) rfl k) ?_
  show own_G p.tables e below _ (T4.setTop (mkF m 75 #[.val (.int p1), .val (.int p2), .val (.int p3), .val (.int top), .val (.int (p3 &&& (3 : Int32))), .val (.int bel), .val (.int (own_f1 top bel)), .val (.int al), .unset, .unset, .unset, .unset] [(.int ((bel >>> ((16 : Int32) &&& 31)) &&& (255 : Int32))), (.int ((top >>> ((16 : Int32) &&& 31)) &&& (255 : Int32))), (.int al)]))
  obtain ⟨_, _, ⟨T6, L6, k6, n6⟩, -, X6, ⟨Lc6, hQ6, l6, y6, z6⟩, st6⟩ := Jvm.LawKit.callS X4 hx (y := (⟨"com/example/dirtytree/dirtytree/ArgbOverPinLaw", "channel", "(III)I"⟩ : MethodName)) hown (mvT hZ (hw _ (List.mem_of_getElem? (i := 8) rfl))) (mvT hZ (hw _ (List.mem_of_getElem? (i := 9) rfl))) (mvT hZ (hw _ (List.mem_of_getElem? (i := 10) rfl))) (mvT hZ (hw _ (List.mem_of_getElem? (i := 11) rfl))) (by decide) (backOf (W := 0) (rm3 l Z a0 hw [] al ((top >>> ((16 : Int32) &&& 31)) &&& (255 : Int32)) ((bel >>> ((16 : Int32) &&& 31)) &&& (255 : Int32)) h0 n0 (Nat.le_trans Z0 (Keep.refl h0 []).1) ) hZ (hw _ (List.mem_of_getElem? (i := 11) rfl)) (hw _ (List.mem_of_getElem? (i := 10) rfl)) (by decide) (by decide)) (g := (mkF m 75 #[.val (.int p1), .val (.int p2), .val (.int p3), .val (.int top), .val (.int (p3 &&& (3 : Int32))), .val (.int bel), .val (.int (own_f1 top bel)), .val (.int al), .unset, .unset, .unset, .unset] [(.int ((bel >>> ((16 : Int32) &&& 31)) &&& (255 : Int32))), (.int ((top >>> ((16 : Int32) &&& 31)) &&& (255 : Int32))), (.int al)])) rfl (by rw [hml]; rfl) (argsL := [(.int al), (.int ((top >>> ((16 : Int32) &&& 31)) &&& (255 : Int32))), (.int ((bel >>> ((16 : Int32) &&& 31)) &&& (255 : Int32)))]) (rest := []) (lenOf pd_0_1 rfl) rfl (by show 2 * 0 + _ ≤ _; exact Nat.le_of_eq rfl) (hb hby at_75) (fun _ _ => ⟨rfl, e4, (by decide : 0 + 0 ≤ _), (by decide : 0 + 0 ≤ _)⟩)
  dsimp only [Pt.U, Pt.locs, Pt.cells, Pt.slots] at X6 l6 y6 z6 st6 hQ6
  subst l6 y6 z6
  obtain ⟨rfl, N6q, e6⟩ := hQ6
  have N6 := Fr.app N4 N6q
  refine own_step st6 ?_
  show own_G p.tables e below _ (T6.setTop (mkF m 78 #[.val (.int p1), .val (.int p2), .val (.int p3), .val (.int top), .val (.int (p3 &&& (3 : Int32))), .val (.int bel), .val (.int (own_f1 top bel)), .val (.int al), .unset, .unset, .unset, .unset] [(.int ((((al * ((top >>> ((16 : Int32) &&& 31)) &&& (255 : Int32))) + (((255 : Int32) - al) * ((bel >>> ((16 : Int32) &&& 31)) &&& (255 : Int32)))) + (127 : Int32)) / (255 : Int32)))]))
  refine own_step (fun t k => XS.istore X6.here hx rfl (hb hby at_78) rfl (l' := #[.val (.int p1), .val (.int p2), .val (.int p3), .val (.int top), .val (.int (p3 &&& (3 : Int32))), .val (.int bel), .val (.int (own_f1 top bel)), .val (.int al), .val (.int ((((al * ((top >>> ((16 : Int32) &&& 31)) &&& (255 : Int32))) + (((255 : Int32) - al) * ((bel >>> ((16 : Int32) &&& 31)) &&& (255 : Int32)))) + (127 : Int32)) / (255 : Int32))), .unset, .unset, .unset]) rfl k) ?_
  show own_G p.tables e below _ (T6.setTop (mkF m 80 #[.val (.int p1), .val (.int p2), .val (.int p3), .val (.int top), .val (.int (p3 &&& (3 : Int32))), .val (.int bel), .val (.int (own_f1 top bel)), .val (.int al), .val (.int ((((al * ((top >>> ((16 : Int32) &&& 31)) &&& (255 : Int32))) + (((255 : Int32) - al) * ((bel >>> ((16 : Int32) &&& 31)) &&& (255 : Int32)))) + (127 : Int32)) / (255 : Int32))), .unset, .unset, .unset] []))
  refine own_step (fun t k => XS.iload X6.here hx rfl (hb hby at_80) rfl k) ?_
  show own_G p.tables e below _ (T6.setTop (mkF m 82 #[.val (.int p1), .val (.int p2), .val (.int p3), .val (.int top), .val (.int (p3 &&& (3 : Int32))), .val (.int bel), .val (.int (own_f1 top bel)), .val (.int al), .val (.int ((((al * ((top >>> ((16 : Int32) &&& 31)) &&& (255 : Int32))) + (((255 : Int32) - al) * ((bel >>> ((16 : Int32) &&& 31)) &&& (255 : Int32)))) + (127 : Int32)) / (255 : Int32))), .unset, .unset, .unset] [(.int al)]))
  refine own_step (fun t k => XS.iloadN X6.here hx rfl (hb hby at_82) rfl k) ?_
  show own_G p.tables e below _ (T6.setTop (mkF m 83 #[.val (.int p1), .val (.int p2), .val (.int p3), .val (.int top), .val (.int (p3 &&& (3 : Int32))), .val (.int bel), .val (.int (own_f1 top bel)), .val (.int al), .val (.int ((((al * ((top >>> ((16 : Int32) &&& 31)) &&& (255 : Int32))) + (((255 : Int32) - al) * ((bel >>> ((16 : Int32) &&& 31)) &&& (255 : Int32)))) + (127 : Int32)) / (255 : Int32))), .unset, .unset, .unset] [(.int top), (.int al)]))
  refine own_step (fun t k => XS.bipush X6.here hx rfl (hb hby at_83) k) ?_
  show own_G p.tables e below _ (T6.setTop (mkF m 85 #[.val (.int p1), .val (.int p2), .val (.int p3), .val (.int top), .val (.int (p3 &&& (3 : Int32))), .val (.int bel), .val (.int (own_f1 top bel)), .val (.int al), .val (.int ((((al * ((top >>> ((16 : Int32) &&& 31)) &&& (255 : Int32))) + (((255 : Int32) - al) * ((bel >>> ((16 : Int32) &&& 31)) &&& (255 : Int32)))) + (127 : Int32)) / (255 : Int32))), .unset, .unset, .unset] [(.int (8 : Int32)), (.int top), (.int al)]))
  refine own_step (fun t k => XS.ishr X6.here hx rfl (hb hby at_85) rfl k) ?_
  show own_G p.tables e below _ (T6.setTop (mkF m 86 #[.val (.int p1), .val (.int p2), .val (.int p3), .val (.int top), .val (.int (p3 &&& (3 : Int32))), .val (.int bel), .val (.int (own_f1 top bel)), .val (.int al), .val (.int ((((al * ((top >>> ((16 : Int32) &&& 31)) &&& (255 : Int32))) + (((255 : Int32) - al) * ((bel >>> ((16 : Int32) &&& 31)) &&& (255 : Int32)))) + (127 : Int32)) / (255 : Int32))), .unset, .unset, .unset] [(.int (top >>> ((8 : Int32) &&& 31))), (.int al)]))
  refine own_step (fun t k => XS.sipush X6.here hx rfl (hb hby at_86) k) ?_
  show own_G p.tables e below _ (T6.setTop (mkF m 89 #[.val (.int p1), .val (.int p2), .val (.int p3), .val (.int top), .val (.int (p3 &&& (3 : Int32))), .val (.int bel), .val (.int (own_f1 top bel)), .val (.int al), .val (.int ((((al * ((top >>> ((16 : Int32) &&& 31)) &&& (255 : Int32))) + (((255 : Int32) - al) * ((bel >>> ((16 : Int32) &&& 31)) &&& (255 : Int32)))) + (127 : Int32)) / (255 : Int32))), .unset, .unset, .unset] [(.int (255 : Int32)), (.int (top >>> ((8 : Int32) &&& 31))), (.int al)]))
  refine own_step (fun t k => XS.iand X6.here hx rfl (hb hby at_89) rfl k) ?_
  show own_G p.tables e below _ (T6.setTop (mkF m 90 #[.val (.int p1), .val (.int p2), .val (.int p3), .val (.int top), .val (.int (p3 &&& (3 : Int32))), .val (.int bel), .val (.int (own_f1 top bel)), .val (.int al), .val (.int ((((al * ((top >>> ((16 : Int32) &&& 31)) &&& (255 : Int32))) + (((255 : Int32) - al) * ((bel >>> ((16 : Int32) &&& 31)) &&& (255 : Int32)))) + (127 : Int32)) / (255 : Int32))), .unset, .unset, .unset] [(.int ((top >>> ((8 : Int32) &&& 31)) &&& (255 : Int32))), (.int al)]))
  refine own_step (fun t k => XS.iload X6.here hx rfl (hb hby at_90) rfl k) ?_
  show own_G p.tables e below _ (T6.setTop (mkF m 92 #[.val (.int p1), .val (.int p2), .val (.int p3), .val (.int top), .val (.int (p3 &&& (3 : Int32))), .val (.int bel), .val (.int (own_f1 top bel)), .val (.int al), .val (.int ((((al * ((top >>> ((16 : Int32) &&& 31)) &&& (255 : Int32))) + (((255 : Int32) - al) * ((bel >>> ((16 : Int32) &&& 31)) &&& (255 : Int32)))) + (127 : Int32)) / (255 : Int32))), .unset, .unset, .unset] [(.int bel), (.int ((top >>> ((8 : Int32) &&& 31)) &&& (255 : Int32))), (.int al)]))
  refine own_step (fun t k => XS.bipush X6.here hx rfl (hb hby at_92) k) ?_
  show own_G p.tables e below _ (T6.setTop (mkF m 94 #[.val (.int p1), .val (.int p2), .val (.int p3), .val (.int top), .val (.int (p3 &&& (3 : Int32))), .val (.int bel), .val (.int (own_f1 top bel)), .val (.int al), .val (.int ((((al * ((top >>> ((16 : Int32) &&& 31)) &&& (255 : Int32))) + (((255 : Int32) - al) * ((bel >>> ((16 : Int32) &&& 31)) &&& (255 : Int32)))) + (127 : Int32)) / (255 : Int32))), .unset, .unset, .unset] [(.int (8 : Int32)), (.int bel), (.int ((top >>> ((8 : Int32) &&& 31)) &&& (255 : Int32))), (.int al)]))
  refine own_step (fun t k => XS.ishr X6.here hx rfl (hb hby at_94) rfl k) ?_
  show own_G p.tables e below _ (T6.setTop (mkF m 95 #[.val (.int p1), .val (.int p2), .val (.int p3), .val (.int top), .val (.int (p3 &&& (3 : Int32))), .val (.int bel), .val (.int (own_f1 top bel)), .val (.int al), .val (.int ((((al * ((top >>> ((16 : Int32) &&& 31)) &&& (255 : Int32))) + (((255 : Int32) - al) * ((bel >>> ((16 : Int32) &&& 31)) &&& (255 : Int32)))) + (127 : Int32)) / (255 : Int32))), .unset, .unset, .unset] [(.int (bel >>> ((8 : Int32) &&& 31))), (.int ((top >>> ((8 : Int32) &&& 31)) &&& (255 : Int32))), (.int al)]))
  refine own_step (fun t k => XS.sipush X6.here hx rfl (hb hby at_95) k) ?_
  show own_G p.tables e below _ (T6.setTop (mkF m 98 #[.val (.int p1), .val (.int p2), .val (.int p3), .val (.int top), .val (.int (p3 &&& (3 : Int32))), .val (.int bel), .val (.int (own_f1 top bel)), .val (.int al), .val (.int ((((al * ((top >>> ((16 : Int32) &&& 31)) &&& (255 : Int32))) + (((255 : Int32) - al) * ((bel >>> ((16 : Int32) &&& 31)) &&& (255 : Int32)))) + (127 : Int32)) / (255 : Int32))), .unset, .unset, .unset] [(.int (255 : Int32)), (.int (bel >>> ((8 : Int32) &&& 31))), (.int ((top >>> ((8 : Int32) &&& 31)) &&& (255 : Int32))), (.int al)]))
  refine own_step (fun t k => XS.iand X6.here hx rfl (hb hby at_98) rfl k) ?_
  show own_G p.tables e below _ (T6.setTop (mkF m 99 #[.val (.int p1), .val (.int p2), .val (.int p3), .val (.int top), .val (.int (p3 &&& (3 : Int32))), .val (.int bel), .val (.int (own_f1 top bel)), .val (.int al), .val (.int ((((al * ((top >>> ((16 : Int32) &&& 31)) &&& (255 : Int32))) + (((255 : Int32) - al) * ((bel >>> ((16 : Int32) &&& 31)) &&& (255 : Int32)))) + (127 : Int32)) / (255 : Int32))), .unset, .unset, .unset] [(.int ((bel >>> ((8 : Int32) &&& 31)) &&& (255 : Int32))), (.int ((top >>> ((8 : Int32) &&& 31)) &&& (255 : Int32))), (.int al)]))
  obtain ⟨_, _, ⟨T7, L7, k7, n7⟩, -, X7, ⟨Lc7, hQ7, l7, y7, z7⟩, st7⟩ := Jvm.LawKit.callS X6 hx (y := (⟨"com/example/dirtytree/dirtytree/ArgbOverPinLaw", "channel", "(III)I"⟩ : MethodName)) hown (mvT hZ (hw _ (List.mem_of_getElem? (i := 8) rfl))) (mvT hZ (hw _ (List.mem_of_getElem? (i := 9) rfl))) (mvT hZ (hw _ (List.mem_of_getElem? (i := 10) rfl))) (mvT hZ (hw _ (List.mem_of_getElem? (i := 11) rfl))) (by decide) (backOf (W := 0) (rm3 l Z a0 hw [] al ((top >>> ((8 : Int32) &&& 31)) &&& (255 : Int32)) ((bel >>> ((8 : Int32) &&& 31)) &&& (255 : Int32)) h0 n0 (Nat.le_trans Z0 (Keep.refl h0 []).1) ) hZ (hw _ (List.mem_of_getElem? (i := 11) rfl)) (hw _ (List.mem_of_getElem? (i := 10) rfl)) (by decide) (by decide)) (g := (mkF m 99 #[.val (.int p1), .val (.int p2), .val (.int p3), .val (.int top), .val (.int (p3 &&& (3 : Int32))), .val (.int bel), .val (.int (own_f1 top bel)), .val (.int al), .val (.int ((((al * ((top >>> ((16 : Int32) &&& 31)) &&& (255 : Int32))) + (((255 : Int32) - al) * ((bel >>> ((16 : Int32) &&& 31)) &&& (255 : Int32)))) + (127 : Int32)) / (255 : Int32))), .unset, .unset, .unset] [(.int ((bel >>> ((8 : Int32) &&& 31)) &&& (255 : Int32))), (.int ((top >>> ((8 : Int32) &&& 31)) &&& (255 : Int32))), (.int al)])) rfl (by rw [hml]; rfl) (argsL := [(.int al), (.int ((top >>> ((8 : Int32) &&& 31)) &&& (255 : Int32))), (.int ((bel >>> ((8 : Int32) &&& 31)) &&& (255 : Int32)))]) (rest := []) (lenOf pd_0_1 rfl) rfl (by show 2 * 0 + _ ≤ _; exact Nat.le_of_eq rfl) (hb hby at_99) (fun _ _ => ⟨rfl, e6, (by decide : 0 + 0 ≤ _), (by decide : 0 + 0 ≤ _)⟩)
  dsimp only [Pt.U, Pt.locs, Pt.cells, Pt.slots] at X7 l7 y7 z7 st7 hQ7
  subst l7 y7 z7
  obtain ⟨rfl, N7q, e7⟩ := hQ7
  have N7 := Fr.app N6 N7q
  refine own_step st7 ?_
  show own_G p.tables e below _ (T7.setTop (mkF m 102 #[.val (.int p1), .val (.int p2), .val (.int p3), .val (.int top), .val (.int (p3 &&& (3 : Int32))), .val (.int bel), .val (.int (own_f1 top bel)), .val (.int al), .val (.int ((((al * ((top >>> ((16 : Int32) &&& 31)) &&& (255 : Int32))) + (((255 : Int32) - al) * ((bel >>> ((16 : Int32) &&& 31)) &&& (255 : Int32)))) + (127 : Int32)) / (255 : Int32))), .unset, .unset, .unset] [(.int ((((al * ((top >>> ((8 : Int32) &&& 31)) &&& (255 : Int32))) + (((255 : Int32) - al) * ((bel >>> ((8 : Int32) &&& 31)) &&& (255 : Int32)))) + (127 : Int32)) / (255 : Int32)))]))
  refine own_step (fun t k => XS.istore X7.here hx rfl (hb hby at_102) rfl (l' := #[.val (.int p1), .val (.int p2), .val (.int p3), .val (.int top), .val (.int (p3 &&& (3 : Int32))), .val (.int bel), .val (.int (own_f1 top bel)), .val (.int al), .val (.int ((((al * ((top >>> ((16 : Int32) &&& 31)) &&& (255 : Int32))) + (((255 : Int32) - al) * ((bel >>> ((16 : Int32) &&& 31)) &&& (255 : Int32)))) + (127 : Int32)) / (255 : Int32))), .val (.int ((((al * ((top >>> ((8 : Int32) &&& 31)) &&& (255 : Int32))) + (((255 : Int32) - al) * ((bel >>> ((8 : Int32) &&& 31)) &&& (255 : Int32)))) + (127 : Int32)) / (255 : Int32))), .unset, .unset]) rfl k) ?_
  show own_G p.tables e below _ (T7.setTop (mkF m 104 #[.val (.int p1), .val (.int p2), .val (.int p3), .val (.int top), .val (.int (p3 &&& (3 : Int32))), .val (.int bel), .val (.int (own_f1 top bel)), .val (.int al), .val (.int ((((al * ((top >>> ((16 : Int32) &&& 31)) &&& (255 : Int32))) + (((255 : Int32) - al) * ((bel >>> ((16 : Int32) &&& 31)) &&& (255 : Int32)))) + (127 : Int32)) / (255 : Int32))), .val (.int ((((al * ((top >>> ((8 : Int32) &&& 31)) &&& (255 : Int32))) + (((255 : Int32) - al) * ((bel >>> ((8 : Int32) &&& 31)) &&& (255 : Int32)))) + (127 : Int32)) / (255 : Int32))), .unset, .unset] []))
  refine own_step (fun t k => XS.iload X7.here hx rfl (hb hby at_104) rfl k) ?_
  show own_G p.tables e below _ (T7.setTop (mkF m 106 #[.val (.int p1), .val (.int p2), .val (.int p3), .val (.int top), .val (.int (p3 &&& (3 : Int32))), .val (.int bel), .val (.int (own_f1 top bel)), .val (.int al), .val (.int ((((al * ((top >>> ((16 : Int32) &&& 31)) &&& (255 : Int32))) + (((255 : Int32) - al) * ((bel >>> ((16 : Int32) &&& 31)) &&& (255 : Int32)))) + (127 : Int32)) / (255 : Int32))), .val (.int ((((al * ((top >>> ((8 : Int32) &&& 31)) &&& (255 : Int32))) + (((255 : Int32) - al) * ((bel >>> ((8 : Int32) &&& 31)) &&& (255 : Int32)))) + (127 : Int32)) / (255 : Int32))), .unset, .unset] [(.int al)]))
  refine own_step (fun t k => XS.iloadN X7.here hx rfl (hb hby at_106) rfl k) ?_
  show own_G p.tables e below _ (T7.setTop (mkF m 107 #[.val (.int p1), .val (.int p2), .val (.int p3), .val (.int top), .val (.int (p3 &&& (3 : Int32))), .val (.int bel), .val (.int (own_f1 top bel)), .val (.int al), .val (.int ((((al * ((top >>> ((16 : Int32) &&& 31)) &&& (255 : Int32))) + (((255 : Int32) - al) * ((bel >>> ((16 : Int32) &&& 31)) &&& (255 : Int32)))) + (127 : Int32)) / (255 : Int32))), .val (.int ((((al * ((top >>> ((8 : Int32) &&& 31)) &&& (255 : Int32))) + (((255 : Int32) - al) * ((bel >>> ((8 : Int32) &&& 31)) &&& (255 : Int32)))) + (127 : Int32)) / (255 : Int32))), .unset, .unset] [(.int top), (.int al)]))
  refine own_step (fun t k => XS.sipush X7.here hx rfl (hb hby at_107) k) ?_
  show own_G p.tables e below _ (T7.setTop (mkF m 110 #[.val (.int p1), .val (.int p2), .val (.int p3), .val (.int top), .val (.int (p3 &&& (3 : Int32))), .val (.int bel), .val (.int (own_f1 top bel)), .val (.int al), .val (.int ((((al * ((top >>> ((16 : Int32) &&& 31)) &&& (255 : Int32))) + (((255 : Int32) - al) * ((bel >>> ((16 : Int32) &&& 31)) &&& (255 : Int32)))) + (127 : Int32)) / (255 : Int32))), .val (.int ((((al * ((top >>> ((8 : Int32) &&& 31)) &&& (255 : Int32))) + (((255 : Int32) - al) * ((bel >>> ((8 : Int32) &&& 31)) &&& (255 : Int32)))) + (127 : Int32)) / (255 : Int32))), .unset, .unset] [(.int (255 : Int32)), (.int top), (.int al)]))
  refine own_step (fun t k => XS.iand X7.here hx rfl (hb hby at_110) rfl k) ?_
  show own_G p.tables e below _ (T7.setTop (mkF m 111 #[.val (.int p1), .val (.int p2), .val (.int p3), .val (.int top), .val (.int (p3 &&& (3 : Int32))), .val (.int bel), .val (.int (own_f1 top bel)), .val (.int al), .val (.int ((((al * ((top >>> ((16 : Int32) &&& 31)) &&& (255 : Int32))) + (((255 : Int32) - al) * ((bel >>> ((16 : Int32) &&& 31)) &&& (255 : Int32)))) + (127 : Int32)) / (255 : Int32))), .val (.int ((((al * ((top >>> ((8 : Int32) &&& 31)) &&& (255 : Int32))) + (((255 : Int32) - al) * ((bel >>> ((8 : Int32) &&& 31)) &&& (255 : Int32)))) + (127 : Int32)) / (255 : Int32))), .unset, .unset] [(.int (top &&& (255 : Int32))), (.int al)]))
  refine own_step (fun t k => XS.iload X7.here hx rfl (hb hby at_111) rfl k) ?_
  show own_G p.tables e below _ (T7.setTop (mkF m 113 #[.val (.int p1), .val (.int p2), .val (.int p3), .val (.int top), .val (.int (p3 &&& (3 : Int32))), .val (.int bel), .val (.int (own_f1 top bel)), .val (.int al), .val (.int ((((al * ((top >>> ((16 : Int32) &&& 31)) &&& (255 : Int32))) + (((255 : Int32) - al) * ((bel >>> ((16 : Int32) &&& 31)) &&& (255 : Int32)))) + (127 : Int32)) / (255 : Int32))), .val (.int ((((al * ((top >>> ((8 : Int32) &&& 31)) &&& (255 : Int32))) + (((255 : Int32) - al) * ((bel >>> ((8 : Int32) &&& 31)) &&& (255 : Int32)))) + (127 : Int32)) / (255 : Int32))), .unset, .unset] [(.int bel), (.int (top &&& (255 : Int32))), (.int al)]))
  refine own_step (fun t k => XS.sipush X7.here hx rfl (hb hby at_113) k) ?_
  show own_G p.tables e below _ (T7.setTop (mkF m 116 #[.val (.int p1), .val (.int p2), .val (.int p3), .val (.int top), .val (.int (p3 &&& (3 : Int32))), .val (.int bel), .val (.int (own_f1 top bel)), .val (.int al), .val (.int ((((al * ((top >>> ((16 : Int32) &&& 31)) &&& (255 : Int32))) + (((255 : Int32) - al) * ((bel >>> ((16 : Int32) &&& 31)) &&& (255 : Int32)))) + (127 : Int32)) / (255 : Int32))), .val (.int ((((al * ((top >>> ((8 : Int32) &&& 31)) &&& (255 : Int32))) + (((255 : Int32) - al) * ((bel >>> ((8 : Int32) &&& 31)) &&& (255 : Int32)))) + (127 : Int32)) / (255 : Int32))), .unset, .unset] [(.int (255 : Int32)), (.int bel), (.int (top &&& (255 : Int32))), (.int al)]))
  refine own_step (fun t k => XS.iand X7.here hx rfl (hb hby at_116) rfl k) ?_
  show own_G p.tables e below _ (T7.setTop (mkF m 117 #[.val (.int p1), .val (.int p2), .val (.int p3), .val (.int top), .val (.int (p3 &&& (3 : Int32))), .val (.int bel), .val (.int (own_f1 top bel)), .val (.int al), .val (.int ((((al * ((top >>> ((16 : Int32) &&& 31)) &&& (255 : Int32))) + (((255 : Int32) - al) * ((bel >>> ((16 : Int32) &&& 31)) &&& (255 : Int32)))) + (127 : Int32)) / (255 : Int32))), .val (.int ((((al * ((top >>> ((8 : Int32) &&& 31)) &&& (255 : Int32))) + (((255 : Int32) - al) * ((bel >>> ((8 : Int32) &&& 31)) &&& (255 : Int32)))) + (127 : Int32)) / (255 : Int32))), .unset, .unset] [(.int (bel &&& (255 : Int32))), (.int (top &&& (255 : Int32))), (.int al)]))
  obtain ⟨_, _, ⟨T8, L8, k8, n8⟩, -, X8, ⟨Lc8, hQ8, l8, y8, z8⟩, st8⟩ := Jvm.LawKit.callS X7 hx (y := (⟨"com/example/dirtytree/dirtytree/ArgbOverPinLaw", "channel", "(III)I"⟩ : MethodName)) hown (mvT hZ (hw _ (List.mem_of_getElem? (i := 8) rfl))) (mvT hZ (hw _ (List.mem_of_getElem? (i := 9) rfl))) (mvT hZ (hw _ (List.mem_of_getElem? (i := 10) rfl))) (mvT hZ (hw _ (List.mem_of_getElem? (i := 11) rfl))) (by decide) (backOf (W := 0) (rm3 l Z a0 hw [] al (top &&& (255 : Int32)) (bel &&& (255 : Int32)) h0 n0 (Nat.le_trans Z0 (Keep.refl h0 []).1) ) hZ (hw _ (List.mem_of_getElem? (i := 11) rfl)) (hw _ (List.mem_of_getElem? (i := 10) rfl)) (by decide) (by decide)) (g := (mkF m 117 #[.val (.int p1), .val (.int p2), .val (.int p3), .val (.int top), .val (.int (p3 &&& (3 : Int32))), .val (.int bel), .val (.int (own_f1 top bel)), .val (.int al), .val (.int ((((al * ((top >>> ((16 : Int32) &&& 31)) &&& (255 : Int32))) + (((255 : Int32) - al) * ((bel >>> ((16 : Int32) &&& 31)) &&& (255 : Int32)))) + (127 : Int32)) / (255 : Int32))), .val (.int ((((al * ((top >>> ((8 : Int32) &&& 31)) &&& (255 : Int32))) + (((255 : Int32) - al) * ((bel >>> ((8 : Int32) &&& 31)) &&& (255 : Int32)))) + (127 : Int32)) / (255 : Int32))), .unset, .unset] [(.int (bel &&& (255 : Int32))), (.int (top &&& (255 : Int32))), (.int al)])) rfl (by rw [hml]; rfl) (argsL := [(.int al), (.int (top &&& (255 : Int32))), (.int (bel &&& (255 : Int32)))]) (rest := []) (lenOf pd_0_1 rfl) rfl (by show 2 * 0 + _ ≤ _; exact Nat.le_of_eq rfl) (hb hby at_117) (fun _ _ => ⟨rfl, e7, (by decide : 0 + 0 ≤ _), (by decide : 0 + 0 ≤ _)⟩)
  dsimp only [Pt.U, Pt.locs, Pt.cells, Pt.slots] at X8 l8 y8 z8 st8 hQ8
  subst l8 y8 z8
  obtain ⟨rfl, N8q, e8⟩ := hQ8
  have N8 := Fr.app N7 N8q
  refine own_step st8 ?_
  show own_G p.tables e below _ (T8.setTop (mkF m 120 #[.val (.int p1), .val (.int p2), .val (.int p3), .val (.int top), .val (.int (p3 &&& (3 : Int32))), .val (.int bel), .val (.int (own_f1 top bel)), .val (.int al), .val (.int ((((al * ((top >>> ((16 : Int32) &&& 31)) &&& (255 : Int32))) + (((255 : Int32) - al) * ((bel >>> ((16 : Int32) &&& 31)) &&& (255 : Int32)))) + (127 : Int32)) / (255 : Int32))), .val (.int ((((al * ((top >>> ((8 : Int32) &&& 31)) &&& (255 : Int32))) + (((255 : Int32) - al) * ((bel >>> ((8 : Int32) &&& 31)) &&& (255 : Int32)))) + (127 : Int32)) / (255 : Int32))), .unset, .unset] [(.int ((((al * (top &&& (255 : Int32))) + (((255 : Int32) - al) * (bel &&& (255 : Int32)))) + (127 : Int32)) / (255 : Int32)))]))
  refine own_step (fun t k => XS.istore X8.here hx rfl (hb hby at_120) rfl (l' := #[.val (.int p1), .val (.int p2), .val (.int p3), .val (.int top), .val (.int (p3 &&& (3 : Int32))), .val (.int bel), .val (.int (own_f1 top bel)), .val (.int al), .val (.int ((((al * ((top >>> ((16 : Int32) &&& 31)) &&& (255 : Int32))) + (((255 : Int32) - al) * ((bel >>> ((16 : Int32) &&& 31)) &&& (255 : Int32)))) + (127 : Int32)) / (255 : Int32))), .val (.int ((((al * ((top >>> ((8 : Int32) &&& 31)) &&& (255 : Int32))) + (((255 : Int32) - al) * ((bel >>> ((8 : Int32) &&& 31)) &&& (255 : Int32)))) + (127 : Int32)) / (255 : Int32))), .val (.int ((((al * (top &&& (255 : Int32))) + (((255 : Int32) - al) * (bel &&& (255 : Int32)))) + (127 : Int32)) / (255 : Int32))), .unset]) rfl k) ?_
  show own_G p.tables e below _ (T8.setTop (mkF m 122 #[.val (.int p1), .val (.int p2), .val (.int p3), .val (.int top), .val (.int (p3 &&& (3 : Int32))), .val (.int bel), .val (.int (own_f1 top bel)), .val (.int al), .val (.int ((((al * ((top >>> ((16 : Int32) &&& 31)) &&& (255 : Int32))) + (((255 : Int32) - al) * ((bel >>> ((16 : Int32) &&& 31)) &&& (255 : Int32)))) + (127 : Int32)) / (255 : Int32))), .val (.int ((((al * ((top >>> ((8 : Int32) &&& 31)) &&& (255 : Int32))) + (((255 : Int32) - al) * ((bel >>> ((8 : Int32) &&& 31)) &&& (255 : Int32)))) + (127 : Int32)) / (255 : Int32))), .val (.int ((((al * (top &&& (255 : Int32))) + (((255 : Int32) - al) * (bel &&& (255 : Int32)))) + (127 : Int32)) / (255 : Int32))), .unset] []))
  refine own_step (fun t k => XS.iload X8.here hx rfl (hb hby at_122) rfl k) ?_
  show own_G p.tables e below _ (T8.setTop (mkF m 124 #[.val (.int p1), .val (.int p2), .val (.int p3), .val (.int top), .val (.int (p3 &&& (3 : Int32))), .val (.int bel), .val (.int (own_f1 top bel)), .val (.int al), .val (.int ((((al * ((top >>> ((16 : Int32) &&& 31)) &&& (255 : Int32))) + (((255 : Int32) - al) * ((bel >>> ((16 : Int32) &&& 31)) &&& (255 : Int32)))) + (127 : Int32)) / (255 : Int32))), .val (.int ((((al * ((top >>> ((8 : Int32) &&& 31)) &&& (255 : Int32))) + (((255 : Int32) - al) * ((bel >>> ((8 : Int32) &&& 31)) &&& (255 : Int32)))) + (127 : Int32)) / (255 : Int32))), .val (.int ((((al * (top &&& (255 : Int32))) + (((255 : Int32) - al) * (bel &&& (255 : Int32)))) + (127 : Int32)) / (255 : Int32))), .unset] [(.int ((((al * ((top >>> ((16 : Int32) &&& 31)) &&& (255 : Int32))) + (((255 : Int32) - al) * ((bel >>> ((16 : Int32) &&& 31)) &&& (255 : Int32)))) + (127 : Int32)) / (255 : Int32)))]))
  refine own_step (X8.ldcInt hx hown (mvT hZ (hw _ (List.mem_of_getElem? (i := 12) rfl))) (g := (mkF m 124 #[.val (.int p1), .val (.int p2), .val (.int p3), .val (.int top), .val (.int (p3 &&& (3 : Int32))), .val (.int bel), .val (.int (own_f1 top bel)), .val (.int al), .val (.int ((((al * ((top >>> ((16 : Int32) &&& 31)) &&& (255 : Int32))) + (((255 : Int32) - al) * ((bel >>> ((16 : Int32) &&& 31)) &&& (255 : Int32)))) + (127 : Int32)) / (255 : Int32))), .val (.int ((((al * ((top >>> ((8 : Int32) &&& 31)) &&& (255 : Int32))) + (((255 : Int32) - al) * ((bel >>> ((8 : Int32) &&& 31)) &&& (255 : Int32)))) + (127 : Int32)) / (255 : Int32))), .val (.int ((((al * (top &&& (255 : Int32))) + (((255 : Int32) - al) * (bel &&& (255 : Int32)))) + (127 : Int32)) / (255 : Int32))), .unset] [(.int ((((al * ((top >>> ((16 : Int32) &&& 31)) &&& (255 : Int32))) + (((255 : Int32) - al) * ((bel >>> ((16 : Int32) &&& 31)) &&& (255 : Int32)))) + (127 : Int32)) / (255 : Int32)))])) rfl (hb hby at_124)) ?_
  show own_G p.tables e below _ (T8.setTop (mkF m 126 #[.val (.int p1), .val (.int p2), .val (.int p3), .val (.int top), .val (.int (p3 &&& (3 : Int32))), .val (.int bel), .val (.int (own_f1 top bel)), .val (.int al), .val (.int ((((al * ((top >>> ((16 : Int32) &&& 31)) &&& (255 : Int32))) + (((255 : Int32) - al) * ((bel >>> ((16 : Int32) &&& 31)) &&& (255 : Int32)))) + (127 : Int32)) / (255 : Int32))), .val (.int ((((al * ((top >>> ((8 : Int32) &&& 31)) &&& (255 : Int32))) + (((255 : Int32) - al) * ((bel >>> ((8 : Int32) &&& 31)) &&& (255 : Int32)))) + (127 : Int32)) / (255 : Int32))), .val (.int ((((al * (top &&& (255 : Int32))) + (((255 : Int32) - al) * (bel &&& (255 : Int32)))) + (127 : Int32)) / (255 : Int32))), .unset] [(.int (65536 : Int32)), (.int ((((al * ((top >>> ((16 : Int32) &&& 31)) &&& (255 : Int32))) + (((255 : Int32) - al) * ((bel >>> ((16 : Int32) &&& 31)) &&& (255 : Int32)))) + (127 : Int32)) / (255 : Int32)))]))
  refine own_step (fun t k => XS.imul X8.here hx rfl (hb hby at_126) rfl k) ?_
  show own_G p.tables e below _ (T8.setTop (mkF m 127 #[.val (.int p1), .val (.int p2), .val (.int p3), .val (.int top), .val (.int (p3 &&& (3 : Int32))), .val (.int bel), .val (.int (own_f1 top bel)), .val (.int al), .val (.int ((((al * ((top >>> ((16 : Int32) &&& 31)) &&& (255 : Int32))) + (((255 : Int32) - al) * ((bel >>> ((16 : Int32) &&& 31)) &&& (255 : Int32)))) + (127 : Int32)) / (255 : Int32))), .val (.int ((((al * ((top >>> ((8 : Int32) &&& 31)) &&& (255 : Int32))) + (((255 : Int32) - al) * ((bel >>> ((8 : Int32) &&& 31)) &&& (255 : Int32)))) + (127 : Int32)) / (255 : Int32))), .val (.int ((((al * (top &&& (255 : Int32))) + (((255 : Int32) - al) * (bel &&& (255 : Int32)))) + (127 : Int32)) / (255 : Int32))), .unset] [(.int (((((al * ((top >>> ((16 : Int32) &&& 31)) &&& (255 : Int32))) + (((255 : Int32) - al) * ((bel >>> ((16 : Int32) &&& 31)) &&& (255 : Int32)))) + (127 : Int32)) / (255 : Int32)) * (65536 : Int32)))]))
  refine own_step (fun t k => XS.iload X8.here hx rfl (hb hby at_127) rfl k) ?_
  show own_G p.tables e below _ (T8.setTop (mkF m 129 #[.val (.int p1), .val (.int p2), .val (.int p3), .val (.int top), .val (.int (p3 &&& (3 : Int32))), .val (.int bel), .val (.int (own_f1 top bel)), .val (.int al), .val (.int ((((al * ((top >>> ((16 : Int32) &&& 31)) &&& (255 : Int32))) + (((255 : Int32) - al) * ((bel >>> ((16 : Int32) &&& 31)) &&& (255 : Int32)))) + (127 : Int32)) / (255 : Int32))), .val (.int ((((al * ((top >>> ((8 : Int32) &&& 31)) &&& (255 : Int32))) + (((255 : Int32) - al) * ((bel >>> ((8 : Int32) &&& 31)) &&& (255 : Int32)))) + (127 : Int32)) / (255 : Int32))), .val (.int ((((al * (top &&& (255 : Int32))) + (((255 : Int32) - al) * (bel &&& (255 : Int32)))) + (127 : Int32)) / (255 : Int32))), .unset] [(.int ((((al * ((top >>> ((8 : Int32) &&& 31)) &&& (255 : Int32))) + (((255 : Int32) - al) * ((bel >>> ((8 : Int32) &&& 31)) &&& (255 : Int32)))) + (127 : Int32)) / (255 : Int32))), (.int (((((al * ((top >>> ((16 : Int32) &&& 31)) &&& (255 : Int32))) + (((255 : Int32) - al) * ((bel >>> ((16 : Int32) &&& 31)) &&& (255 : Int32)))) + (127 : Int32)) / (255 : Int32)) * (65536 : Int32)))]))
  refine own_step (fun t k => XS.sipush X8.here hx rfl (hb hby at_129) k) ?_
  show own_G p.tables e below _ (T8.setTop (mkF m 132 #[.val (.int p1), .val (.int p2), .val (.int p3), .val (.int top), .val (.int (p3 &&& (3 : Int32))), .val (.int bel), .val (.int (own_f1 top bel)), .val (.int al), .val (.int ((((al * ((top >>> ((16 : Int32) &&& 31)) &&& (255 : Int32))) + (((255 : Int32) - al) * ((bel >>> ((16 : Int32) &&& 31)) &&& (255 : Int32)))) + (127 : Int32)) / (255 : Int32))), .val (.int ((((al * ((top >>> ((8 : Int32) &&& 31)) &&& (255 : Int32))) + (((255 : Int32) - al) * ((bel >>> ((8 : Int32) &&& 31)) &&& (255 : Int32)))) + (127 : Int32)) / (255 : Int32))), .val (.int ((((al * (top &&& (255 : Int32))) + (((255 : Int32) - al) * (bel &&& (255 : Int32)))) + (127 : Int32)) / (255 : Int32))), .unset] [(.int (256 : Int32)), (.int ((((al * ((top >>> ((8 : Int32) &&& 31)) &&& (255 : Int32))) + (((255 : Int32) - al) * ((bel >>> ((8 : Int32) &&& 31)) &&& (255 : Int32)))) + (127 : Int32)) / (255 : Int32))), (.int (((((al * ((top >>> ((16 : Int32) &&& 31)) &&& (255 : Int32))) + (((255 : Int32) - al) * ((bel >>> ((16 : Int32) &&& 31)) &&& (255 : Int32)))) + (127 : Int32)) / (255 : Int32)) * (65536 : Int32)))]))
  refine own_step (fun t k => XS.imul X8.here hx rfl (hb hby at_132) rfl k) ?_
  show own_G p.tables e below _ (T8.setTop (mkF m 133 #[.val (.int p1), .val (.int p2), .val (.int p3), .val (.int top), .val (.int (p3 &&& (3 : Int32))), .val (.int bel), .val (.int (own_f1 top bel)), .val (.int al), .val (.int ((((al * ((top >>> ((16 : Int32) &&& 31)) &&& (255 : Int32))) + (((255 : Int32) - al) * ((bel >>> ((16 : Int32) &&& 31)) &&& (255 : Int32)))) + (127 : Int32)) / (255 : Int32))), .val (.int ((((al * ((top >>> ((8 : Int32) &&& 31)) &&& (255 : Int32))) + (((255 : Int32) - al) * ((bel >>> ((8 : Int32) &&& 31)) &&& (255 : Int32)))) + (127 : Int32)) / (255 : Int32))), .val (.int ((((al * (top &&& (255 : Int32))) + (((255 : Int32) - al) * (bel &&& (255 : Int32)))) + (127 : Int32)) / (255 : Int32))), .unset] [(.int (((((al * ((top >>> ((8 : Int32) &&& 31)) &&& (255 : Int32))) + (((255 : Int32) - al) * ((bel >>> ((8 : Int32) &&& 31)) &&& (255 : Int32)))) + (127 : Int32)) / (255 : Int32)) * (256 : Int32))), (.int (((((al * ((top >>> ((16 : Int32) &&& 31)) &&& (255 : Int32))) + (((255 : Int32) - al) * ((bel >>> ((16 : Int32) &&& 31)) &&& (255 : Int32)))) + (127 : Int32)) / (255 : Int32)) * (65536 : Int32)))]))
  refine own_step (fun t k => XS.iadd X8.here hx rfl (hb hby at_133) rfl k) ?_
  show own_G p.tables e below _ (T8.setTop (mkF m 134 #[.val (.int p1), .val (.int p2), .val (.int p3), .val (.int top), .val (.int (p3 &&& (3 : Int32))), .val (.int bel), .val (.int (own_f1 top bel)), .val (.int al), .val (.int ((((al * ((top >>> ((16 : Int32) &&& 31)) &&& (255 : Int32))) + (((255 : Int32) - al) * ((bel >>> ((16 : Int32) &&& 31)) &&& (255 : Int32)))) + (127 : Int32)) / (255 : Int32))), .val (.int ((((al * ((top >>> ((8 : Int32) &&& 31)) &&& (255 : Int32))) + (((255 : Int32) - al) * ((bel >>> ((8 : Int32) &&& 31)) &&& (255 : Int32)))) + (127 : Int32)) / (255 : Int32))), .val (.int ((((al * (top &&& (255 : Int32))) + (((255 : Int32) - al) * (bel &&& (255 : Int32)))) + (127 : Int32)) / (255 : Int32))), .unset] [(.int ((((((al * ((top >>> ((16 : Int32) &&& 31)) &&& (255 : Int32))) + (((255 : Int32) - al) * ((bel >>> ((16 : Int32) &&& 31)) &&& (255 : Int32)))) + (127 : Int32)) / (255 : Int32)) * (65536 : Int32)) + (((((al * ((top >>> ((8 : Int32) &&& 31)) &&& (255 : Int32))) + (((255 : Int32) - al) * ((bel >>> ((8 : Int32) &&& 31)) &&& (255 : Int32)))) + (127 : Int32)) / (255 : Int32)) * (256 : Int32))))]))
  refine own_step (fun t k => XS.iload X8.here hx rfl (hb hby at_134) rfl k) ?_
  show own_G p.tables e below _ (T8.setTop (mkF m 136 #[.val (.int p1), .val (.int p2), .val (.int p3), .val (.int top), .val (.int (p3 &&& (3 : Int32))), .val (.int bel), .val (.int (own_f1 top bel)), .val (.int al), .val (.int ((((al * ((top >>> ((16 : Int32) &&& 31)) &&& (255 : Int32))) + (((255 : Int32) - al) * ((bel >>> ((16 : Int32) &&& 31)) &&& (255 : Int32)))) + (127 : Int32)) / (255 : Int32))), .val (.int ((((al * ((top >>> ((8 : Int32) &&& 31)) &&& (255 : Int32))) + (((255 : Int32) - al) * ((bel >>> ((8 : Int32) &&& 31)) &&& (255 : Int32)))) + (127 : Int32)) / (255 : Int32))), .val (.int ((((al * (top &&& (255 : Int32))) + (((255 : Int32) - al) * (bel &&& (255 : Int32)))) + (127 : Int32)) / (255 : Int32))), .unset] [(.int ((((al * (top &&& (255 : Int32))) + (((255 : Int32) - al) * (bel &&& (255 : Int32)))) + (127 : Int32)) / (255 : Int32))), (.int ((((((al * ((top >>> ((16 : Int32) &&& 31)) &&& (255 : Int32))) + (((255 : Int32) - al) * ((bel >>> ((16 : Int32) &&& 31)) &&& (255 : Int32)))) + (127 : Int32)) / (255 : Int32)) * (65536 : Int32)) + (((((al * ((top >>> ((8 : Int32) &&& 31)) &&& (255 : Int32))) + (((255 : Int32) - al) * ((bel >>> ((8 : Int32) &&& 31)) &&& (255 : Int32)))) + (127 : Int32)) / (255 : Int32)) * (256 : Int32))))]))
  refine own_step (fun t k => XS.iadd X8.here hx rfl (hb hby at_136) rfl k) ?_
  show own_G p.tables e below _ (T8.setTop (mkF m 137 #[.val (.int p1), .val (.int p2), .val (.int p3), .val (.int top), .val (.int (p3 &&& (3 : Int32))), .val (.int bel), .val (.int (own_f1 top bel)), .val (.int al), .val (.int ((((al * ((top >>> ((16 : Int32) &&& 31)) &&& (255 : Int32))) + (((255 : Int32) - al) * ((bel >>> ((16 : Int32) &&& 31)) &&& (255 : Int32)))) + (127 : Int32)) / (255 : Int32))), .val (.int ((((al * ((top >>> ((8 : Int32) &&& 31)) &&& (255 : Int32))) + (((255 : Int32) - al) * ((bel >>> ((8 : Int32) &&& 31)) &&& (255 : Int32)))) + (127 : Int32)) / (255 : Int32))), .val (.int ((((al * (top &&& (255 : Int32))) + (((255 : Int32) - al) * (bel &&& (255 : Int32)))) + (127 : Int32)) / (255 : Int32))), .unset] [(.int (((((((al * ((top >>> ((16 : Int32) &&& 31)) &&& (255 : Int32))) + (((255 : Int32) - al) * ((bel >>> ((16 : Int32) &&& 31)) &&& (255 : Int32)))) + (127 : Int32)) / (255 : Int32)) * (65536 : Int32)) + (((((al * ((top >>> ((8 : Int32) &&& 31)) &&& (255 : Int32))) + (((255 : Int32) - al) * ((bel >>> ((8 : Int32) &&& 31)) &&& (255 : Int32)))) + (127 : Int32)) / (255 : Int32)) * (256 : Int32))) + ((((al * (top &&& (255 : Int32))) + (((255 : Int32) - al) * (bel &&& (255 : Int32)))) + (127 : Int32)) / (255 : Int32))))]))
  refine own_step (fun t k => XS.istore X8.here hx rfl (hb hby at_137) rfl (l' := #[.val (.int p1), .val (.int p2), .val (.int p3), .val (.int top), .val (.int (p3 &&& (3 : Int32))), .val (.int bel), .val (.int (own_f1 top bel)), .val (.int al), .val (.int ((((al * ((top >>> ((16 : Int32) &&& 31)) &&& (255 : Int32))) + (((255 : Int32) - al) * ((bel >>> ((16 : Int32) &&& 31)) &&& (255 : Int32)))) + (127 : Int32)) / (255 : Int32))), .val (.int ((((al * ((top >>> ((8 : Int32) &&& 31)) &&& (255 : Int32))) + (((255 : Int32) - al) * ((bel >>> ((8 : Int32) &&& 31)) &&& (255 : Int32)))) + (127 : Int32)) / (255 : Int32))), .val (.int ((((al * (top &&& (255 : Int32))) + (((255 : Int32) - al) * (bel &&& (255 : Int32)))) + (127 : Int32)) / (255 : Int32))), .val (.int (((((((al * ((top >>> ((16 : Int32) &&& 31)) &&& (255 : Int32))) + (((255 : Int32) - al) * ((bel >>> ((16 : Int32) &&& 31)) &&& (255 : Int32)))) + (127 : Int32)) / (255 : Int32)) * (65536 : Int32)) + (((((al * ((top >>> ((8 : Int32) &&& 31)) &&& (255 : Int32))) + (((255 : Int32) - al) * ((bel >>> ((8 : Int32) &&& 31)) &&& (255 : Int32)))) + (127 : Int32)) / (255 : Int32)) * (256 : Int32))) + ((((al * (top &&& (255 : Int32))) + (((255 : Int32) - al) * (bel &&& (255 : Int32)))) + (127 : Int32)) / (255 : Int32))))]) rfl k) ?_
  show own_G p.tables e below _ (T8.setTop (mkF m 139 #[.val (.int p1), .val (.int p2), .val (.int p3), .val (.int top), .val (.int (p3 &&& (3 : Int32))), .val (.int bel), .val (.int (own_f1 top bel)), .val (.int al), .val (.int ((((al * ((top >>> ((16 : Int32) &&& 31)) &&& (255 : Int32))) + (((255 : Int32) - al) * ((bel >>> ((16 : Int32) &&& 31)) &&& (255 : Int32)))) + (127 : Int32)) / (255 : Int32))), .val (.int ((((al * ((top >>> ((8 : Int32) &&& 31)) &&& (255 : Int32))) + (((255 : Int32) - al) * ((bel >>> ((8 : Int32) &&& 31)) &&& (255 : Int32)))) + (127 : Int32)) / (255 : Int32))), .val (.int ((((al * (top &&& (255 : Int32))) + (((255 : Int32) - al) * (bel &&& (255 : Int32)))) + (127 : Int32)) / (255 : Int32))), .val (.int (((((((al * ((top >>> ((16 : Int32) &&& 31)) &&& (255 : Int32))) + (((255 : Int32) - al) * ((bel >>> ((16 : Int32) &&& 31)) &&& (255 : Int32)))) + (127 : Int32)) / (255 : Int32)) * (65536 : Int32)) + (((((al * ((top >>> ((8 : Int32) &&& 31)) &&& (255 : Int32))) + (((255 : Int32) - al) * ((bel >>> ((8 : Int32) &&& 31)) &&& (255 : Int32)))) + (127 : Int32)) / (255 : Int32)) * (256 : Int32))) + ((((al * (top &&& (255 : Int32))) + (((255 : Int32) - al) * (bel &&& (255 : Int32)))) + (127 : Int32)) / (255 : Int32))))] []))
  refine own_step (fun t k => XS.iload X8.here hx rfl (hb hby at_139) rfl k) ?_
  show own_G p.tables e below _ (T8.setTop (mkF m 141 #[.val (.int p1), .val (.int p2), .val (.int p3), .val (.int top), .val (.int (p3 &&& (3 : Int32))), .val (.int bel), .val (.int (own_f1 top bel)), .val (.int al), .val (.int ((((al * ((top >>> ((16 : Int32) &&& 31)) &&& (255 : Int32))) + (((255 : Int32) - al) * ((bel >>> ((16 : Int32) &&& 31)) &&& (255 : Int32)))) + (127 : Int32)) / (255 : Int32))), .val (.int ((((al * ((top >>> ((8 : Int32) &&& 31)) &&& (255 : Int32))) + (((255 : Int32) - al) * ((bel >>> ((8 : Int32) &&& 31)) &&& (255 : Int32)))) + (127 : Int32)) / (255 : Int32))), .val (.int ((((al * (top &&& (255 : Int32))) + (((255 : Int32) - al) * (bel &&& (255 : Int32)))) + (127 : Int32)) / (255 : Int32))), .val (.int (((((((al * ((top >>> ((16 : Int32) &&& 31)) &&& (255 : Int32))) + (((255 : Int32) - al) * ((bel >>> ((16 : Int32) &&& 31)) &&& (255 : Int32)))) + (127 : Int32)) / (255 : Int32)) * (65536 : Int32)) + (((((al * ((top >>> ((8 : Int32) &&& 31)) &&& (255 : Int32))) + (((255 : Int32) - al) * ((bel >>> ((8 : Int32) &&& 31)) &&& (255 : Int32)))) + (127 : Int32)) / (255 : Int32)) * (256 : Int32))) + ((((al * (top &&& (255 : Int32))) + (((255 : Int32) - al) * (bel &&& (255 : Int32)))) + (127 : Int32)) / (255 : Int32))))] [(.int (own_f1 top bel))]))
  refine own_step (fun t k => XS.iload X8.here hx rfl (hb hby at_141) rfl k) ?_
  show own_G p.tables e below _ (T8.setTop (mkF m 143 #[.val (.int p1), .val (.int p2), .val (.int p3), .val (.int top), .val (.int (p3 &&& (3 : Int32))), .val (.int bel), .val (.int (own_f1 top bel)), .val (.int al), .val (.int ((((al * ((top >>> ((16 : Int32) &&& 31)) &&& (255 : Int32))) + (((255 : Int32) - al) * ((bel >>> ((16 : Int32) &&& 31)) &&& (255 : Int32)))) + (127 : Int32)) / (255 : Int32))), .val (.int ((((al * ((top >>> ((8 : Int32) &&& 31)) &&& (255 : Int32))) + (((255 : Int32) - al) * ((bel >>> ((8 : Int32) &&& 31)) &&& (255 : Int32)))) + (127 : Int32)) / (255 : Int32))), .val (.int ((((al * (top &&& (255 : Int32))) + (((255 : Int32) - al) * (bel &&& (255 : Int32)))) + (127 : Int32)) / (255 : Int32))), .val (.int (((((((al * ((top >>> ((16 : Int32) &&& 31)) &&& (255 : Int32))) + (((255 : Int32) - al) * ((bel >>> ((16 : Int32) &&& 31)) &&& (255 : Int32)))) + (127 : Int32)) / (255 : Int32)) * (65536 : Int32)) + (((((al * ((top >>> ((8 : Int32) &&& 31)) &&& (255 : Int32))) + (((255 : Int32) - al) * ((bel >>> ((8 : Int32) &&& 31)) &&& (255 : Int32)))) + (127 : Int32)) / (255 : Int32)) * (256 : Int32))) + ((((al * (top &&& (255 : Int32))) + (((255 : Int32) - al) * (bel &&& (255 : Int32)))) + (127 : Int32)) / (255 : Int32))))] [(.int (((((((al * ((top >>> ((16 : Int32) &&& 31)) &&& (255 : Int32))) + (((255 : Int32) - al) * ((bel >>> ((16 : Int32) &&& 31)) &&& (255 : Int32)))) + (127 : Int32)) / (255 : Int32)) * (65536 : Int32)) + (((((al * ((top >>> ((8 : Int32) &&& 31)) &&& (255 : Int32))) + (((255 : Int32) - al) * ((bel >>> ((8 : Int32) &&& 31)) &&& (255 : Int32)))) + (127 : Int32)) / (255 : Int32)) * (256 : Int32))) + ((((al * (top &&& (255 : Int32))) + (((255 : Int32) - al) * (bel &&& (255 : Int32)))) + (127 : Int32)) / (255 : Int32)))), (.int (own_f1 top bel))]))
  have hk9 : (own_f1 top bel) = (((((((al * ((top >>> ((16 : Int32) &&& 31)) &&& (255 : Int32))) + (((255 : Int32) - al) * ((bel >>> ((16 : Int32) &&& 31)) &&& (255 : Int32)))) + (127 : Int32)) / (255 : Int32)) * (65536 : Int32)) + (((((al * ((top >>> ((8 : Int32) &&& 31)) &&& (255 : Int32))) + (((255 : Int32) - al) * ((bel >>> ((8 : Int32) &&& 31)) &&& (255 : Int32)))) + (127 : Int32)) / (255 : Int32)) * (256 : Int32))) + ((((al * (top &&& (255 : Int32))) + (((255 : Int32) - al) * (bel &&& (255 : Int32)))) + (127 : Int32)) / (255 : Int32))) := (by rw [hd_al]; exact own_eq _ _)
  refine own_step (fun t k => XS.icmpNo X8.here hx rfl (hb hby at_143) rfl ((teq hk9).2) k) ?_
  show own_G p.tables e below _ (T8.setTop (mkF m 146 #[.val (.int p1), .val (.int p2), .val (.int p3), .val (.int top), .val (.int (p3 &&& (3 : Int32))), .val (.int bel), .val (.int (own_f1 top bel)), .val (.int al), .val (.int ((((al * ((top >>> ((16 : Int32) &&& 31)) &&& (255 : Int32))) + (((255 : Int32) - al) * ((bel >>> ((16 : Int32) &&& 31)) &&& (255 : Int32)))) + (127 : Int32)) / (255 : Int32))), .val (.int ((((al * ((top >>> ((8 : Int32) &&& 31)) &&& (255 : Int32))) + (((255 : Int32) - al) * ((bel >>> ((8 : Int32) &&& 31)) &&& (255 : Int32)))) + (127 : Int32)) / (255 : Int32))), .val (.int ((((al * (top &&& (255 : Int32))) + (((255 : Int32) - al) * (bel &&& (255 : Int32)))) + (127 : Int32)) / (255 : Int32))), .val (.int (((((((al * ((top >>> ((16 : Int32) &&& 31)) &&& (255 : Int32))) + (((255 : Int32) - al) * ((bel >>> ((16 : Int32) &&& 31)) &&& (255 : Int32)))) + (127 : Int32)) / (255 : Int32)) * (65536 : Int32)) + (((((al * ((top >>> ((8 : Int32) &&& 31)) &&& (255 : Int32))) + (((255 : Int32) - al) * ((bel >>> ((8 : Int32) &&& 31)) &&& (255 : Int32)))) + (127 : Int32)) / (255 : Int32)) * (256 : Int32))) + ((((al * (top &&& (255 : Int32))) + (((255 : Int32) - al) * (bel &&& (255 : Int32)))) + (127 : Int32)) / (255 : Int32))))] []))
  refine own_step (fun t k => XS.iconst X8.here hx rfl (hb hby at_146) k) ?_
  show own_G p.tables e below _ (T8.setTop (mkF m 147 #[.val (.int p1), .val (.int p2), .val (.int p3), .val (.int top), .val (.int (p3 &&& (3 : Int32))), .val (.int bel), .val (.int (own_f1 top bel)), .val (.int al), .val (.int ((((al * ((top >>> ((16 : Int32) &&& 31)) &&& (255 : Int32))) + (((255 : Int32) - al) * ((bel >>> ((16 : Int32) &&& 31)) &&& (255 : Int32)))) + (127 : Int32)) / (255 : Int32))), .val (.int ((((al * ((top >>> ((8 : Int32) &&& 31)) &&& (255 : Int32))) + (((255 : Int32) - al) * ((bel >>> ((8 : Int32) &&& 31)) &&& (255 : Int32)))) + (127 : Int32)) / (255 : Int32))), .val (.int ((((al * (top &&& (255 : Int32))) + (((255 : Int32) - al) * (bel &&& (255 : Int32)))) + (127 : Int32)) / (255 : Int32))), .val (.int (((((((al * ((top >>> ((16 : Int32) &&& 31)) &&& (255 : Int32))) + (((255 : Int32) - al) * ((bel >>> ((16 : Int32) &&& 31)) &&& (255 : Int32)))) + (127 : Int32)) / (255 : Int32)) * (65536 : Int32)) + (((((al * ((top >>> ((8 : Int32) &&& 31)) &&& (255 : Int32))) + (((255 : Int32) - al) * ((bel >>> ((8 : Int32) &&& 31)) &&& (255 : Int32)))) + (127 : Int32)) / (255 : Int32)) * (256 : Int32))) + ((((al * (top &&& (255 : Int32))) + (((255 : Int32) - al) * (bel &&& (255 : Int32)))) + (127 : Int32)) / (255 : Int32))))] [(.int (1 : Int32))]))
  refine own_step (fun t k => XS.goto X8.here hx rfl (pc0 := 147) (pc' := 151) rfl (hb hby at_147) (by decide) (by decide) k) ?_
  show own_G p.tables e below _ (T8.setTop (mkF m 151 #[.val (.int p1), .val (.int p2), .val (.int p3), .val (.int top), .val (.int (p3 &&& (3 : Int32))), .val (.int bel), .val (.int (own_f1 top bel)), .val (.int al), .val (.int ((((al * ((top >>> ((16 : Int32) &&& 31)) &&& (255 : Int32))) + (((255 : Int32) - al) * ((bel >>> ((16 : Int32) &&& 31)) &&& (255 : Int32)))) + (127 : Int32)) / (255 : Int32))), .val (.int ((((al * ((top >>> ((8 : Int32) &&& 31)) &&& (255 : Int32))) + (((255 : Int32) - al) * ((bel >>> ((8 : Int32) &&& 31)) &&& (255 : Int32)))) + (127 : Int32)) / (255 : Int32))), .val (.int ((((al * (top &&& (255 : Int32))) + (((255 : Int32) - al) * (bel &&& (255 : Int32)))) + (127 : Int32)) / (255 : Int32))), .val (.int (((((((al * ((top >>> ((16 : Int32) &&& 31)) &&& (255 : Int32))) + (((255 : Int32) - al) * ((bel >>> ((16 : Int32) &&& 31)) &&& (255 : Int32)))) + (127 : Int32)) / (255 : Int32)) * (65536 : Int32)) + (((((al * ((top >>> ((8 : Int32) &&& 31)) &&& (255 : Int32))) + (((255 : Int32) - al) * ((bel >>> ((8 : Int32) &&& 31)) &&& (255 : Int32)))) + (127 : Int32)) / (255 : Int32)) * (256 : Int32))) + ((((al * (top &&& (255 : Int32))) + (((255 : Int32) - al) * (bel &&& (255 : Int32)))) + (127 : Int32)) / (255 : Int32))))] [(.int (1 : Int32))]))
  obtain ⟨fs, hr, hrun, hended, hW, hsame⟩ := X8.leave (v := some (.int (1 : Int32))) (fun h => by rw [Bd.returns] at h; cases h)
  refine own_done (retN X8 hx (t := .boolean) Bd.returns (by simp) (hb hby at_151) hr) hrun hended ⟨_, _, rfl, ?_, ⟨_, rfl⟩, hW, hsame.mono (by decide) (by decide)⟩
  show Q0 Z p1 p2 p3 h0 n0 _ T8.heap _
  rw [e8]
  exact ⟨rfl, N8⟩
set_option maxRecDepth 65536 in
set_option maxHeartbeats 40000000 in
theorem comes_1 {Post : Tables → Env → Array Value → State → Outcome → State → Prop} (hpost : ∀ tb e args s v u, (limb_1_1.after args s (.returned v) u = true ∧ limb_1_2.after args s (.returned v) u = true ∧ True) → FrameEnd s (.returned v) u (Jvm.fieldLocs frame_1_writes args s ++ Jvm.arrayLocs frame_1_arrays args s ++ Jvm.staticLocs frame_1_statics s) 0 0 → Post tb e args s (.returned v) u) :
    ArmFor flags0 classFile x code maxLocals ret World_1 tables_1 room_1 Calls_1 rest_1 Pre_1 Post := by
  intro l hfl _ _ p e ha hc hk s m args below hf hA hF happ hP
  obtain ⟨hcalls, hrest, hpre⟩ := hP
  obtain ⟨-, -, -, hnamed, -, -, -, hat⟩ := (Spec.applies_iff hf).mp happ
  obtain ⟨hg, hn⟩ := and_e (Cond.before_iff.mp (show (Jvm.Cond.and given_1 narrow_1).before args s = true from hpre))
  obtain ⟨g1, g2⟩ := and_e hg
  obtain ⟨g3, g4⟩ := and_e g2
  obtain ⟨g5, g6⟩ := and_e g4
  obtain ⟨w0, w1, w2, rfl⟩ : ∃ w0 w1 w2 : Value, args = #[w0, w1, w2] := by
    have hs : args.size = 3 := by simpa [Cond.value, given_1] using g1
    obtain ⟨L⟩ := args
    match L, hs with
    | [w0, w1, w2], _ => exact ⟨w0, w1, w2, rfl⟩
  have hw := fun d (hd : d ∈ tables_1) => atoms_spec (ws := Jvm.Cond.code x code maxLocals ret :: tables_1) hat d (List.mem_cons_of_mem _ hd)
  obtain ⟨i0, ei0⟩ := is_v g3
  obtain rfl : w0 = (.int i0) := Option.some.inj ei0
  obtain ⟨i1, ei1⟩ := is_v g5
  obtain rfl : w1 = (.int i1) := Option.some.inj ei1
  obtain ⟨i2, ei2⟩ := is_v g6
  obtain rfl : w2 = (.int i2) := Option.some.inj ei2
  obtain ⟨n, o, h1, h2, h3, _, L, rfl, ⟨rfl, N⟩, hq⟩ := rm0 l s _ hw tables_1 i0 i1 i2 s.heap s.heap.size (Nat.le_refl _)  p e ha hc hk s m _ below hf ((Spec.applies_iff_loose hf).mp happ).1 ⟨rfl, State.Warmed39.refl s, rfl⟩ trivial
  refine ⟨n, _, h1, h2, h3, hpost _ _ _ _ _ _ ⟨Cond.after_iff.mpr rfl, Cond.after_iff.mpr (eq_i res_at (Term.int_eval (1)) rfl), trivial⟩ ⟨hq.1, hq.2.1, (hq.2.2.sift fun y hy => Or.inr (N y hy)).mono (by decide) (by decide)⟩⟩
theorem main_1_1 : Claimed_1_1 := comes_1 fun _ _ _ _ _ _ h hF => ⟨h.1, hF⟩
theorem main_1_2 : Claimed_1_2 := comes_1 fun _ _ _ _ _ _ h hF => ⟨h.2.1, hF⟩
end Jvm.Pilot.@@N@@
namespace Jvm.Pilot.@@N@@
open Jvm Jvm.ClassFile Sem Op Lib Jvm.Free Jvm.Stand Jvm.Pilot.@@N@@.Jvm.D
/-! MADE BY PROGRAM (witnessworld.py) out of the Statement's table words and the real class files: 9 classes; the members and pool entries that the words name. The judged class is class 1, her method 1. -/
namespace start1
open Jvm.ClassFile
def u (s : String) : CpInfo := .utf8 (stringToUtf16 s)
/-- a pool by its gaps: so many unusable entries, then the entry; so many at the end -/
def gap : Nat → List CpInfo → List CpInfo
  | 0, r => r
  | n + 1, r => .unusable :: gap n r
def poolList (es : List (Nat × CpInfo)) (last : Nat) : List CpInfo := es.foldr (fun e r => gap e.1 (e.2 :: r)) (gap last [])
def pool (es : List (Nat × CpInfo)) (last : Nat) : Array CpInfo := ⟨poolList es last⟩
def fileOf (pool : Array CpInfo) (this : Nat) (attrs : Array Attribute := #[]) (ms : Array MethodInfo := #[]) (fl : Nat := 33) (sup : Nat := 0) (ifs : Array Nat := #[]) (fds : Array FieldInfo := #[]) : ClassFile where
  minorVersion := 0
  majorVersion := 65
  constantPool := pool
  accessFlags := fl
  thisClass := this
  superClass := sup
  interfaces := ifs
  fields := fds
  methods := ms
  attributes := attrs
def plain (name : String) (sup : Option ClassId) : Class where
  name := name
  kind := .ordinary
  loader := none
  accessFlags := 33
  super := sup
  interfaces := #[]
  cf := none
  fields := #[]
  methods := #[]
  instanceTypes := #[]
  staticTypes := #[]
  resolved := #[]
  callSites := []
  init := .initialized
  statics := none
  mirror := none

def pool0 : Array CpInfo := pool [(5, u "<init>"), (0, u "()V"), (1, .class_ 10), (1, u "java/lang/Object")] 113

def k0m0 : Method := { name := "<init>", desc := "()V", sig := { parameters := [], returnType := none }, accessFlags := 1, code := none }
/-- java/lang/Object -/
def k0 : Class := { plain "java/lang/Object" none with
  accessFlags := 33
  interfaces := #[]
  cf := some (fileOf pool0 8 #[] #[{ accessFlags := 1, nameIndex := 5, descriptorIndex := 6, attributes := #[] }] 33 0 #[] #[])
  fields := #[]
  methods := #[k0m0]
  instanceTypes := #[]
  staticTypes := #[]
  resolved := Array.replicate 124 none
  statics := none }

def pool1 : Array CpInfo := pool [(2, .class_ 4), (1, u "java/lang/Object"), (0, u "<init>"), (0, u "()V"), (0, .integer 4278190080), (0, .integer 16777215), (0, .methodref 10 11), (0, .class_ 12), (0, .nameAndType 13 14), (0, u "com/example/dirtytree/dirtytree/Argb"), (0, u "over"), (0, u "(II)I"), (0, .methodref 16 17), (0, .class_ 18), (0, .nameAndType 19 20), (0, u "com/example/dirtytree/dirtytree/ArgbOverPinLaw"), (0, u "channel"), (0, u "(III)I"), (0, .integer 65536), (2, u "law"), (0, u "(III)Z")] 3

def k1m0 : Method := { name := "<init>", desc := "()V", sig := { parameters := [], returnType := none }, accessFlags := 1, code := none }
def k1c1 : Code := { maxStack := 4, maxLocals := 12, code := code, exceptionTable := #[], attributes := #[] }
def k1m1 : Method := { name := "law", desc := "(III)Z", sig := { parameters := [.int, .int, .int], returnType := some .boolean }, accessFlags := 9, code := some k1c1 }
def k1c2 : Code := { maxStack := 3, maxLocals := 3, code := method_3_code, exceptionTable := #[], attributes := #[] }
def k1m2 : Method := { name := "channel", desc := "(III)I", sig := { parameters := [.int, .int, .int], returnType := some .int }, accessFlags := 10, code := some k1c2 }
/-- com/example/dirtytree/dirtytree/ArgbOverPinLaw -/
def k1 : Class := { plain "com/example/dirtytree/dirtytree/ArgbOverPinLaw" (some 0) with
  accessFlags := 49
  interfaces := #[]
  cf := some (fileOf pool1 16 #[] #[{ accessFlags := 1, nameIndex := 5, descriptorIndex := 6, attributes := #[] }, { accessFlags := 9, nameIndex := 24, descriptorIndex := 25, attributes := #[] }, { accessFlags := 10, nameIndex := 19, descriptorIndex := 20, attributes := #[] }] 49 2 #[] #[])
  fields := #[]
  methods := #[k1m0, k1m1, k1m2]
  instanceTypes := #[]
  staticTypes := #[]
  resolved := Array.replicate 29 none
  statics := none }

def pool2 : Array CpInfo := pool [(2, .class_ 4), (1, u "java/lang/Object"), (0, u "<init>"), (0, u "()V"), (0, .integer 16777215), (0, .methodref 9 10), (0, .class_ 11), (0, .nameAndType 12 13), (0, u "com/example/dirtytree/dirtytree/Argb"), (0, u "blend"), (0, u "(III)I"), (0, u "NONE"), (0, u "I"), (2, u "BLACK"), (3, u "over"), (0, u "(II)I")] 3

def k2m0 : Method := { name := "<init>", desc := "()V", sig := { parameters := [], returnType := none }, accessFlags := 2, code := none }
def k2c1 : Code := { maxStack := 5, maxLocals := 3, code := prog_1_method_2_code, exceptionTable := #[], attributes := #[] }
def k2m1 : Method := { name := "over", desc := "(II)I", sig := { parameters := [.int, .int], returnType := some .int }, accessFlags := 8, code := some k2c1 }
def k2c2 : Code := { maxStack := 4, maxLocals := 3, code := prog_1_method_3_code, exceptionTable := #[], attributes := #[] }
def k2m2 : Method := { name := "blend", desc := "(III)I", sig := { parameters := [.int, .int, .int], returnType := some .int }, accessFlags := 10, code := some k2c2 }
/-- com/example/dirtytree/dirtytree/Argb -/
def k2 : Class := { plain "com/example/dirtytree/dirtytree/Argb" (some 0) with
  accessFlags := 49
  interfaces := #[]
  cf := some (fileOf pool2 9 #[] #[{ accessFlags := 2, nameIndex := 5, descriptorIndex := 6, attributes := #[] }, { accessFlags := 8, nameIndex := 22, descriptorIndex := 23, attributes := #[] }, { accessFlags := 10, nameIndex := 12, descriptorIndex := 13, attributes := #[] }] 49 2 #[] #[{ accessFlags := 25, nameIndex := 14, descriptorIndex := 15, attributes := #[] }, { accessFlags := 24, nameIndex := 18, descriptorIndex := 15, attributes := #[] }])
  fields := #[{ name := "NONE", type := .int, accessFlags := 25, slot := 0, constantValue := 0 }, { name := "BLACK", type := .int, accessFlags := 24, slot := 1, constantValue := 0 }]
  methods := #[k2m0, k2m1, k2m2]
  instanceTypes := #[]
  staticTypes := #[.int, .int]
  resolved := Array.replicate 27 none
  statics := none }

def pool3 : Array CpInfo := pool [(1, u "java/lang/Cloneable"), (0, .class_ 1), (0, u "java/lang/Object"), (0, .class_ 3)] 3

/-- java/lang/Cloneable -/
def k3 : Class := { plain "java/lang/Cloneable" (some 0) with
  accessFlags := 1537
  interfaces := #[]
  cf := some (fileOf pool3 2 #[] #[] 1537 4 #[] #[])
  fields := #[]
  methods := #[]
  instanceTypes := #[]
  staticTypes := #[]
  resolved := Array.replicate 8 none
  statics := none }

def pool4 : Array CpInfo := pool [(1, u "java/io/Serializable"), (0, .class_ 1), (0, u "java/lang/Object"), (0, .class_ 3)] 3

/-- java/io/Serializable -/
def k4 : Class := { plain "java/io/Serializable" (some 0) with
  accessFlags := 1537
  interfaces := #[]
  cf := some (fileOf pool4 2 #[] #[] 1537 4 #[] #[])
  fields := #[]
  methods := #[]
  instanceTypes := #[]
  staticTypes := #[]
  resolved := Array.replicate 8 none
  statics := none }

/-- the primitive byte -/
def k5 : Class := { plain "byte" none with kind := .primitive 'B', accessFlags := 0x411 }
/-- [B -/
def k6 : Class := { plain "[B" (some 0) with kind := .array 5 .byte, interfaces := #[3, 4], accessFlags := 1041 }

/-- the primitive int -/
def k7 : Class := { plain "int" none with kind := .primitive 'I', accessFlags := 0x411 }
/-- [I -/
def k8 : Class := { plain "[I" (some 0) with kind := .array 7 .int, interfaces := #[3, 4], accessFlags := 1041 }

def heap : Heap := #[]
def classes : Array Class := #[k0, k1, k2, k3, k4, k5, k6, k7, k8]
def interned : List (Array UInt16 × Addr) := []
def slotsUsed : Nat := 0
def theMethod : MethodId := ⟨1, 1⟩
def args0 : Array Value := #[.int 5, .int 7, .int 1]
def aboutOver (below : List Frame) : State where
  vm := { classes := classes, interned := interned.toArray }
  heap := heap
  slotsUsed := slotsUsed
  threads := #[{ frames := .invoking theMethod args0 :: below }]
def below0 : List Frame := [.native { method := ⟨0, 0⟩, args := #[] }]
def about1 : State := aboutOver below0
def p0 : Program := .bare "" "" ""
def e0 : Env := launch0.env 0 0 0
theorem w_frames : about1.frames = Frame.invoking theMethod args0 :: below0 := rfl
set_option maxRecDepth 65536 in
theorem w_args : argsFit about1.vm theMethod args0 = true := by decide +kernel
set_option maxRecDepth 65536 in
theorem w_heap : heapFits about1 = true := by decide +kernel
set_option maxRecDepth 65536 in
theorem w_runnable : about1.curStatus? = some .runnable := by decide +kernel
set_option maxRecDepth 65536 in
theorem w_alone : about1.alone = true := by decide +kernel
set_option maxRecDepth 65536 in
theorem w_named : about1.methodNamed? x = some theMethod := by decide +kernel
set_option maxRecDepth 65536 in
theorem w_hears : about1.hears theMethod below0 = true := by decide +kernel
set_option maxRecDepth 65536 in
theorem w_ripe : about1.ripe theMethod args0 below0 = true := by decide +kernel
theorem w_running : about1.status = .running := rfl
set_option maxRecDepth 65536 in
theorem w_room : about1.hasRoom e0.platform room_1 = true :=
  launch0.hasRoom_least _ room_1 (by decide +kernel) (by decide +kernel) (by decide +kernel) (by decide +kernel) (by decide +kernel) (by decide +kernel)
theorem allAtoms_all (ts : List Jvm.Cond) (a : Array Jvm.Value) (st : Jvm.State) : (allAtoms ts).before a st = ts.all (fun c => c.before a st) := by
  induction ts with
  | nil => rfl
  | cons c t ih =>
    show (Jvm.Cond.and c (allAtoms t)).before a st = _
    rw [Jvm.Cond.before_and, ih, List.all_cons]
def words1 : List Jvm.Cond := Jvm.Cond.code x code maxLocals ret :: tables_1
/-- a 'code' word, met by the world's own term for the bytes: nothing is compared byte by byte -/
theorem code_word {y : MethodName} {bytes : ByteArray} {mx : Nat} {rt : Option FieldType} {a : Array Value} {s : State} {m : MethodId} {meth : Method} {c : Code} (h1 : s.methodNamed? y = some m) (h2 : s.vm.method? m = some meth) (h3 : meth.code = some c) (h4 : c.code = bytes)
    (h5 : (c.maxLocals == mx && c.exceptionTable.isEmpty && decide (c.maxStack ≤ mostOperands) && decide (meth.sig.returnType = rt) && !meth.locks && decide (parseMethodDescriptor y.desc = some meth.sig)) = true) : (Jvm.Cond.code y bytes mx rt).before a s = true := by
  simp only [Bool.and_eq_true, beq_iff_eq, Bool.not_eq_true', decide_eq_true_eq] at h5
  obtain ⟨⟨⟨⟨⟨g1, g2⟩, g3⟩, g4⟩, g5⟩, g6⟩ := h5
  simp [Cond.before, Cond.holds, Cond.value, h1, h2, h3, h4, g1, g2, g3, g4, g5, g6]
def isCode : Jvm.Cond → Bool
  | .code _ _ _ _ => true
  | _ => false
theorem all_split {L : List Jvm.Cond} {P : Jvm.Cond → Bool} (h1 : L.all (fun c => isCode c || P c) = true) (h2 : ∀ c ∈ L.filter isCode, P c = true) : L.all P = true := by
  refine List.all_eq_true.mpr fun c hc => ?_
  have h := List.all_eq_true.mp h1 c hc
  rcases Bool.eq_false_or_eq_true (isCode c) with hi | hi
  · exact h2 c (List.mem_filter.mpr ⟨hc, hi⟩)
  · simpa [hi] using h
set_option maxRecDepth 65536 in
theorem w_c0 : (Jvm.Cond.code x code maxLocals ret).before args0 about1 = true := code_word (m := ⟨1, 1⟩) (meth := k1m1) (c := k1c1) (by decide +kernel) rfl rfl rfl (by decide +kernel)
set_option maxRecDepth 65536 in
theorem w_c1 : (Jvm.Cond.code ({ cls := "com/example/dirtytree/dirtytree/Argb", name := "over", desc := "(II)I" } : Jvm.MethodName) prog_1_method_2_code (3 : Nat) (Option.some Jvm.ClassFile.FieldType.int)).before args0 about1 = true := code_word (m := ⟨2, 1⟩) (meth := k2m1) (c := k2c1) (by decide +kernel) rfl rfl rfl (by decide +kernel)
set_option maxRecDepth 65536 in
theorem w_c2 : (Jvm.Cond.code ({ cls := "com/example/dirtytree/dirtytree/Argb", name := "blend", desc := "(III)I" } : Jvm.MethodName) prog_1_method_3_code (3 : Nat) (Option.some Jvm.ClassFile.FieldType.int)).before args0 about1 = true := code_word (m := ⟨2, 2⟩) (meth := k2m2) (c := k2c2) (by decide +kernel) rfl rfl rfl (by decide +kernel)
set_option maxRecDepth 65536 in
theorem w_c3 : (Jvm.Cond.code ({ cls := "com/example/dirtytree/dirtytree/ArgbOverPinLaw", name := "channel", desc := "(III)I" } : Jvm.MethodName) method_3_code (3 : Nat) (Option.some Jvm.ClassFile.FieldType.int)).before args0 about1 = true := code_word (m := ⟨1, 2⟩) (meth := k1m2) (c := k1c2) (by decide +kernel) rfl rfl rfl (by decide +kernel)
def codes1 : List Jvm.Cond := [Jvm.Cond.code x code maxLocals ret, Jvm.Cond.code ({ cls := "com/example/dirtytree/dirtytree/Argb", name := "over", desc := "(II)I" } : Jvm.MethodName) prog_1_method_2_code (3 : Nat) (Option.some Jvm.ClassFile.FieldType.int), Jvm.Cond.code ({ cls := "com/example/dirtytree/dirtytree/Argb", name := "blend", desc := "(III)I" } : Jvm.MethodName) prog_1_method_3_code (3 : Nat) (Option.some Jvm.ClassFile.FieldType.int), Jvm.Cond.code ({ cls := "com/example/dirtytree/dirtytree/ArgbOverPinLaw", name := "channel", desc := "(III)I" } : Jvm.MethodName) method_3_code (3 : Nat) (Option.some Jvm.ClassFile.FieldType.int)]
set_option maxRecDepth 65536 in
theorem codes_eq : words1.filter isCode = codes1 := rfl
theorem w_codes : ∀ c ∈ words1.filter isCode, c.before args0 about1 = true := by
  rw [codes_eq]
  intro c hc
  simp only [codes1, List.mem_cons, List.not_mem_nil, or_false] at hc
  rcases hc with rfl | rfl | rfl | rfl
  · exact w_c0
  · exact w_c1
  · exact w_c2
  · exact w_c3
set_option maxRecDepth 65536 in
theorem w_t1 : words1.all (fun c => isCode c || c.before args0 about1) = true := by decide +kernel
theorem w_tables : (allAtoms (Jvm.Cond.code x code maxLocals ret :: tables_1)).before args0 about1 = true := by
  rw [allAtoms_all]
  show words1.all (fun c => c.before args0 about1) = true
  refine all_split ?_ w_codes
  rw [w_t1]
set_option maxRecDepth 65536 in
theorem w_case : (Jvm.Cond.and given_1 narrow_1).before args0 about1 = true := by decide +kernel
theorem w_applies : (headSpec (Jvm.Cond.code x code maxLocals ret :: tables_1) room_1).applies x e0.platform about1 = true :=
  (Spec.applies_iff w_frames).mpr ⟨w_running, w_runnable, w_alone, w_named, w_hears, w_ripe, w_room, w_tables⟩
theorem atStart : AtStart classFile x code maxLocals ret World_1 tables_1 room_1 Calls_1 rest_1 Pre_1 launch0 p0 e0 about1 theMethod args0 below0 :=
  ⟨lists_1, trivial, launch0.admits_env _ _ _, launch0.least_env, fairChoices_fair.cas, fairChoices_fair.clock, w_frames, w_args, w_heap, w_applies, trivial, trivial, w_case⟩
end start1
theorem witness_1 : WitnessClaimed_1 := ⟨start1.p0, start1.e0, start1.about1, start1.theMethod, start1.args0, start1.below0, start1.atStart⟩
end Jvm.Pilot.@@N@@
