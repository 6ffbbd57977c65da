import JvmDerived
import JvmDerived.Pilot.@@N@@Statement
import JvmDerived.Pilot.@@N@@Code
set_option linter.unusedVariables false
set_option linter.unusedSimpArgs false
@@BLOCK:NumsL.lean.txt@@
namespace Jvm.RoadKit
open Sem ClassFile Op Lib Jvm.Stand Jvm.Free Jvm.LawKit
section New
variable {p : Program} {l : Launch} {e : Env} {R : Room} {s : State} {m : MethodId} {args : Array Value} {below : List Frame} {meth : Method} {c : Code} {T : State} {locs : List Loc} {cells slots : Nat}
theorem retI (X : Stand p l e R s m args below meth c T locs cells slots) (hx : p.tables.exec = Jvm.exec) {pc : Nat} {Ls : Array Slot} {z : Int32} {rest : List Value} (hret : meth.sig.returnType = some .int) (hd : decode c.code pc = .ok (.ireturn, 1)) {fs : List Frame}
    (hl : ∀ (f : JFrame) (acts : List Action), f.method = m → f.locked = none → f.entered = [] → (doReturn e (T.setTop f) acts (some (.int z))).1 = T.setFrames fs) : Steps p.tables e below (T.setTop (mkF m pc Ls (.int z :: rest))) (T.setFrames fs) := by
  have hm' : T.vm.method? m = some meth := X.method'
  have hn : narrow .int (.int z) = .int z := rfl
  show Steps p.tables e below (T.setTop { method := m, pc := pc, locals := Ls, stack := _ :: rest, locked := none }) _
  jvm_step X.here [X.here.top, hx, hd, hm', hret, hn]
  first | (intro acts; rw [hl _ acts rfl rfl rfl]) | rw [hl _ _ rfl rfl rfl]
  exact Steps.refl _
theorem own_retJ (X : Stand p l e R s m args below meth c T locs cells slots) (hx : p.tables.exec = Jvm.exec) {pc : Nat} {Ls : Array Slot} {z : Int64} {rest : List Value} (hret : meth.sig.returnType = some .long) (hd : decode c.code pc = .ok (.lreturn, 1)) {fs : List Frame}
    (hl : ∀ (f : JFrame) (acts : List Action), f.method = m → f.locked = none → f.entered = [] → (doReturn e (T.setTop f) acts (some (.long z))).1 = T.setFrames fs) : Steps p.tables e below (T.setTop (mkF m pc Ls (.long z :: rest))) (T.setFrames fs) := by
  have hm' : T.vm.method? m = some meth := X.method'
  show Steps p.tables e below (T.setTop { method := m, pc := pc, locals := Ls, stack := _ :: rest, locked := none }) _
  jvm_step X.here [X.here.top, hx, hd, hm', hret, narrow]
  first | (intro acts; rw [hl _ acts rfl rfl rfl]) | rw [hl _ _ rfl rfl rfl]
  exact Steps.refl _
theorem own_retA (X : Stand p l e R s m args below meth c T locs cells slots) (hx : p.tables.exec = Jvm.exec) {pc : Nat} {Ls : Array Slot} {b : Addr} {t : FieldType} {rest : List Value} (hret : meth.sig.returnType = some t) (ht : t.isReference = true) (hb0 : b = b) (hd : decode c.code pc = .ok (.areturn, 1)) {fs : List Frame}
    (hl : ∀ (f : JFrame) (acts : List Action), f.method = m → f.locked = none → f.entered = [] → (doReturn e (T.setTop f) acts (some (.ref b))).1 = T.setFrames fs) : Steps p.tables e below (T.setTop (mkF m pc Ls (.ref b :: rest))) (T.setFrames fs) := by
  have hm' : T.vm.method? m = some meth := X.method'
  show Steps p.tables e below (T.setTop { method := m, pc := pc, locals := Ls, stack := _ :: rest, locked := none }) _
  jvm_step X.here [X.here.top, hx, hd, hm', hret, Value.isRef, ht]
  first | (intro acts; rw [hl _ acts rfl rfl rfl]) | rw [hl _ _ rfl rfl rfl]
  exact Steps.refl _
end New
/-- a walk's goal at the state A -/
def own_G (tb : Tables) (e : Env) (below : List Frame) (P : Outcome → State → Prop) (A : State) : Prop := ∃ s₂ o, Steps tb e below A s₂ ∧ s₂.status = .running ∧ Ended s₂ below o ∧ P o s₂
section Go
variable {tb : Tables} {e : Env} {below : List Frame} {P : Outcome → State → Prop} {A B : State}
theorem own_step (h : ∀ t, Steps tb e below B t → Steps tb e below A t) (k : own_G tb e below P B) : own_G tb e below P A := by
  obtain ⟨s₂, o, h1, h2⟩ := k
  exact ⟨s₂, o, h _ h1, h2⟩
theorem own_start (h : ∀ t, Steps tb e below B t → Steps tb e below A t) (k : own_G tb e below P B) : ∃ s₂ o, Steps tb e below A s₂ ∧ s₂.status = .running ∧ Ended s₂ below o ∧ P o s₂ := own_step h k
theorem own_done {s₂ : State} {o : Outcome} (h1 : Steps tb e below A s₂) (h2 : s₂.status = .running) (h3 : Ended s₂ below o) (h4 : P o s₂) : own_G tb e below P A := ⟨s₂, o, h1, h2, h3, h4⟩
theorem own_nm {α : Type} (x : α) (F : α → State) (h : ∀ v, v = x → own_G tb e below P (F v)) : own_G tb e below P (F x) := h x rfl
theorem own_gen (h : ∀ P', P' = P → own_G tb e below P' A) : own_G tb e below P A := h P rfl
theorem own_imp (h : own_G tb e below P B → own_G tb e below P A) (k : own_G tb e below P B) : own_G tb e below P A := h k
end Go
/-- an array of ints (bytes, chars, shorts) by its members; a long[] by its members -/
def own_Ari (Z : State) (h : Heap) (a : Addr) (ty : FieldType) (vs : List Int32) : Prop := ∃ c : Cell, Arr Z h a c ty ∧ c.slots.toList = vs.map Value.int ∧ vs.length < 2 ^ 31
def own_Arj (Z : State) (h : Heap) (a : Addr) (vs : List Int64) : Prop := ∃ c : Cell, Arr Z h a c .long ∧ c.slots.toList = vs.map Value.long ∧ vs.length < 2 ^ 31
def own_Inb (j : Int32) (n : Nat) : Prop := ¬ j < 0 ∧ j.toNatClampNeg < n
theorem own_inb {j : Int32} {n : Nat} (h1 : ¬ j < 0) (h2 : j.toNatClampNeg < n) : own_Inb j n := ⟨h1, h2⟩
section ArrFacts
variable {Z : State} {h h' : Heap} {a b : Addr} {ty : FieldType} {vs : List Int32} {us : List Int64} {sl : Nat} {v : Value} {L : List Addr}
theorem own_Ari.lt (F : own_Ari Z h a ty vs) : a < h.size := by obtain ⟨c, A, -⟩ := F; exact A.lt
theorem own_Ari.ext (F : own_Ari Z h a ty vs) (E : Ext h h') : own_Ari Z h' a ty vs := by obtain ⟨c, A, r⟩ := F; exact ⟨c, A.ext E, r⟩
theorem own_Ari.other (F : own_Ari Z h b ty vs) (W : Wr h h' a sl v) (q : b ≠ a) : own_Ari Z h' b ty vs := by obtain ⟨c, A, r⟩ := F; exact ⟨c, A.other W q, r⟩
theorem own_Ari.keep (F : own_Ari Z h a ty vs) (K : Keep h h' L) (q : a ∉ L) : own_Ari Z h' a ty vs := by obtain ⟨c, A, r⟩ := F; exact ⟨c, ⟨K.2.1 a c A.1 q, A.2⟩, r⟩
theorem own_Arj.lt (F : own_Arj Z h a us) : a < h.size := by obtain ⟨c, A, -⟩ := F; exact A.lt
theorem own_Arj.ext (F : own_Arj Z h a us) (E : Ext h h') : own_Arj Z h' a us := by obtain ⟨c, A, r⟩ := F; exact ⟨c, A.ext E, r⟩
theorem own_Arj.other (F : own_Arj Z h b us) (W : Wr h h' a sl v) (q : b ≠ a) : own_Arj Z h' b us := by obtain ⟨c, A, r⟩ := F; exact ⟨c, A.other W q, r⟩
theorem own_Arj.keep (F : own_Arj Z h a us) (K : Keep h h' L) (q : a ∉ L) : own_Arj Z h' a us := by obtain ⟨c, A, r⟩ := F; exact ⟨c, ⟨K.2.1 a c A.1 q, A.2⟩, r⟩
theorem own_Ari_new {cA : ClassId} {n : Int32} (A : Arr Z h b (newA cA ty n) ty) (hn : ¬ n < 0) (hd : defaultValue ty = .int 0) : own_Ari Z h b ty (List.replicate n.toNatClampNeg 0) :=
  ⟨_, A, by simp [newA, hd], by rw [List.length_replicate]; exact (back32 hn).2⟩
theorem own_Arj_new {cA : ClassId} {n : Int32} (A : Arr Z h b (newA cA .long n) .long) (hn : ¬ n < 0) : own_Arj Z h b (List.replicate n.toNatClampNeg 0) :=
  ⟨_, A, by simp [newA, defaultValue], by rw [List.length_replicate]; exact (back32 hn).2⟩
theorem own_szI {c : Cell} (S : c.slots.toList = vs.map Value.int) : c.slots.size = vs.length := by have := congrArg List.length S; simpa using this
theorem own_szJ {c : Cell} (S : c.slots.toList = us.map Value.long) : c.slots.size = us.length := by have := congrArg List.length S; simpa using this
theorem own_atI {c : Cell} {k : Nat} (S : c.slots.toList = vs.map Value.int) (hk : k < vs.length) : c.slots[k]? = some (.int (vs.getD k 0)) := by
  rw [← Array.getElem?_toList, S, List.getElem?_map, List.getD_eq_getElem?_getD, List.getElem?_eq_getElem hk]; rfl
theorem own_atJ {c : Cell} {k : Nat} (S : c.slots.toList = us.map Value.long) (hk : k < us.length) : c.slots[k]? = some (.long (us.getD k 0)) := by
  rw [← Array.getElem?_toList, S, List.getElem?_map, List.getD_eq_getElem?_getD, List.getElem?_eq_getElem hk]; rfl
theorem own_setI {c : Cell} {k : Nat} {x : Int32} (A : Arr Z h a c ty) (S : c.slots.toList = vs.map Value.int) (hl : vs.length < 2 ^ 31) (W : Wr h h' a k (.int x)) : own_Ari Z h' a ty (vs.set k x) :=
  ⟨_, A.same W, by simp [Cell.setSlot, S, List.map_set], by rw [List.length_set]; exact hl⟩
theorem own_setJ {c : Cell} {k : Nat} {x : Int64} (A : Arr Z h a c .long) (S : c.slots.toList = us.map Value.long) (hl : us.length < 2 ^ 31) (W : Wr h h' a k (.long x)) : own_Arj Z h' a (us.set k x) :=
  ⟨_, A.same W, by simp [Cell.setSlot, S, List.map_set], by rw [List.length_set]; exact hl⟩
end ArrFacts
section ArrSteps
variable {p : Program} {l : Launch} {e : Env} {R : Room} {s : State} {m : MethodId} {args : Array Value} {below : List Frame} {meth : Method} {c : Code} {T : State} {locs : List Loc} {cells slots : Nat} {Z : State} {h : Heap} {a : Addr} {vs : List Int32} {us : List Int64} {j : Int32} {g : JFrame} {rest : List Value}
theorem own_iaload (X : Stand p l e R s m args below meth c T locs cells slots) (hx : p.tables.exec = Jvm.exec) (hZ : Z.Warmed39 s.vm) (eT : T.heap = h) (F : own_Ari Z h a .int vs) (q : own_Inb j vs.length) (hg : g.method = m) (hs : g.stack = .int j :: .ref a :: rest) (hd : decode c.code g.pc = .ok (.iaload, 1)) :
    ∀ target, Steps p.tables e below (T.setTop { g with pc := g.pc + 1, stack := .int (vs.getD j.toNatClampNeg 0) :: rest }) target → Steps p.tables e below (T.setTop g) target := by
  obtain ⟨cl, A, S, hl⟩ := F
  have z := own_szI S
  exact X.iaload hx (by rw [eT]; exact A.1) (State.isArrayOf_alike hZ.alike A.2.1) A.2.2 (fun y => y.elim q.1 fun w => by have := q.2; omega) (own_atI S q.2) hg hs hd
theorem own_baload (X : Stand p l e R s m args below meth c T locs cells slots) (hx : p.tables.exec = Jvm.exec) (hZ : Z.Warmed39 s.vm) (eT : T.heap = h) (F : own_Ari Z h a .byte vs) (q : own_Inb j vs.length) (hg : g.method = m) (hs : g.stack = .int j :: .ref a :: rest) (hd : decode c.code g.pc = .ok (.baload, 1)) :
    ∀ target, Steps p.tables e below (T.setTop { g with pc := g.pc + 1, stack := .int (vs.getD j.toNatClampNeg 0) :: rest }) target → Steps p.tables e below (T.setTop g) target := by
  obtain ⟨cl, A, S, hl⟩ := F
  have z := own_szI S
  exact X.baloadBytes hx (by rw [eT]; exact A.1) (State.isArrayOf_alike hZ.alike A.2.1) A.2.2 (fun y => y.elim q.1 fun w => by have := q.2; omega) (own_atI S q.2) hg hs hd
theorem own_laload (X : Stand p l e R s m args below meth c T locs cells slots) (hx : p.tables.exec = Jvm.exec) (hZ : Z.Warmed39 s.vm) (eT : T.heap = h) (F : own_Arj Z h a us) (q : own_Inb j us.length) (hg : g.method = m) (hs : g.stack = .int j :: .ref a :: rest) (hd : decode c.code g.pc = .ok (.laload, 1)) :
    ∀ target, Steps p.tables e below (T.setTop { g with pc := g.pc + 1, stack := .long (us.getD j.toNatClampNeg 0) :: rest }) target → Steps p.tables e below (T.setTop g) target := by
  obtain ⟨cl, A, S, hl⟩ := F
  have z := own_szJ S
  exact X.laload hx (by rw [eT]; exact A.1) (State.isArrayOf_alike hZ.alike A.2.1) A.2.2 (fun y => y.elim q.1 fun w => by have := q.2; omega) (own_atJ S q.2) hg hs hd
theorem own_lenI {ty : FieldType} (X : Stand p l e R s m args below meth c T locs cells slots) (hx : p.tables.exec = Jvm.exec) (hZ : Z.Warmed39 s.vm) (eT : T.heap = h) (F : own_Ari Z h a ty vs) (hg : g.method = m) (hs : g.stack = .ref a :: rest) (hd : decode c.code g.pc = .ok (.arraylength, 1)) :
    ∀ target, Steps p.tables e below (T.setTop { g with pc := g.pc + 1, stack := .int vs.length.toInt32 :: rest }) target → Steps p.tables e below (T.setTop g) target := by
  obtain ⟨cl, A, S, hl⟩ := F
  have z := own_szI S
  have k := X.arraylength hx (by rw [eT]; exact A.1) (State.isArrayOf_alike hZ.alike A.2.1) hg hs hd
  rw [z] at k
  exact k
theorem own_lenJ (X : Stand p l e R s m args below meth c T locs cells slots) (hx : p.tables.exec = Jvm.exec) (hZ : Z.Warmed39 s.vm) (eT : T.heap = h) (F : own_Arj Z h a us) (hg : g.method = m) (hs : g.stack = .ref a :: rest) (hd : decode c.code g.pc = .ok (.arraylength, 1)) :
    ∀ target, Steps p.tables e below (T.setTop { g with pc := g.pc + 1, stack := .int us.length.toInt32 :: rest }) target → Steps p.tables e below (T.setTop g) target := by
  obtain ⟨cl, A, S, hl⟩ := F
  have z := own_szJ S
  have k := X.arraylength hx (by rw [eT]; exact A.1) (State.isArrayOf_alike hZ.alike A.2.1) hg hs hd
  rw [z] at k
  exact k
theorem own_iastore {x : Int32} (X : Stand p l e R s m args below meth c T locs cells slots) (hx : p.tables.exec = Jvm.exec) (hZ : Z.Warmed39 s.vm) (eT : T.heap = h) (F : own_Ari Z h a .int vs) (q : own_Inb j vs.length) (hg : g.method = m) (hs : g.stack = .int x :: .int j :: .ref a :: rest) (hd : decode c.code g.pc = .ok (.iastore, 1)) :
    ∃ T' h', Stand p l e R s m args below meth c T' (locs ++ [⟨a, j.toNatClampNeg⟩]) cells slots ∧ T'.heap = h' ∧ Wr h h' a j.toNatClampNeg (.int x) ∧ own_Ari Z h' a .int (vs.set j.toNatClampNeg x) ∧
      ∀ target, Steps p.tables e below (T'.setTop { g with pc := g.pc + 1, stack := rest }) target → Steps p.tables e below (T.setTop g) target := by
  obtain ⟨cl, A, S, hl⟩ := F
  have z := own_szI S
  obtain ⟨T', h', X', e', W, st⟩ := stI X hx hZ eT A (j := j) (x := x) (fun y => y.elim q.1 fun w => by have := q.2; omega) hg hs hd
  exact ⟨T', h', X', e', W, own_setI A S hl W, st⟩
theorem own_bastore {x : Int32} (X : Stand p l e R s m args below meth c T locs cells slots) (hx : p.tables.exec = Jvm.exec) (hZ : Z.Warmed39 s.vm) (eT : T.heap = h) (F : own_Ari Z h a .byte vs) (q : own_Inb j vs.length) (hg : g.method = m) (hs : g.stack = .int x :: .int j :: .ref a :: rest) (hd : decode c.code g.pc = .ok (.bastore, 1)) :
    ∃ T' h', Stand p l e R s m args below meth c T' (locs ++ [⟨a, j.toNatClampNeg⟩]) cells slots ∧ T'.heap = h' ∧ Wr h h' a j.toNatClampNeg (.int (nar .byte x)) ∧ own_Ari Z h' a .byte (vs.set j.toNatClampNeg (nar .byte x)) ∧
      ∀ target, Steps p.tables e below (T'.setTop { g with pc := g.pc + 1, stack := rest }) target → Steps p.tables e below (T.setTop g) target := by
  obtain ⟨cl, A, S, hl⟩ := F
  have z := own_szI S
  obtain ⟨T', h', X', e', W, st⟩ := stB X hx hZ eT A (j := j) (x := x) (fun y => y.elim q.1 fun w => by have := q.2; omega) hg hs hd
  exact ⟨T', h', X', e', W, own_setI A S hl W, st⟩
theorem own_lastore {x : Int64} (X : Stand p l e R s m args below meth c T locs cells slots) (hx : p.tables.exec = Jvm.exec) (hZ : Z.Warmed39 s.vm) (eT : T.heap = h) (F : own_Arj Z h a us) (q : own_Inb j us.length) (hg : g.method = m) (hs : g.stack = .long x :: .int j :: .ref a :: rest) (hd : decode c.code g.pc = .ok (.lastore, 1)) :
    ∃ T' h', Stand p l e R s m args below meth c T' (locs ++ [⟨a, j.toNatClampNeg⟩]) cells slots ∧ T'.heap = h' ∧ Wr h h' a j.toNatClampNeg (.long x) ∧ own_Arj Z h' a (us.set j.toNatClampNeg x) ∧
      ∀ target, Steps p.tables e below (T'.setTop { g with pc := g.pc + 1, stack := rest }) target → Steps p.tables e below (T.setTop g) target := by
  obtain ⟨cl, A, S, hl⟩ := F
  have z := own_szJ S
  obtain ⟨T', h', X', e', W, st⟩ := stJ X hx hZ eT A (j := j) (x := x) (fun y => y.elim q.1 fun w => by have := q.2; omega) hg hs hd
  exact ⟨T', h', X', e', W, own_setJ A S hl W, st⟩
theorem own_cloneI {a0 : Array Value} {own : String} {index : Nat} (X : Stand p l e R s m args below meth c T locs cells slots) (hx : p.tables.exec = Jvm.exec) (hZ : Z.Warmed39 s.vm) (hown : s.vm.findClass own = some m.cls)
    (w1 : (Cond.methodLink own index ⟨"[I", "clone", "()Ljava/lang/Object;"⟩).before a0 Z = true) (w2 : (Cond.sameMethod "[I" "java/lang/Object" "clone" "()Ljava/lang/Object;").before a0 Z = true) (w3 : (Cond.native ⟨"java/lang/Object", "clone", "()Ljava/lang/Object;"⟩).before a0 Z = true)
    (w4 : (Cond.instanceMethod ⟨"java/lang/Object", "clone", "()Ljava/lang/Object;"⟩).before a0 Z = true) (w5 : (Cond.selects "[I" ⟨"[I", "clone", "()Ljava/lang/Object;"⟩ ⟨"java/lang/Object", "clone", "()Ljava/lang/Object;"⟩).before a0 Z = true) (w6 : (Cond.castable "[I" "java/lang/Cloneable").before a0 Z = true)
    (eT : T.heap = h) (F : own_Ari Z h a .int vs) (E : Exa Z h a "[I") (hg : g.method = m) (hsize : g.locals.size = c.maxLocals) (hs : g.stack = .ref a :: rest) (hd : decode c.code g.pc = .ok (.invokevirtual index, 3))
    (hf : 1 ≤ R.frames) {W cap : Nat} (hW : 2 * g.monitorRoom + (rest.map fun v => v.category).sum ≤ W) (hl : W + 14 ≤ R.locals) (hcap : vs.length ≤ cap) (hc : cells + 1 ≤ R.cells) (hsl : slots + cap ≤ R.slots) :
    ∃ T' h', Stand p l e R s m args below meth c T' locs (cells + 1) (slots + cap) ∧ T'.heap = h' ∧ Ext h h' ∧ own_Ari Z h' h.size .int vs ∧ Exa Z h' h.size "[I" ∧
      ∀ target, Steps p.tables e below (T'.setTop { g with pc := g.pc + 3, stack := .ref h.size :: rest }) target → Steps p.tables e below (T.setTop g) target := by
  obtain ⟨cl, A, S, hl'⟩ := F
  have z := own_szI S
  have FC : FitC Z cl := fitC_of A fun i hi v hv => by
    rw [own_atI S (by omega)] at hv
    cases hv; rfl
  obtain ⟨T', h', X', e', ex, A', E', st⟩ := cloneA X hx hZ hown w1 w2 w3 w4 w5 w6 eT A E FC hg hsize hs hd hf hW hl (by rw [z]; exact hcap) hc hsl
  exact ⟨T', h', X', e', ex, ⟨cloneOf cl, A', S, hl'⟩, E', st⟩
end ArrSteps

end Jvm.RoadKit
namespace Jvm.Pilot.@@N@@
open Jvm Jvm.ClassFile Sem Op Lib Jvm.Free Jvm.Stand Jvm.LawKit Jvm.RoadKit Bundle Jvm.Pilot.@@N@@.Jvm.D

theorem d1_0 : decode prog_179_method_13_code 0 = .ok (.iload_n 0, 1) := by decide +kernel
theorem d1_1 : decode prog_179_method_13_code 1 = .ok (.bipush 97, 2) := by decide +kernel
theorem d1_3 : decode prog_179_method_13_code 3 = .ok (.if_icmp .lt 9, 3) := by decide +kernel
theorem d1_6 : decode prog_179_method_13_code 6 = .ok (.iload_n 0, 1) := by decide +kernel
theorem d1_7 : decode prog_179_method_13_code 7 = .ok (.bipush 122, 2) := by decide +kernel
theorem d1_9 : decode prog_179_method_13_code 9 = .ok (.if_icmp .le 182, 3) := by decide +kernel
theorem d1_12 : decode prog_179_method_13_code 12 = .ok (.iload_n 0, 1) := by decide +kernel
theorem d1_13 : decode prog_179_method_13_code 13 = .ok (.bipush 65, 2) := by decide +kernel
theorem d1_15 : decode prog_179_method_13_code 15 = .ok (.if_icmp .lt 9, 3) := by decide +kernel
theorem d1_18 : decode prog_179_method_13_code 18 = .ok (.iload_n 0, 1) := by decide +kernel
theorem d1_19 : decode prog_179_method_13_code 19 = .ok (.bipush 90, 2) := by decide +kernel
theorem d1_21 : decode prog_179_method_13_code 21 = .ok (.if_icmp .le 170, 3) := by decide +kernel
theorem d1_24 : decode prog_179_method_13_code 24 = .ok (.iload_n 0, 1) := by decide +kernel
theorem d1_25 : decode prog_179_method_13_code 25 = .ok (.bipush 95, 2) := by decide +kernel
theorem d1_27 : decode prog_179_method_13_code 27 = .ok (.if_icmp .eq 164, 3) := by decide +kernel
theorem d1_30 : decode prog_179_method_13_code 30 = .ok (.iload_n 0, 1) := by decide +kernel
theorem d1_31 : decode prog_179_method_13_code 31 = .ok (.sipush 192, 3) := by decide +kernel
theorem d1_34 : decode prog_179_method_13_code 34 = .ok (.if_icmp .lt 10, 3) := by decide +kernel
theorem d1_37 : decode prog_179_method_13_code 37 = .ok (.iload_n 0, 1) := by decide +kernel
theorem d1_38 : decode prog_179_method_13_code 38 = .ok (.sipush 214, 3) := by decide +kernel
theorem d1_41 : decode prog_179_method_13_code 41 = .ok (.if_icmp .le 150, 3) := by decide +kernel
theorem d1_44 : decode prog_179_method_13_code 44 = .ok (.iload_n 0, 1) := by decide +kernel
theorem d1_45 : decode prog_179_method_13_code 45 = .ok (.sipush 216, 3) := by decide +kernel
theorem d1_48 : decode prog_179_method_13_code 48 = .ok (.if_icmp .lt 10, 3) := by decide +kernel
theorem d1_51 : decode prog_179_method_13_code 51 = .ok (.iload_n 0, 1) := by decide +kernel
theorem d1_52 : decode prog_179_method_13_code 52 = .ok (.sipush 246, 3) := by decide +kernel
theorem d1_55 : decode prog_179_method_13_code 55 = .ok (.if_icmp .le 136, 3) := by decide +kernel
theorem d1_58 : decode prog_179_method_13_code 58 = .ok (.iload_n 0, 1) := by decide +kernel
theorem d1_59 : decode prog_179_method_13_code 59 = .ok (.sipush 248, 3) := by decide +kernel
theorem d1_62 : decode prog_179_method_13_code 62 = .ok (.if_icmp .lt 10, 3) := by decide +kernel
theorem d1_65 : decode prog_179_method_13_code 65 = .ok (.iload_n 0, 1) := by decide +kernel
theorem d1_66 : decode prog_179_method_13_code 66 = .ok (.sipush 767, 3) := by decide +kernel
theorem d1_69 : decode prog_179_method_13_code 69 = .ok (.if_icmp .le 122, 3) := by decide +kernel
theorem d1_72 : decode prog_179_method_13_code 72 = .ok (.iload_n 0, 1) := by decide +kernel
theorem d1_73 : decode prog_179_method_13_code 73 = .ok (.sipush 880, 3) := by decide +kernel
theorem d1_76 : decode prog_179_method_13_code 76 = .ok (.if_icmp .lt 10, 3) := by decide +kernel
theorem d1_79 : decode prog_179_method_13_code 79 = .ok (.iload_n 0, 1) := by decide +kernel
theorem d1_80 : decode prog_179_method_13_code 80 = .ok (.sipush 893, 3) := by decide +kernel
theorem d1_83 : decode prog_179_method_13_code 83 = .ok (.if_icmp .le 108, 3) := by decide +kernel
theorem d1_86 : decode prog_179_method_13_code 86 = .ok (.iload_n 0, 1) := by decide +kernel
theorem d1_87 : decode prog_179_method_13_code 87 = .ok (.sipush 895, 3) := by decide +kernel
theorem d1_90 : decode prog_179_method_13_code 90 = .ok (.if_icmp .lt 10, 3) := by decide +kernel
theorem d1_93 : decode prog_179_method_13_code 93 = .ok (.iload_n 0, 1) := by decide +kernel
theorem d1_94 : decode prog_179_method_13_code 94 = .ok (.sipush 8191, 3) := by decide +kernel
theorem d1_97 : decode prog_179_method_13_code 97 = .ok (.if_icmp .le 94, 3) := by decide +kernel
theorem d1_100 : decode prog_179_method_13_code 100 = .ok (.iload_n 0, 1) := by decide +kernel
theorem d1_101 : decode prog_179_method_13_code 101 = .ok (.sipush 8204, 3) := by decide +kernel
theorem d1_104 : decode prog_179_method_13_code 104 = .ok (.if_icmp .lt 10, 3) := by decide +kernel
theorem d1_107 : decode prog_179_method_13_code 107 = .ok (.iload_n 0, 1) := by decide +kernel
theorem d1_108 : decode prog_179_method_13_code 108 = .ok (.sipush 8205, 3) := by decide +kernel
theorem d1_111 : decode prog_179_method_13_code 111 = .ok (.if_icmp .le 80, 3) := by decide +kernel
theorem d1_114 : decode prog_179_method_13_code 114 = .ok (.iload_n 0, 1) := by decide +kernel
theorem d1_115 : decode prog_179_method_13_code 115 = .ok (.sipush 8304, 3) := by decide +kernel
theorem d1_118 : decode prog_179_method_13_code 118 = .ok (.if_icmp .lt 10, 3) := by decide +kernel
theorem d1_121 : decode prog_179_method_13_code 121 = .ok (.iload_n 0, 1) := by decide +kernel
theorem d1_122 : decode prog_179_method_13_code 122 = .ok (.sipush 8591, 3) := by decide +kernel
theorem d1_125 : decode prog_179_method_13_code 125 = .ok (.if_icmp .le 66, 3) := by decide +kernel
theorem d1_128 : decode prog_179_method_13_code 128 = .ok (.iload_n 0, 1) := by decide +kernel
theorem d1_129 : decode prog_179_method_13_code 129 = .ok (.sipush 11264, 3) := by decide +kernel
theorem d1_132 : decode prog_179_method_13_code 132 = .ok (.if_icmp .lt 10, 3) := by decide +kernel
theorem d1_135 : decode prog_179_method_13_code 135 = .ok (.iload_n 0, 1) := by decide +kernel
theorem d1_136 : decode prog_179_method_13_code 136 = .ok (.sipush 12271, 3) := by decide +kernel
theorem d1_139 : decode prog_179_method_13_code 139 = .ok (.if_icmp .le 52, 3) := by decide +kernel
theorem d1_142 : decode prog_179_method_13_code 142 = .ok (.iload_n 0, 1) := by decide +kernel
theorem d1_143 : decode prog_179_method_13_code 143 = .ok (.sipush 12289, 3) := by decide +kernel
theorem d1_146 : decode prog_179_method_13_code 146 = .ok (.if_icmp .lt 9, 3) := by decide +kernel
theorem d1_149 : decode prog_179_method_13_code 149 = .ok (.iload_n 0, 1) := by decide +kernel
theorem d1_150 : decode prog_179_method_13_code 150 = .ok (.ldc 123, 2) := by decide +kernel
theorem d1_152 : decode prog_179_method_13_code 152 = .ok (.if_icmp .le 39, 3) := by decide +kernel
theorem d1_155 : decode prog_179_method_13_code 155 = .ok (.iload_n 0, 1) := by decide +kernel
theorem d1_156 : decode prog_179_method_13_code 156 = .ok (.ldc 124, 2) := by decide +kernel
theorem d1_158 : decode prog_179_method_13_code 158 = .ok (.if_icmp .lt 9, 3) := by decide +kernel
theorem d1_161 : decode prog_179_method_13_code 161 = .ok (.iload_n 0, 1) := by decide +kernel
theorem d1_162 : decode prog_179_method_13_code 162 = .ok (.ldc 125, 2) := by decide +kernel
theorem d1_164 : decode prog_179_method_13_code 164 = .ok (.if_icmp .le 27, 3) := by decide +kernel
theorem d1_167 : decode prog_179_method_13_code 167 = .ok (.iload_n 0, 1) := by decide +kernel
theorem d1_168 : decode prog_179_method_13_code 168 = .ok (.ldc 126, 2) := by decide +kernel
theorem d1_170 : decode prog_179_method_13_code 170 = .ok (.if_icmp .lt 9, 3) := by decide +kernel
theorem d1_173 : decode prog_179_method_13_code 173 = .ok (.iload_n 0, 1) := by decide +kernel
theorem d1_174 : decode prog_179_method_13_code 174 = .ok (.ldc 127, 2) := by decide +kernel
theorem d1_176 : decode prog_179_method_13_code 176 = .ok (.if_icmp .le 15, 3) := by decide +kernel
theorem d1_179 : decode prog_179_method_13_code 179 = .ok (.iload_n 0, 1) := by decide +kernel
theorem d1_180 : decode prog_179_method_13_code 180 = .ok (.ldc 128, 2) := by decide +kernel
theorem d1_182 : decode prog_179_method_13_code 182 = .ok (.if_icmp .lt 13, 3) := by decide +kernel
theorem d1_185 : decode prog_179_method_13_code 185 = .ok (.iload_n 0, 1) := by decide +kernel
theorem d1_186 : decode prog_179_method_13_code 186 = .ok (.ldc 129, 2) := by decide +kernel
theorem d1_188 : decode prog_179_method_13_code 188 = .ok (.if_icmp .gt 7, 3) := by decide +kernel
theorem d1_191 : decode prog_179_method_13_code 191 = .ok (.iconst 1, 1) := by decide +kernel
theorem d1_192 : decode prog_179_method_13_code 192 = .ok (.goto 4, 3) := by decide +kernel
theorem d1_195 : decode prog_179_method_13_code 195 = .ok (.iconst 0, 1) := by decide +kernel
theorem d1_196 : decode prog_179_method_13_code 196 = .ok (.ireturn, 1) := by decide +kernel
theorem pn_1 : plainName "com/example/same_bytes/samebytes/XmlRules" = true := by first | (simp [plainName, overriddenIn]; done) | decide +kernel
theorem ef_1 (m : MethodId) (p1 : Int32) : entryFrame m #[(.int p1)] 1 = mkF m 0 #[.val (.int p1)] [] := by first | (simp [entryFrame, mkF, argsToLocals, Value.category]; done) | rfl
def own_f1_179 (p1 : Int32) : Int32 :=
  (if p1 < (65536 : Int32) then (0 : Int32) else (if (983039 : Int32) < p1 then (0 : Int32) else (1 : Int32)))
def own_f1_167 (p1 : Int32) : Int32 :=
  (if p1 < (65008 : Int32) then (own_f1_179 p1) else (if (65533 : Int32) < p1 then (own_f1_179 p1) else (1 : Int32)))
def own_f1_155 (p1 : Int32) : Int32 :=
  (if p1 < (63744 : Int32) then (own_f1_167 p1) else (if (64975 : Int32) < p1 then (own_f1_167 p1) else (1 : Int32)))
def own_f1_142 (p1 : Int32) : Int32 :=
  (if p1 < (12289 : Int32) then (own_f1_155 p1) else (if (55295 : Int32) < p1 then (own_f1_155 p1) else (1 : Int32)))
def own_f1_128 (p1 : Int32) : Int32 :=
  (if p1 < (11264 : Int32) then (own_f1_142 p1) else (if (12271 : Int32) < p1 then (own_f1_142 p1) else (1 : Int32)))
def own_f1_114 (p1 : Int32) : Int32 :=
  (if p1 < (8304 : Int32) then (own_f1_128 p1) else (if (8591 : Int32) < p1 then (own_f1_128 p1) else (1 : Int32)))
def own_f1_100 (p1 : Int32) : Int32 :=
  (if p1 < (8204 : Int32) then (own_f1_114 p1) else (if (8205 : Int32) < p1 then (own_f1_114 p1) else (1 : Int32)))
def own_f1_86 (p1 : Int32) : Int32 :=
  (if p1 < (895 : Int32) then (own_f1_100 p1) else (if (8191 : Int32) < p1 then (own_f1_100 p1) else (1 : Int32)))
def own_f1_72 (p1 : Int32) : Int32 :=
  (if p1 < (880 : Int32) then (own_f1_86 p1) else (if (893 : Int32) < p1 then (own_f1_86 p1) else (1 : Int32)))
def own_f1_58 (p1 : Int32) : Int32 :=
  (if p1 < (248 : Int32) then (own_f1_72 p1) else (if (767 : Int32) < p1 then (own_f1_72 p1) else (1 : Int32)))
def own_f1_44 (p1 : Int32) : Int32 :=
  (if p1 < (216 : Int32) then (own_f1_58 p1) else (if (246 : Int32) < p1 then (own_f1_58 p1) else (1 : Int32)))
def own_f1_30 (p1 : Int32) : Int32 :=
  (if p1 < (192 : Int32) then (own_f1_44 p1) else (if (214 : Int32) < p1 then (own_f1_44 p1) else (1 : Int32)))
def own_f1_24 (p1 : Int32) : Int32 :=
  (if p1 = (95 : Int32) then (1 : Int32) else (own_f1_30 p1))
def own_f1_12 (p1 : Int32) : Int32 :=
  (if p1 < (65 : Int32) then (own_f1_24 p1) else (if (90 : Int32) < p1 then (own_f1_24 p1) else (1 : Int32)))
def own_f1 (p1 : Int32) : Int32 :=
  (if p1 < (97 : Int32) then (own_f1_12 p1) else (if (122 : Int32) < p1 then (own_f1_12 p1) else (1 : Int32)))
def Q1 (Z : State) (p1 : Int32) (h0 : Heap) (n0 : Nat) (v : Option Value) (h : Heap) (L : List Loc) : Prop := v = some (.int (own_f1 p1)) ∧ Fr n0 L ∧ h = h0
set_option maxRecDepth 65536 in
set_option maxHeartbeats 40000000 in
theorem rm1 (l : Launch) (Z : State) (a0 : Array Value) (hw : ∀ d ∈ tables_1, d.before a0 Z = true) (ws : List Jvm.Cond) (p1 : Int32) (h0 : Heap) (n0 : Nat) (Z0 : n0 ≤ h0.size) :
    MetFree l (⟨"com/example/same_bytes/samebytes/XmlRules", "isNameStartChar", "(I)Z"⟩ : MethodName) (head1 (Jvm.Cond.code (⟨"com/example/same_bytes/samebytes/XmlRules", "isNameStartChar", "(I)Z"⟩ : MethodName) prog_179_method_13_code 1 (some .boolean) :: ws) ({ frames := 0, cells := 0, slots := 0, locals := 0 } : Room)) (fun a U => a = #[(.int p1)] ∧ Z.Warmed39 U.vm ∧ U.heap = h0) (fun _ _ _ _ _ => True) (fun _ U o U' => ∃ v L, o = .returned v ∧ Q1 Z p1 h0 n0 v U'.heap L ∧ FrameEnd U o U' L ({ frames := 0, cells := 0, slots := 0, locals := 0 } : Room).cells ({ frames := 0, cells := 0, slots := 0, locals := 0 } : Room).slots) := by
  refine MetFree.of_bodySF (plainFor_of_name pn_1) hisR ?_
  intro p e s m args below meth c s₁ Bd hml0 hP hK
  obtain ⟨rfl, hZ, hh⟩ := hP
  have hx := Bd.exec
  have hby := Bd.bytes
  have hml : c.maxLocals = 1 := hml0
  have hown : s.vm.findClass "com/example/same_bytes/samebytes/XmlRules" = some m.cls := findClass_of_methodNamed Bd.named
  have hnm := (name_of_methodNamed Bd.named Bd.method).1
  have X0 : Stand p l e ({ frames := 0, cells := 0, slots := 0, locals := 0 } : Room) s m #[(.int p1)] below meth c s₁ [] 0 0 := Stand.of_body Bd
  have e0 : s₁.heap = h0 := by rw [← hh, Bd.state]; rfl
  have N0 := Fr.nil n0
  refine own_start (fun t k => castTop (ef_1 m p1) k) ?_
  refine own_gen fun P hP => ?_
  have kx179 : own_f1 p1 = own_f1_179 p1 → own_G p.tables e below P (s₁.setTop (mkF m 179 #[.val (.int p1)] [])) := by
    intro hv
    refine own_step (fun t k => XS.iloadN X0.here hx rfl (hb hby d1_179) rfl k) ?_
    show own_G p.tables e below _ (s₁.setTop (mkF m 180 #[.val (.int p1)] [(.int p1)]))
    refine own_step (X0.ldcInt hx hown (mvT hZ (hw _ (List.mem_of_getElem? (i := 15) rfl))) (g := (mkF m 180 #[.val (.int p1)] [(.int p1)])) rfl (hb hby d1_180)) ?_
    show own_G p.tables e below _ (s₁.setTop (mkF m 182 #[.val (.int p1)] [(.int (65536 : Int32)), (.int p1)]))
    by_cases hc1 : p1 < (65536 : Int32)
    · skip
      refine own_step (fun t k => XS.icmpYes X0.here hx rfl (pc0 := 182) (pc' := 195) rfl (hb hby d1_182) rfl ((tlt hc1).1) (by decide) (by decide) k) ?_
      show own_G p.tables e below _ (s₁.setTop (mkF m 195 #[.val (.int p1)] []))
      refine own_step (fun t k => XS.iconst X0.here hx rfl (hb hby d1_195) k) ?_
      show own_G p.tables e below _ (s₁.setTop (mkF m 196 #[.val (.int p1)] [(.int (0 : Int32))]))
      subst hP
      obtain ⟨fs, hr, hrun, hended, hW, hsame⟩ := X0.leave (v := some (.int (0 : Int32))) (fun h => by rw [Bd.returns] at h; cases h)
      refine own_done (retN X0 hx (t := .boolean) Bd.returns (by simp) (hb hby d1_196) hr) hrun hended ⟨_, _, rfl, ?_, ⟨_, rfl⟩, hW, hsame.mono (by decide) (by decide)⟩
      show Q1 Z p1 h0 n0 _ s₁.heap _
      rw [e0]
      exact ⟨congrArg (fun z => some (Value.int z)) (show (0 : Int32) = (own_f1 p1) from (show _ = own_f1_179 p1 from by unfold own_f1_179; simp only [if_pos hc1]).trans hv.symm), N0, rfl⟩
    · skip
      refine own_step (fun t k => XS.icmpNo X0.here hx rfl (hb hby d1_182) rfl ((flt hc1).1) k) ?_
      show own_G p.tables e below _ (s₁.setTop (mkF m 185 #[.val (.int p1)] []))
      refine own_step (fun t k => XS.iloadN X0.here hx rfl (hb hby d1_185) rfl k) ?_
      show own_G p.tables e below _ (s₁.setTop (mkF m 186 #[.val (.int p1)] [(.int p1)]))
      refine own_step (X0.ldcInt hx hown (mvT hZ (hw _ (List.mem_of_getElem? (i := 23) rfl))) (g := (mkF m 186 #[.val (.int p1)] [(.int p1)])) rfl (hb hby d1_186)) ?_
      show own_G p.tables e below _ (s₁.setTop (mkF m 188 #[.val (.int p1)] [(.int (983039 : Int32)), (.int p1)]))
      by_cases hc2 : (983039 : Int32) < p1
      · skip
        refine own_step (fun t k => XS.icmpYes X0.here hx rfl (pc0 := 188) (pc' := 195) rfl (hb hby d1_188) rfl ((tlt hc2).2.2.1) (by decide) (by decide) k) ?_
        show own_G p.tables e below _ (s₁.setTop (mkF m 195 #[.val (.int p1)] []))
        refine own_step (fun t k => XS.iconst X0.here hx rfl (hb hby d1_195) k) ?_
        show own_G p.tables e below _ (s₁.setTop (mkF m 196 #[.val (.int p1)] [(.int (0 : Int32))]))
        subst hP
        obtain ⟨fs, hr, hrun, hended, hW, hsame⟩ := X0.leave (v := some (.int (0 : Int32))) (fun h => by rw [Bd.returns] at h; cases h)
        refine own_done (retN X0 hx (t := .boolean) Bd.returns (by simp) (hb hby d1_196) hr) hrun hended ⟨_, _, rfl, ?_, ⟨_, rfl⟩, hW, hsame.mono (by decide) (by decide)⟩
        show Q1 Z p1 h0 n0 _ s₁.heap _
        rw [e0]
        exact ⟨congrArg (fun z => some (Value.int z)) (show (0 : Int32) = (own_f1 p1) from (show _ = own_f1_179 p1 from by unfold own_f1_179; simp only [if_neg hc1, if_pos hc2]).trans hv.symm), N0, rfl⟩
      · skip
        refine own_step (fun t k => XS.icmpNo X0.here hx rfl (hb hby d1_188) rfl ((flt hc2).2.2.1) k) ?_
        show own_G p.tables e below _ (s₁.setTop (mkF m 191 #[.val (.int p1)] []))
        refine own_step (fun t k => XS.iconst X0.here hx rfl (hb hby d1_191) k) ?_
        show own_G p.tables e below _ (s₁.setTop (mkF m 192 #[.val (.int p1)] [(.int (1 : Int32))]))
        refine own_step (fun t k => XS.goto X0.here hx rfl (pc0 := 192) (pc' := 196) rfl (hb hby d1_192) (by decide) (by decide) k) ?_
        show own_G p.tables e below _ (s₁.setTop (mkF m 196 #[.val (.int p1)] [(.int (1 : Int32))]))
        subst hP
        obtain ⟨fs, hr, hrun, hended, hW, hsame⟩ := X0.leave (v := some (.int (1 : Int32))) (fun h => by rw [Bd.returns] at h; cases h)
        refine own_done (retN X0 hx (t := .boolean) Bd.returns (by simp) (hb hby d1_196) hr) hrun hended ⟨_, _, rfl, ?_, ⟨_, rfl⟩, hW, hsame.mono (by decide) (by decide)⟩
        show Q1 Z p1 h0 n0 _ s₁.heap _
        rw [e0]
        exact ⟨congrArg (fun z => some (Value.int z)) (show (1 : Int32) = (own_f1 p1) from (show _ = own_f1_179 p1 from by unfold own_f1_179; simp only [if_neg hc1, if_neg hc2]).trans hv.symm), N0, rfl⟩
  have kx167 : own_f1 p1 = own_f1_167 p1 → own_G p.tables e below P (s₁.setTop (mkF m 167 #[.val (.int p1)] [])) := by
    intro hv
    refine own_step (fun t k => XS.iloadN X0.here hx rfl (hb hby d1_167) rfl k) ?_
    show own_G p.tables e below _ (s₁.setTop (mkF m 168 #[.val (.int p1)] [(.int p1)]))
    refine own_step (X0.ldcInt hx hown (mvT hZ (hw _ (List.mem_of_getElem? (i := 14) rfl))) (g := (mkF m 168 #[.val (.int p1)] [(.int p1)])) rfl (hb hby d1_168)) ?_
    show own_G p.tables e below _ (s₁.setTop (mkF m 170 #[.val (.int p1)] [(.int (65008 : Int32)), (.int p1)]))
    by_cases hc3 : p1 < (65008 : Int32)
    · skip
      refine own_step (fun t k => XS.icmpYes X0.here hx rfl (pc0 := 170) (pc' := 179) rfl (hb hby d1_170) rfl ((tlt hc3).1) (by decide) (by decide) k) ?_
      show own_G p.tables e below _ (s₁.setTop (mkF m 179 #[.val (.int p1)] []))
      exact kx179 (hv.trans (show own_f1_167 p1 = own_f1_179 p1 from by unfold own_f1_167; simp only [if_pos hc3]))
    · skip
      refine own_step (fun t k => XS.icmpNo X0.here hx rfl (hb hby d1_170) rfl ((flt hc3).1) k) ?_
      show own_G p.tables e below _ (s₁.setTop (mkF m 173 #[.val (.int p1)] []))
      refine own_step (fun t k => XS.iloadN X0.here hx rfl (hb hby d1_173) rfl k) ?_
      show own_G p.tables e below _ (s₁.setTop (mkF m 174 #[.val (.int p1)] [(.int p1)]))
      refine own_step (X0.ldcInt hx hown (mvT hZ (hw _ (List.mem_of_getElem? (i := 22) rfl))) (g := (mkF m 174 #[.val (.int p1)] [(.int p1)])) rfl (hb hby d1_174)) ?_
      show own_G p.tables e below _ (s₁.setTop (mkF m 176 #[.val (.int p1)] [(.int (65533 : Int32)), (.int p1)]))
      by_cases hc4 : (65533 : Int32) < p1
      · skip
        refine own_step (fun t k => XS.icmpNo X0.here hx rfl (hb hby d1_176) rfl ((tlt hc4).2.2.2) k) ?_
        show own_G p.tables e below _ (s₁.setTop (mkF m 179 #[.val (.int p1)] []))
        exact kx179 (hv.trans (show own_f1_167 p1 = own_f1_179 p1 from by unfold own_f1_167; simp only [if_neg hc3, if_pos hc4]))
      · skip
        refine own_step (fun t k => XS.icmpYes X0.here hx rfl (pc0 := 176) (pc' := 191) rfl (hb hby d1_176) rfl ((flt hc4).2.2.2) (by decide) (by decide) k) ?_
        show own_G p.tables e below _ (s₁.setTop (mkF m 191 #[.val (.int p1)] []))
        refine own_step (fun t k => XS.iconst X0.here hx rfl (hb hby d1_191) k) ?_
        show own_G p.tables e below _ (s₁.setTop (mkF m 192 #[.val (.int p1)] [(.int (1 : Int32))]))
        refine own_step (fun t k => XS.goto X0.here hx rfl (pc0 := 192) (pc' := 196) rfl (hb hby d1_192) (by decide) (by decide) k) ?_
        show own_G p.tables e below _ (s₁.setTop (mkF m 196 #[.val (.int p1)] [(.int (1 : Int32))]))
        subst hP
        obtain ⟨fs, hr, hrun, hended, hW, hsame⟩ := X0.leave (v := some (.int (1 : Int32))) (fun h => by rw [Bd.returns] at h; cases h)
        refine own_done (retN X0 hx (t := .boolean) Bd.returns (by simp) (hb hby d1_196) hr) hrun hended ⟨_, _, rfl, ?_, ⟨_, rfl⟩, hW, hsame.mono (by decide) (by decide)⟩
        show Q1 Z p1 h0 n0 _ s₁.heap _
        rw [e0]
        exact ⟨congrArg (fun z => some (Value.int z)) (show (1 : Int32) = (own_f1 p1) from (show _ = own_f1_167 p1 from by unfold own_f1_167; simp only [if_neg hc3, if_neg hc4]).trans hv.symm), N0, rfl⟩
  have kx155 : own_f1 p1 = own_f1_155 p1 → own_G p.tables e below P (s₁.setTop (mkF m 155 #[.val (.int p1)] [])) := by
    intro hv
    refine own_step (fun t k => XS.iloadN X0.here hx rfl (hb hby d1_155) rfl k) ?_
    show own_G p.tables e below _ (s₁.setTop (mkF m 156 #[.val (.int p1)] [(.int p1)]))
    refine own_step (X0.ldcInt hx hown (mvT hZ (hw _ (List.mem_of_getElem? (i := 13) rfl))) (g := (mkF m 156 #[.val (.int p1)] [(.int p1)])) rfl (hb hby d1_156)) ?_
    show own_G p.tables e below _ (s₁.setTop (mkF m 158 #[.val (.int p1)] [(.int (63744 : Int32)), (.int p1)]))
    by_cases hc5 : p1 < (63744 : Int32)
    · skip
      refine own_step (fun t k => XS.icmpYes X0.here hx rfl (pc0 := 158) (pc' := 167) rfl (hb hby d1_158) rfl ((tlt hc5).1) (by decide) (by decide) k) ?_
      show own_G p.tables e below _ (s₁.setTop (mkF m 167 #[.val (.int p1)] []))
      exact kx167 (hv.trans (show own_f1_155 p1 = own_f1_167 p1 from by unfold own_f1_155; simp only [if_pos hc5]))
    · skip
      refine own_step (fun t k => XS.icmpNo X0.here hx rfl (hb hby d1_158) rfl ((flt hc5).1) k) ?_
      show own_G p.tables e below _ (s₁.setTop (mkF m 161 #[.val (.int p1)] []))
      refine own_step (fun t k => XS.iloadN X0.here hx rfl (hb hby d1_161) rfl k) ?_
      show own_G p.tables e below _ (s₁.setTop (mkF m 162 #[.val (.int p1)] [(.int p1)]))
      refine own_step (X0.ldcInt hx hown (mvT hZ (hw _ (List.mem_of_getElem? (i := 21) rfl))) (g := (mkF m 162 #[.val (.int p1)] [(.int p1)])) rfl (hb hby d1_162)) ?_
      show own_G p.tables e below _ (s₁.setTop (mkF m 164 #[.val (.int p1)] [(.int (64975 : Int32)), (.int p1)]))
      by_cases hc6 : (64975 : Int32) < p1
      · skip
        refine own_step (fun t k => XS.icmpNo X0.here hx rfl (hb hby d1_164) rfl ((tlt hc6).2.2.2) k) ?_
        show own_G p.tables e below _ (s₁.setTop (mkF m 167 #[.val (.int p1)] []))
        exact kx167 (hv.trans (show own_f1_155 p1 = own_f1_167 p1 from by unfold own_f1_155; simp only [if_neg hc5, if_pos hc6]))
      · skip
        refine own_step (fun t k => XS.icmpYes X0.here hx rfl (pc0 := 164) (pc' := 191) rfl (hb hby d1_164) rfl ((flt hc6).2.2.2) (by decide) (by decide) k) ?_
        show own_G p.tables e below _ (s₁.setTop (mkF m 191 #[.val (.int p1)] []))
        refine own_step (fun t k => XS.iconst X0.here hx rfl (hb hby d1_191) k) ?_
        show own_G p.tables e below _ (s₁.setTop (mkF m 192 #[.val (.int p1)] [(.int (1 : Int32))]))
        refine own_step (fun t k => XS.goto X0.here hx rfl (pc0 := 192) (pc' := 196) rfl (hb hby d1_192) (by decide) (by decide) k) ?_
        show own_G p.tables e below _ (s₁.setTop (mkF m 196 #[.val (.int p1)] [(.int (1 : Int32))]))
        subst hP
        obtain ⟨fs, hr, hrun, hended, hW, hsame⟩ := X0.leave (v := some (.int (1 : Int32))) (fun h => by rw [Bd.returns] at h; cases h)
        refine own_done (retN X0 hx (t := .boolean) Bd.returns (by simp) (hb hby d1_196) hr) hrun hended ⟨_, _, rfl, ?_, ⟨_, rfl⟩, hW, hsame.mono (by decide) (by decide)⟩
        show Q1 Z p1 h0 n0 _ s₁.heap _
        rw [e0]
        exact ⟨congrArg (fun z => some (Value.int z)) (show (1 : Int32) = (own_f1 p1) from (show _ = own_f1_155 p1 from by unfold own_f1_155; simp only [if_neg hc5, if_neg hc6]).trans hv.symm), N0, rfl⟩
  have kx142 : own_f1 p1 = own_f1_142 p1 → own_G p.tables e below P (s₁.setTop (mkF m 142 #[.val (.int p1)] [])) := by
    intro hv
    refine own_step (fun t k => XS.iloadN X0.here hx rfl (hb hby d1_142) rfl k) ?_
    show own_G p.tables e below _ (s₁.setTop (mkF m 143 #[.val (.int p1)] [(.int p1)]))
    refine own_step (fun t k => XS.sipush X0.here hx rfl (hb hby d1_143) k) ?_
    show own_G p.tables e below _ (s₁.setTop (mkF m 146 #[.val (.int p1)] [(.int (12289 : Int32)), (.int p1)]))
    by_cases hc7 : p1 < (12289 : Int32)
    · skip
      refine own_step (fun t k => XS.icmpYes X0.here hx rfl (pc0 := 146) (pc' := 155) rfl (hb hby d1_146) rfl ((tlt hc7).1) (by decide) (by decide) k) ?_
      show own_G p.tables e below _ (s₁.setTop (mkF m 155 #[.val (.int p1)] []))
      exact kx155 (hv.trans (show own_f1_142 p1 = own_f1_155 p1 from by unfold own_f1_142; simp only [if_pos hc7]))
    · skip
      refine own_step (fun t k => XS.icmpNo X0.here hx rfl (hb hby d1_146) rfl ((flt hc7).1) k) ?_
      show own_G p.tables e below _ (s₁.setTop (mkF m 149 #[.val (.int p1)] []))
      refine own_step (fun t k => XS.iloadN X0.here hx rfl (hb hby d1_149) rfl k) ?_
      show own_G p.tables e below _ (s₁.setTop (mkF m 150 #[.val (.int p1)] [(.int p1)]))
      refine own_step (X0.ldcInt hx hown (mvT hZ (hw _ (List.mem_of_getElem? (i := 20) rfl))) (g := (mkF m 150 #[.val (.int p1)] [(.int p1)])) rfl (hb hby d1_150)) ?_
      show own_G p.tables e below _ (s₁.setTop (mkF m 152 #[.val (.int p1)] [(.int (55295 : Int32)), (.int p1)]))
      by_cases hc8 : (55295 : Int32) < p1
      · skip
        refine own_step (fun t k => XS.icmpNo X0.here hx rfl (hb hby d1_152) rfl ((tlt hc8).2.2.2) k) ?_
        show own_G p.tables e below _ (s₁.setTop (mkF m 155 #[.val (.int p1)] []))
        exact kx155 (hv.trans (show own_f1_142 p1 = own_f1_155 p1 from by unfold own_f1_142; simp only [if_neg hc7, if_pos hc8]))
      · skip
        refine own_step (fun t k => XS.icmpYes X0.here hx rfl (pc0 := 152) (pc' := 191) rfl (hb hby d1_152) rfl ((flt hc8).2.2.2) (by decide) (by decide) k) ?_
        show own_G p.tables e below _ (s₁.setTop (mkF m 191 #[.val (.int p1)] []))
        refine own_step (fun t k => XS.iconst X0.here hx rfl (hb hby d1_191) k) ?_
        show own_G p.tables e below _ (s₁.setTop (mkF m 192 #[.val (.int p1)] [(.int (1 : Int32))]))
        refine own_step (fun t k => XS.goto X0.here hx rfl (pc0 := 192) (pc' := 196) rfl (hb hby d1_192) (by decide) (by decide) k) ?_
        show own_G p.tables e below _ (s₁.setTop (mkF m 196 #[.val (.int p1)] [(.int (1 : Int32))]))
        subst hP
        obtain ⟨fs, hr, hrun, hended, hW, hsame⟩ := X0.leave (v := some (.int (1 : Int32))) (fun h => by rw [Bd.returns] at h; cases h)
        refine own_done (retN X0 hx (t := .boolean) Bd.returns (by simp) (hb hby d1_196) hr) hrun hended ⟨_, _, rfl, ?_, ⟨_, rfl⟩, hW, hsame.mono (by decide) (by decide)⟩
        show Q1 Z p1 h0 n0 _ s₁.heap _
        rw [e0]
        exact ⟨congrArg (fun z => some (Value.int z)) (show (1 : Int32) = (own_f1 p1) from (show _ = own_f1_142 p1 from by unfold own_f1_142; simp only [if_neg hc7, if_neg hc8]).trans hv.symm), N0, rfl⟩
  have kx128 : own_f1 p1 = own_f1_128 p1 → own_G p.tables e below P (s₁.setTop (mkF m 128 #[.val (.int p1)] [])) := by
    intro hv
    refine own_step (fun t k => XS.iloadN X0.here hx rfl (hb hby d1_128) rfl k) ?_
    show own_G p.tables e below _ (s₁.setTop (mkF m 129 #[.val (.int p1)] [(.int p1)]))
    refine own_step (fun t k => XS.sipush X0.here hx rfl (hb hby d1_129) k) ?_
    show own_G p.tables e below _ (s₁.setTop (mkF m 132 #[.val (.int p1)] [(.int (11264 : Int32)), (.int p1)]))
    by_cases hc9 : p1 < (11264 : Int32)
    · skip
      refine own_step (fun t k => XS.icmpYes X0.here hx rfl (pc0 := 132) (pc' := 142) rfl (hb hby d1_132) rfl ((tlt hc9).1) (by decide) (by decide) k) ?_
      show own_G p.tables e below _ (s₁.setTop (mkF m 142 #[.val (.int p1)] []))
      exact kx142 (hv.trans (show own_f1_128 p1 = own_f1_142 p1 from by unfold own_f1_128; simp only [if_pos hc9]))
    · skip
      refine own_step (fun t k => XS.icmpNo X0.here hx rfl (hb hby d1_132) rfl ((flt hc9).1) k) ?_
      show own_G p.tables e below _ (s₁.setTop (mkF m 135 #[.val (.int p1)] []))
      refine own_step (fun t k => XS.iloadN X0.here hx rfl (hb hby d1_135) rfl k) ?_
      show own_G p.tables e below _ (s₁.setTop (mkF m 136 #[.val (.int p1)] [(.int p1)]))
      refine own_step (fun t k => XS.sipush X0.here hx rfl (hb hby d1_136) k) ?_
      show own_G p.tables e below _ (s₁.setTop (mkF m 139 #[.val (.int p1)] [(.int (12271 : Int32)), (.int p1)]))
      by_cases hc10 : (12271 : Int32) < p1
      · skip
        refine own_step (fun t k => XS.icmpNo X0.here hx rfl (hb hby d1_139) rfl ((tlt hc10).2.2.2) k) ?_
        show own_G p.tables e below _ (s₁.setTop (mkF m 142 #[.val (.int p1)] []))
        exact kx142 (hv.trans (show own_f1_128 p1 = own_f1_142 p1 from by unfold own_f1_128; simp only [if_neg hc9, if_pos hc10]))
      · skip
        refine own_step (fun t k => XS.icmpYes X0.here hx rfl (pc0 := 139) (pc' := 191) rfl (hb hby d1_139) rfl ((flt hc10).2.2.2) (by decide) (by decide) k) ?_
        show own_G p.tables e below _ (s₁.setTop (mkF m 191 #[.val (.int p1)] []))
        refine own_step (fun t k => XS.iconst X0.here hx rfl (hb hby d1_191) k) ?_
        show own_G p.tables e below _ (s₁.setTop (mkF m 192 #[.val (.int p1)] [(.int (1 : Int32))]))
        refine own_step (fun t k => XS.goto X0.here hx rfl (pc0 := 192) (pc' := 196) rfl (hb hby d1_192) (by decide) (by decide) k) ?_
        show own_G p.tables e below _ (s₁.setTop (mkF m 196 #[.val (.int p1)] [(.int (1 : Int32))]))
        subst hP
        obtain ⟨fs, hr, hrun, hended, hW, hsame⟩ := X0.leave (v := some (.int (1 : Int32))) (fun h => by rw [Bd.returns] at h; cases h)
        refine own_done (retN X0 hx (t := .boolean) Bd.returns (by simp) (hb hby d1_196) hr) hrun hended ⟨_, _, rfl, ?_, ⟨_, rfl⟩, hW, hsame.mono (by decide) (by decide)⟩
        show Q1 Z p1 h0 n0 _ s₁.heap _
        rw [e0]
        exact ⟨congrArg (fun z => some (Value.int z)) (show (1 : Int32) = (own_f1 p1) from (show _ = own_f1_128 p1 from by unfold own_f1_128; simp only [if_neg hc9, if_neg hc10]).trans hv.symm), N0, rfl⟩
  have kx114 : own_f1 p1 = own_f1_114 p1 → own_G p.tables e below P (s₁.setTop (mkF m 114 #[.val (.int p1)] [])) := by
    intro hv
    refine own_step (fun t k => XS.iloadN X0.here hx rfl (hb hby d1_114) rfl k) ?_
    show own_G p.tables e below _ (s₁.setTop (mkF m 115 #[.val (.int p1)] [(.int p1)]))
    refine own_step (fun t k => XS.sipush X0.here hx rfl (hb hby d1_115) k) ?_
    show own_G p.tables e below _ (s₁.setTop (mkF m 118 #[.val (.int p1)] [(.int (8304 : Int32)), (.int p1)]))
    by_cases hc11 : p1 < (8304 : Int32)
    · skip
      refine own_step (fun t k => XS.icmpYes X0.here hx rfl (pc0 := 118) (pc' := 128) rfl (hb hby d1_118) rfl ((tlt hc11).1) (by decide) (by decide) k) ?_
      show own_G p.tables e below _ (s₁.setTop (mkF m 128 #[.val (.int p1)] []))
      exact kx128 (hv.trans (show own_f1_114 p1 = own_f1_128 p1 from by unfold own_f1_114; simp only [if_pos hc11]))
    · skip
      refine own_step (fun t k => XS.icmpNo X0.here hx rfl (hb hby d1_118) rfl ((flt hc11).1) k) ?_
      show own_G p.tables e below _ (s₁.setTop (mkF m 121 #[.val (.int p1)] []))
      refine own_step (fun t k => XS.iloadN X0.here hx rfl (hb hby d1_121) rfl k) ?_
      show own_G p.tables e below _ (s₁.setTop (mkF m 122 #[.val (.int p1)] [(.int p1)]))
      refine own_step (fun t k => XS.sipush X0.here hx rfl (hb hby d1_122) k) ?_
      show own_G p.tables e below _ (s₁.setTop (mkF m 125 #[.val (.int p1)] [(.int (8591 : Int32)), (.int p1)]))
      by_cases hc12 : (8591 : Int32) < p1
      · skip
        refine own_step (fun t k => XS.icmpNo X0.here hx rfl (hb hby d1_125) rfl ((tlt hc12).2.2.2) k) ?_
        show own_G p.tables e below _ (s₁.setTop (mkF m 128 #[.val (.int p1)] []))
        exact kx128 (hv.trans (show own_f1_114 p1 = own_f1_128 p1 from by unfold own_f1_114; simp only [if_neg hc11, if_pos hc12]))
      · skip
        refine own_step (fun t k => XS.icmpYes X0.here hx rfl (pc0 := 125) (pc' := 191) rfl (hb hby d1_125) rfl ((flt hc12).2.2.2) (by decide) (by decide) k) ?_
        show own_G p.tables e below _ (s₁.setTop (mkF m 191 #[.val (.int p1)] []))
        refine own_step (fun t k => XS.iconst X0.here hx rfl (hb hby d1_191) k) ?_
        show own_G p.tables e below _ (s₁.setTop (mkF m 192 #[.val (.int p1)] [(.int (1 : Int32))]))
        refine own_step (fun t k => XS.goto X0.here hx rfl (pc0 := 192) (pc' := 196) rfl (hb hby d1_192) (by decide) (by decide) k) ?_
        show own_G p.tables e below _ (s₁.setTop (mkF m 196 #[.val (.int p1)] [(.int (1 : Int32))]))
        subst hP
        obtain ⟨fs, hr, hrun, hended, hW, hsame⟩ := X0.leave (v := some (.int (1 : Int32))) (fun h => by rw [Bd.returns] at h; cases h)
        refine own_done (retN X0 hx (t := .boolean) Bd.returns (by simp) (hb hby d1_196) hr) hrun hended ⟨_, _, rfl, ?_, ⟨_, rfl⟩, hW, hsame.mono (by decide) (by decide)⟩
        show Q1 Z p1 h0 n0 _ s₁.heap _
        rw [e0]
        exact ⟨congrArg (fun z => some (Value.int z)) (show (1 : Int32) = (own_f1 p1) from (show _ = own_f1_114 p1 from by unfold own_f1_114; simp only [if_neg hc11, if_neg hc12]).trans hv.symm), N0, rfl⟩
  have kx100 : own_f1 p1 = own_f1_100 p1 → own_G p.tables e below P (s₁.setTop (mkF m 100 #[.val (.int p1)] [])) := by
    intro hv
    refine own_step (fun t k => XS.iloadN X0.here hx rfl (hb hby d1_100) rfl k) ?_
    show own_G p.tables e below _ (s₁.setTop (mkF m 101 #[.val (.int p1)] [(.int p1)]))
    refine own_step (fun t k => XS.sipush X0.here hx rfl (hb hby d1_101) k) ?_
    show own_G p.tables e below _ (s₁.setTop (mkF m 104 #[.val (.int p1)] [(.int (8204 : Int32)), (.int p1)]))
    by_cases hc13 : p1 < (8204 : Int32)
    · skip
      refine own_step (fun t k => XS.icmpYes X0.here hx rfl (pc0 := 104) (pc' := 114) rfl (hb hby d1_104) rfl ((tlt hc13).1) (by decide) (by decide) k) ?_
      show own_G p.tables e below _ (s₁.setTop (mkF m 114 #[.val (.int p1)] []))
      exact kx114 (hv.trans (show own_f1_100 p1 = own_f1_114 p1 from by unfold own_f1_100; simp only [if_pos hc13]))
    · skip
      refine own_step (fun t k => XS.icmpNo X0.here hx rfl (hb hby d1_104) rfl ((flt hc13).1) k) ?_
      show own_G p.tables e below _ (s₁.setTop (mkF m 107 #[.val (.int p1)] []))
      refine own_step (fun t k => XS.iloadN X0.here hx rfl (hb hby d1_107) rfl k) ?_
      show own_G p.tables e below _ (s₁.setTop (mkF m 108 #[.val (.int p1)] [(.int p1)]))
      refine own_step (fun t k => XS.sipush X0.here hx rfl (hb hby d1_108) k) ?_
      show own_G p.tables e below _ (s₁.setTop (mkF m 111 #[.val (.int p1)] [(.int (8205 : Int32)), (.int p1)]))
      by_cases hc14 : (8205 : Int32) < p1
      · skip
        refine own_step (fun t k => XS.icmpNo X0.here hx rfl (hb hby d1_111) rfl ((tlt hc14).2.2.2) k) ?_
        show own_G p.tables e below _ (s₁.setTop (mkF m 114 #[.val (.int p1)] []))
        exact kx114 (hv.trans (show own_f1_100 p1 = own_f1_114 p1 from by unfold own_f1_100; simp only [if_neg hc13, if_pos hc14]))
      · skip
        refine own_step (fun t k => XS.icmpYes X0.here hx rfl (pc0 := 111) (pc' := 191) rfl (hb hby d1_111) rfl ((flt hc14).2.2.2) (by decide) (by decide) k) ?_
        show own_G p.tables e below _ (s₁.setTop (mkF m 191 #[.val (.int p1)] []))
        refine own_step (fun t k => XS.iconst X0.here hx rfl (hb hby d1_191) k) ?_
        show own_G p.tables e below _ (s₁.setTop (mkF m 192 #[.val (.int p1)] [(.int (1 : Int32))]))
        refine own_step (fun t k => XS.goto X0.here hx rfl (pc0 := 192) (pc' := 196) rfl (hb hby d1_192) (by decide) (by decide) k) ?_
        show own_G p.tables e below _ (s₁.setTop (mkF m 196 #[.val (.int p1)] [(.int (1 : Int32))]))
        subst hP
        obtain ⟨fs, hr, hrun, hended, hW, hsame⟩ := X0.leave (v := some (.int (1 : Int32))) (fun h => by rw [Bd.returns] at h; cases h)
        refine own_done (retN X0 hx (t := .boolean) Bd.returns (by simp) (hb hby d1_196) hr) hrun hended ⟨_, _, rfl, ?_, ⟨_, rfl⟩, hW, hsame.mono (by decide) (by decide)⟩
        show Q1 Z p1 h0 n0 _ s₁.heap _
        rw [e0]
        exact ⟨congrArg (fun z => some (Value.int z)) (show (1 : Int32) = (own_f1 p1) from (show _ = own_f1_100 p1 from by unfold own_f1_100; simp only [if_neg hc13, if_neg hc14]).trans hv.symm), N0, rfl⟩
  have kx86 : own_f1 p1 = own_f1_86 p1 → own_G p.tables e below P (s₁.setTop (mkF m 86 #[.val (.int p1)] [])) := by
    intro hv
    refine own_step (fun t k => XS.iloadN X0.here hx rfl (hb hby d1_86) rfl k) ?_
    show own_G p.tables e below _ (s₁.setTop (mkF m 87 #[.val (.int p1)] [(.int p1)]))
    refine own_step (fun t k => XS.sipush X0.here hx rfl (hb hby d1_87) k) ?_
    show own_G p.tables e below _ (s₁.setTop (mkF m 90 #[.val (.int p1)] [(.int (895 : Int32)), (.int p1)]))
    by_cases hc15 : p1 < (895 : Int32)
    · skip
      refine own_step (fun t k => XS.icmpYes X0.here hx rfl (pc0 := 90) (pc' := 100) rfl (hb hby d1_90) rfl ((tlt hc15).1) (by decide) (by decide) k) ?_
      show own_G p.tables e below _ (s₁.setTop (mkF m 100 #[.val (.int p1)] []))
      exact kx100 (hv.trans (show own_f1_86 p1 = own_f1_100 p1 from by unfold own_f1_86; simp only [if_pos hc15]))
    · skip
      refine own_step (fun t k => XS.icmpNo X0.here hx rfl (hb hby d1_90) rfl ((flt hc15).1) k) ?_
      show own_G p.tables e below _ (s₁.setTop (mkF m 93 #[.val (.int p1)] []))
      refine own_step (fun t k => XS.iloadN X0.here hx rfl (hb hby d1_93) rfl k) ?_
      show own_G p.tables e below _ (s₁.setTop (mkF m 94 #[.val (.int p1)] [(.int p1)]))
      refine own_step (fun t k => XS.sipush X0.here hx rfl (hb hby d1_94) k) ?_
      show own_G p.tables e below _ (s₁.setTop (mkF m 97 #[.val (.int p1)] [(.int (8191 : Int32)), (.int p1)]))
      by_cases hc16 : (8191 : Int32) < p1
      · skip
        refine own_step (fun t k => XS.icmpNo X0.here hx rfl (hb hby d1_97) rfl ((tlt hc16).2.2.2) k) ?_
        show own_G p.tables e below _ (s₁.setTop (mkF m 100 #[.val (.int p1)] []))
        exact kx100 (hv.trans (show own_f1_86 p1 = own_f1_100 p1 from by unfold own_f1_86; simp only [if_neg hc15, if_pos hc16]))
      · skip
        refine own_step (fun t k => XS.icmpYes X0.here hx rfl (pc0 := 97) (pc' := 191) rfl (hb hby d1_97) rfl ((flt hc16).2.2.2) (by decide) (by decide) k) ?_
        show own_G p.tables e below _ (s₁.setTop (mkF m 191 #[.val (.int p1)] []))
        refine own_step (fun t k => XS.iconst X0.here hx rfl (hb hby d1_191) k) ?_
        show own_G p.tables e below _ (s₁.setTop (mkF m 192 #[.val (.int p1)] [(.int (1 : Int32))]))
        refine own_step (fun t k => XS.goto X0.here hx rfl (pc0 := 192) (pc' := 196) rfl (hb hby d1_192) (by decide) (by decide) k) ?_
        show own_G p.tables e below _ (s₁.setTop (mkF m 196 #[.val (.int p1)] [(.int (1 : Int32))]))
        subst hP
        obtain ⟨fs, hr, hrun, hended, hW, hsame⟩ := X0.leave (v := some (.int (1 : Int32))) (fun h => by rw [Bd.returns] at h; cases h)
        refine own_done (retN X0 hx (t := .boolean) Bd.returns (by simp) (hb hby d1_196) hr) hrun hended ⟨_, _, rfl, ?_, ⟨_, rfl⟩, hW, hsame.mono (by decide) (by decide)⟩
        show Q1 Z p1 h0 n0 _ s₁.heap _
        rw [e0]
        exact ⟨congrArg (fun z => some (Value.int z)) (show (1 : Int32) = (own_f1 p1) from (show _ = own_f1_86 p1 from by unfold own_f1_86; simp only [if_neg hc15, if_neg hc16]).trans hv.symm), N0, rfl⟩
  have kx72 : own_f1 p1 = own_f1_72 p1 → own_G p.tables e below P (s₁.setTop (mkF m 72 #[.val (.int p1)] [])) := by
    intro hv
    refine own_step (fun t k => XS.iloadN X0.here hx rfl (hb hby d1_72) rfl k) ?_
    show own_G p.tables e below _ (s₁.setTop (mkF m 73 #[.val (.int p1)] [(.int p1)]))
    refine own_step (fun t k => XS.sipush X0.here hx rfl (hb hby d1_73) k) ?_
    show own_G p.tables e below _ (s₁.setTop (mkF m 76 #[.val (.int p1)] [(.int (880 : Int32)), (.int p1)]))
    by_cases hc17 : p1 < (880 : Int32)
    · skip
      refine own_step (fun t k => XS.icmpYes X0.here hx rfl (pc0 := 76) (pc' := 86) rfl (hb hby d1_76) rfl ((tlt hc17).1) (by decide) (by decide) k) ?_
      show own_G p.tables e below _ (s₁.setTop (mkF m 86 #[.val (.int p1)] []))
      exact kx86 (hv.trans (show own_f1_72 p1 = own_f1_86 p1 from by unfold own_f1_72; simp only [if_pos hc17]))
    · skip
      refine own_step (fun t k => XS.icmpNo X0.here hx rfl (hb hby d1_76) rfl ((flt hc17).1) k) ?_
      show own_G p.tables e below _ (s₁.setTop (mkF m 79 #[.val (.int p1)] []))
      refine own_step (fun t k => XS.iloadN X0.here hx rfl (hb hby d1_79) rfl k) ?_
      show own_G p.tables e below _ (s₁.setTop (mkF m 80 #[.val (.int p1)] [(.int p1)]))
      refine own_step (fun t k => XS.sipush X0.here hx rfl (hb hby d1_80) k) ?_
      show own_G p.tables e below _ (s₁.setTop (mkF m 83 #[.val (.int p1)] [(.int (893 : Int32)), (.int p1)]))
      by_cases hc18 : (893 : Int32) < p1
      · skip
        refine own_step (fun t k => XS.icmpNo X0.here hx rfl (hb hby d1_83) rfl ((tlt hc18).2.2.2) k) ?_
        show own_G p.tables e below _ (s₁.setTop (mkF m 86 #[.val (.int p1)] []))
        exact kx86 (hv.trans (show own_f1_72 p1 = own_f1_86 p1 from by unfold own_f1_72; simp only [if_neg hc17, if_pos hc18]))
      · skip
        refine own_step (fun t k => XS.icmpYes X0.here hx rfl (pc0 := 83) (pc' := 191) rfl (hb hby d1_83) rfl ((flt hc18).2.2.2) (by decide) (by decide) k) ?_
        show own_G p.tables e below _ (s₁.setTop (mkF m 191 #[.val (.int p1)] []))
        refine own_step (fun t k => XS.iconst X0.here hx rfl (hb hby d1_191) k) ?_
        show own_G p.tables e below _ (s₁.setTop (mkF m 192 #[.val (.int p1)] [(.int (1 : Int32))]))
        refine own_step (fun t k => XS.goto X0.here hx rfl (pc0 := 192) (pc' := 196) rfl (hb hby d1_192) (by decide) (by decide) k) ?_
        show own_G p.tables e below _ (s₁.setTop (mkF m 196 #[.val (.int p1)] [(.int (1 : Int32))]))
        subst hP
        obtain ⟨fs, hr, hrun, hended, hW, hsame⟩ := X0.leave (v := some (.int (1 : Int32))) (fun h => by rw [Bd.returns] at h; cases h)
        refine own_done (retN X0 hx (t := .boolean) Bd.returns (by simp) (hb hby d1_196) hr) hrun hended ⟨_, _, rfl, ?_, ⟨_, rfl⟩, hW, hsame.mono (by decide) (by decide)⟩
        show Q1 Z p1 h0 n0 _ s₁.heap _
        rw [e0]
        exact ⟨congrArg (fun z => some (Value.int z)) (show (1 : Int32) = (own_f1 p1) from (show _ = own_f1_72 p1 from by unfold own_f1_72; simp only [if_neg hc17, if_neg hc18]).trans hv.symm), N0, rfl⟩
  have kx58 : own_f1 p1 = own_f1_58 p1 → own_G p.tables e below P (s₁.setTop (mkF m 58 #[.val (.int p1)] [])) := by
    intro hv
    refine own_step (fun t k => XS.iloadN X0.here hx rfl (hb hby d1_58) rfl k) ?_
    show own_G p.tables e below _ (s₁.setTop (mkF m 59 #[.val (.int p1)] [(.int p1)]))
    refine own_step (fun t k => XS.sipush X0.here hx rfl (hb hby d1_59) k) ?_
    show own_G p.tables e below _ (s₁.setTop (mkF m 62 #[.val (.int p1)] [(.int (248 : Int32)), (.int p1)]))
    by_cases hc19 : p1 < (248 : Int32)
    · skip
      refine own_step (fun t k => XS.icmpYes X0.here hx rfl (pc0 := 62) (pc' := 72) rfl (hb hby d1_62) rfl ((tlt hc19).1) (by decide) (by decide) k) ?_
      show own_G p.tables e below _ (s₁.setTop (mkF m 72 #[.val (.int p1)] []))
      exact kx72 (hv.trans (show own_f1_58 p1 = own_f1_72 p1 from by unfold own_f1_58; simp only [if_pos hc19]))
    · skip
      refine own_step (fun t k => XS.icmpNo X0.here hx rfl (hb hby d1_62) rfl ((flt hc19).1) k) ?_
      show own_G p.tables e below _ (s₁.setTop (mkF m 65 #[.val (.int p1)] []))
      refine own_step (fun t k => XS.iloadN X0.here hx rfl (hb hby d1_65) rfl k) ?_
      show own_G p.tables e below _ (s₁.setTop (mkF m 66 #[.val (.int p1)] [(.int p1)]))
      refine own_step (fun t k => XS.sipush X0.here hx rfl (hb hby d1_66) k) ?_
      show own_G p.tables e below _ (s₁.setTop (mkF m 69 #[.val (.int p1)] [(.int (767 : Int32)), (.int p1)]))
      by_cases hc20 : (767 : Int32) < p1
      · skip
        refine own_step (fun t k => XS.icmpNo X0.here hx rfl (hb hby d1_69) rfl ((tlt hc20).2.2.2) k) ?_
        show own_G p.tables e below _ (s₁.setTop (mkF m 72 #[.val (.int p1)] []))
        exact kx72 (hv.trans (show own_f1_58 p1 = own_f1_72 p1 from by unfold own_f1_58; simp only [if_neg hc19, if_pos hc20]))
      · skip
        refine own_step (fun t k => XS.icmpYes X0.here hx rfl (pc0 := 69) (pc' := 191) rfl (hb hby d1_69) rfl ((flt hc20).2.2.2) (by decide) (by decide) k) ?_
        show own_G p.tables e below _ (s₁.setTop (mkF m 191 #[.val (.int p1)] []))
        refine own_step (fun t k => XS.iconst X0.here hx rfl (hb hby d1_191) k) ?_
        show own_G p.tables e below _ (s₁.setTop (mkF m 192 #[.val (.int p1)] [(.int (1 : Int32))]))
        refine own_step (fun t k => XS.goto X0.here hx rfl (pc0 := 192) (pc' := 196) rfl (hb hby d1_192) (by decide) (by decide) k) ?_
        show own_G p.tables e below _ (s₁.setTop (mkF m 196 #[.val (.int p1)] [(.int (1 : Int32))]))
        subst hP
        obtain ⟨fs, hr, hrun, hended, hW, hsame⟩ := X0.leave (v := some (.int (1 : Int32))) (fun h => by rw [Bd.returns] at h; cases h)
        refine own_done (retN X0 hx (t := .boolean) Bd.returns (by simp) (hb hby d1_196) hr) hrun hended ⟨_, _, rfl, ?_, ⟨_, rfl⟩, hW, hsame.mono (by decide) (by decide)⟩
        show Q1 Z p1 h0 n0 _ s₁.heap _
        rw [e0]
        exact ⟨congrArg (fun z => some (Value.int z)) (show (1 : Int32) = (own_f1 p1) from (show _ = own_f1_58 p1 from by unfold own_f1_58; simp only [if_neg hc19, if_neg hc20]).trans hv.symm), N0, rfl⟩
  have kx44 : own_f1 p1 = own_f1_44 p1 → own_G p.tables e below P (s₁.setTop (mkF m 44 #[.val (.int p1)] [])) := by
    intro hv
    refine own_step (fun t k => XS.iloadN X0.here hx rfl (hb hby d1_44) rfl k) ?_
    show own_G p.tables e below _ (s₁.setTop (mkF m 45 #[.val (.int p1)] [(.int p1)]))
    refine own_step (fun t k => XS.sipush X0.here hx rfl (hb hby d1_45) k) ?_
    show own_G p.tables e below _ (s₁.setTop (mkF m 48 #[.val (.int p1)] [(.int (216 : Int32)), (.int p1)]))
    by_cases hc21 : p1 < (216 : Int32)
    · skip
      refine own_step (fun t k => XS.icmpYes X0.here hx rfl (pc0 := 48) (pc' := 58) rfl (hb hby d1_48) rfl ((tlt hc21).1) (by decide) (by decide) k) ?_
      show own_G p.tables e below _ (s₁.setTop (mkF m 58 #[.val (.int p1)] []))
      exact kx58 (hv.trans (show own_f1_44 p1 = own_f1_58 p1 from by unfold own_f1_44; simp only [if_pos hc21]))
    · skip
      refine own_step (fun t k => XS.icmpNo X0.here hx rfl (hb hby d1_48) rfl ((flt hc21).1) k) ?_
      show own_G p.tables e below _ (s₁.setTop (mkF m 51 #[.val (.int p1)] []))
      refine own_step (fun t k => XS.iloadN X0.here hx rfl (hb hby d1_51) rfl k) ?_
      show own_G p.tables e below _ (s₁.setTop (mkF m 52 #[.val (.int p1)] [(.int p1)]))
      refine own_step (fun t k => XS.sipush X0.here hx rfl (hb hby d1_52) k) ?_
      show own_G p.tables e below _ (s₁.setTop (mkF m 55 #[.val (.int p1)] [(.int (246 : Int32)), (.int p1)]))
      by_cases hc22 : (246 : Int32) < p1
      · skip
        refine own_step (fun t k => XS.icmpNo X0.here hx rfl (hb hby d1_55) rfl ((tlt hc22).2.2.2) k) ?_
        show own_G p.tables e below _ (s₁.setTop (mkF m 58 #[.val (.int p1)] []))
        exact kx58 (hv.trans (show own_f1_44 p1 = own_f1_58 p1 from by unfold own_f1_44; simp only [if_neg hc21, if_pos hc22]))
      · skip
        refine own_step (fun t k => XS.icmpYes X0.here hx rfl (pc0 := 55) (pc' := 191) rfl (hb hby d1_55) rfl ((flt hc22).2.2.2) (by decide) (by decide) k) ?_
        show own_G p.tables e below _ (s₁.setTop (mkF m 191 #[.val (.int p1)] []))
        refine own_step (fun t k => XS.iconst X0.here hx rfl (hb hby d1_191) k) ?_
        show own_G p.tables e below _ (s₁.setTop (mkF m 192 #[.val (.int p1)] [(.int (1 : Int32))]))
        refine own_step (fun t k => XS.goto X0.here hx rfl (pc0 := 192) (pc' := 196) rfl (hb hby d1_192) (by decide) (by decide) k) ?_
        show own_G p.tables e below _ (s₁.setTop (mkF m 196 #[.val (.int p1)] [(.int (1 : Int32))]))
        subst hP
        obtain ⟨fs, hr, hrun, hended, hW, hsame⟩ := X0.leave (v := some (.int (1 : Int32))) (fun h => by rw [Bd.returns] at h; cases h)
        refine own_done (retN X0 hx (t := .boolean) Bd.returns (by simp) (hb hby d1_196) hr) hrun hended ⟨_, _, rfl, ?_, ⟨_, rfl⟩, hW, hsame.mono (by decide) (by decide)⟩
        show Q1 Z p1 h0 n0 _ s₁.heap _
        rw [e0]
        exact ⟨congrArg (fun z => some (Value.int z)) (show (1 : Int32) = (own_f1 p1) from (show _ = own_f1_44 p1 from by unfold own_f1_44; simp only [if_neg hc21, if_neg hc22]).trans hv.symm), N0, rfl⟩
  have kx30 : own_f1 p1 = own_f1_30 p1 → own_G p.tables e below P (s₁.setTop (mkF m 30 #[.val (.int p1)] [])) := by
    intro hv
    refine own_step (fun t k => XS.iloadN X0.here hx rfl (hb hby d1_30) rfl k) ?_
    show own_G p.tables e below _ (s₁.setTop (mkF m 31 #[.val (.int p1)] [(.int p1)]))
    refine own_step (fun t k => XS.sipush X0.here hx rfl (hb hby d1_31) k) ?_
    show own_G p.tables e below _ (s₁.setTop (mkF m 34 #[.val (.int p1)] [(.int (192 : Int32)), (.int p1)]))
    by_cases hc23 : p1 < (192 : Int32)
    · skip
      refine own_step (fun t k => XS.icmpYes X0.here hx rfl (pc0 := 34) (pc' := 44) rfl (hb hby d1_34) rfl ((tlt hc23).1) (by decide) (by decide) k) ?_
      show own_G p.tables e below _ (s₁.setTop (mkF m 44 #[.val (.int p1)] []))
      exact kx44 (hv.trans (show own_f1_30 p1 = own_f1_44 p1 from by unfold own_f1_30; simp only [if_pos hc23]))
    · skip
      refine own_step (fun t k => XS.icmpNo X0.here hx rfl (hb hby d1_34) rfl ((flt hc23).1) k) ?_
      show own_G p.tables e below _ (s₁.setTop (mkF m 37 #[.val (.int p1)] []))
      refine own_step (fun t k => XS.iloadN X0.here hx rfl (hb hby d1_37) rfl k) ?_
      show own_G p.tables e below _ (s₁.setTop (mkF m 38 #[.val (.int p1)] [(.int p1)]))
      refine own_step (fun t k => XS.sipush X0.here hx rfl (hb hby d1_38) k) ?_
      show own_G p.tables e below _ (s₁.setTop (mkF m 41 #[.val (.int p1)] [(.int (214 : Int32)), (.int p1)]))
      by_cases hc24 : (214 : Int32) < p1
      · skip
        refine own_step (fun t k => XS.icmpNo X0.here hx rfl (hb hby d1_41) rfl ((tlt hc24).2.2.2) k) ?_
        show own_G p.tables e below _ (s₁.setTop (mkF m 44 #[.val (.int p1)] []))
        exact kx44 (hv.trans (show own_f1_30 p1 = own_f1_44 p1 from by unfold own_f1_30; simp only [if_neg hc23, if_pos hc24]))
      · skip
        refine own_step (fun t k => XS.icmpYes X0.here hx rfl (pc0 := 41) (pc' := 191) rfl (hb hby d1_41) rfl ((flt hc24).2.2.2) (by decide) (by decide) k) ?_
        show own_G p.tables e below _ (s₁.setTop (mkF m 191 #[.val (.int p1)] []))
        refine own_step (fun t k => XS.iconst X0.here hx rfl (hb hby d1_191) k) ?_
        show own_G p.tables e below _ (s₁.setTop (mkF m 192 #[.val (.int p1)] [(.int (1 : Int32))]))
        refine own_step (fun t k => XS.goto X0.here hx rfl (pc0 := 192) (pc' := 196) rfl (hb hby d1_192) (by decide) (by decide) k) ?_
        show own_G p.tables e below _ (s₁.setTop (mkF m 196 #[.val (.int p1)] [(.int (1 : Int32))]))
        subst hP
        obtain ⟨fs, hr, hrun, hended, hW, hsame⟩ := X0.leave (v := some (.int (1 : Int32))) (fun h => by rw [Bd.returns] at h; cases h)
        refine own_done (retN X0 hx (t := .boolean) Bd.returns (by simp) (hb hby d1_196) hr) hrun hended ⟨_, _, rfl, ?_, ⟨_, rfl⟩, hW, hsame.mono (by decide) (by decide)⟩
        show Q1 Z p1 h0 n0 _ s₁.heap _
        rw [e0]
        exact ⟨congrArg (fun z => some (Value.int z)) (show (1 : Int32) = (own_f1 p1) from (show _ = own_f1_30 p1 from by unfold own_f1_30; simp only [if_neg hc23, if_neg hc24]).trans hv.symm), N0, rfl⟩
  have kx24 : own_f1 p1 = own_f1_24 p1 → own_G p.tables e below P (s₁.setTop (mkF m 24 #[.val (.int p1)] [])) := by
    intro hv
    refine own_step (fun t k => XS.iloadN X0.here hx rfl (hb hby d1_24) rfl k) ?_
    show own_G p.tables e below _ (s₁.setTop (mkF m 25 #[.val (.int p1)] [(.int p1)]))
    refine own_step (fun t k => XS.bipush X0.here hx rfl (hb hby d1_25) k) ?_
    show own_G p.tables e below _ (s₁.setTop (mkF m 27 #[.val (.int p1)] [(.int (95 : Int32)), (.int p1)]))
    by_cases hc25 : p1 = (95 : Int32)
    · skip
      refine own_step (fun t k => XS.icmpYes X0.here hx rfl (pc0 := 27) (pc' := 191) rfl (hb hby d1_27) rfl ((teq hc25).1) (by decide) (by decide) k) ?_
      show own_G p.tables e below _ (s₁.setTop (mkF m 191 #[.val (.int p1)] []))
      refine own_step (fun t k => XS.iconst X0.here hx rfl (hb hby d1_191) k) ?_
      show own_G p.tables e below _ (s₁.setTop (mkF m 192 #[.val (.int p1)] [(.int (1 : Int32))]))
      refine own_step (fun t k => XS.goto X0.here hx rfl (pc0 := 192) (pc' := 196) rfl (hb hby d1_192) (by decide) (by decide) k) ?_
      show own_G p.tables e below _ (s₁.setTop (mkF m 196 #[.val (.int p1)] [(.int (1 : Int32))]))
      subst hP
      obtain ⟨fs, hr, hrun, hended, hW, hsame⟩ := X0.leave (v := some (.int (1 : Int32))) (fun h => by rw [Bd.returns] at h; cases h)
      refine own_done (retN X0 hx (t := .boolean) Bd.returns (by simp) (hb hby d1_196) hr) hrun hended ⟨_, _, rfl, ?_, ⟨_, rfl⟩, hW, hsame.mono (by decide) (by decide)⟩
      show Q1 Z p1 h0 n0 _ s₁.heap _
      rw [e0]
      exact ⟨congrArg (fun z => some (Value.int z)) (show (1 : Int32) = (own_f1 p1) from (show _ = own_f1_24 p1 from by unfold own_f1_24; simp only [if_pos hc25]).trans hv.symm), N0, rfl⟩
    · skip
      refine own_step (fun t k => XS.icmpNo X0.here hx rfl (hb hby d1_27) rfl ((feq hc25).1) k) ?_
      show own_G p.tables e below _ (s₁.setTop (mkF m 30 #[.val (.int p1)] []))
      exact kx30 (hv.trans (show own_f1_24 p1 = own_f1_30 p1 from by unfold own_f1_24; simp only [if_neg hc25]))
  have kx12 : own_f1 p1 = own_f1_12 p1 → own_G p.tables e below P (s₁.setTop (mkF m 12 #[.val (.int p1)] [])) := by
    intro hv
    refine own_step (fun t k => XS.iloadN X0.here hx rfl (hb hby d1_12) rfl k) ?_
    show own_G p.tables e below _ (s₁.setTop (mkF m 13 #[.val (.int p1)] [(.int p1)]))
    refine own_step (fun t k => XS.bipush X0.here hx rfl (hb hby d1_13) k) ?_
    show own_G p.tables e below _ (s₁.setTop (mkF m 15 #[.val (.int p1)] [(.int (65 : Int32)), (.int p1)]))
    by_cases hc26 : p1 < (65 : Int32)
    · skip
      refine own_step (fun t k => XS.icmpYes X0.here hx rfl (pc0 := 15) (pc' := 24) rfl (hb hby d1_15) rfl ((tlt hc26).1) (by decide) (by decide) k) ?_
      show own_G p.tables e below _ (s₁.setTop (mkF m 24 #[.val (.int p1)] []))
      exact kx24 (hv.trans (show own_f1_12 p1 = own_f1_24 p1 from by unfold own_f1_12; simp only [if_pos hc26]))
    · skip
      refine own_step (fun t k => XS.icmpNo X0.here hx rfl (hb hby d1_15) rfl ((flt hc26).1) k) ?_
      show own_G p.tables e below _ (s₁.setTop (mkF m 18 #[.val (.int p1)] []))
      refine own_step (fun t k => XS.iloadN X0.here hx rfl (hb hby d1_18) rfl k) ?_
      show own_G p.tables e below _ (s₁.setTop (mkF m 19 #[.val (.int p1)] [(.int p1)]))
      refine own_step (fun t k => XS.bipush X0.here hx rfl (hb hby d1_19) k) ?_
      show own_G p.tables e below _ (s₁.setTop (mkF m 21 #[.val (.int p1)] [(.int (90 : Int32)), (.int p1)]))
      by_cases hc27 : (90 : Int32) < p1
      · skip
        refine own_step (fun t k => XS.icmpNo X0.here hx rfl (hb hby d1_21) rfl ((tlt hc27).2.2.2) k) ?_
        show own_G p.tables e below _ (s₁.setTop (mkF m 24 #[.val (.int p1)] []))
        exact kx24 (hv.trans (show own_f1_12 p1 = own_f1_24 p1 from by unfold own_f1_12; simp only [if_neg hc26, if_pos hc27]))
      · skip
        refine own_step (fun t k => XS.icmpYes X0.here hx rfl (pc0 := 21) (pc' := 191) rfl (hb hby d1_21) rfl ((flt hc27).2.2.2) (by decide) (by decide) k) ?_
        show own_G p.tables e below _ (s₁.setTop (mkF m 191 #[.val (.int p1)] []))
        refine own_step (fun t k => XS.iconst X0.here hx rfl (hb hby d1_191) k) ?_
        show own_G p.tables e below _ (s₁.setTop (mkF m 192 #[.val (.int p1)] [(.int (1 : Int32))]))
        refine own_step (fun t k => XS.goto X0.here hx rfl (pc0 := 192) (pc' := 196) rfl (hb hby d1_192) (by decide) (by decide) k) ?_
        show own_G p.tables e below _ (s₁.setTop (mkF m 196 #[.val (.int p1)] [(.int (1 : Int32))]))
        subst hP
        obtain ⟨fs, hr, hrun, hended, hW, hsame⟩ := X0.leave (v := some (.int (1 : Int32))) (fun h => by rw [Bd.returns] at h; cases h)
        refine own_done (retN X0 hx (t := .boolean) Bd.returns (by simp) (hb hby d1_196) hr) hrun hended ⟨_, _, rfl, ?_, ⟨_, rfl⟩, hW, hsame.mono (by decide) (by decide)⟩
        show Q1 Z p1 h0 n0 _ s₁.heap _
        rw [e0]
        exact ⟨congrArg (fun z => some (Value.int z)) (show (1 : Int32) = (own_f1 p1) from (show _ = own_f1_12 p1 from by unfold own_f1_12; simp only [if_neg hc26, if_neg hc27]).trans hv.symm), N0, rfl⟩
  show own_G p.tables e below _ (s₁.setTop (mkF m 0 #[.val (.int p1)] []))
  refine own_step (fun t k => XS.iloadN X0.here hx rfl (hb hby d1_0) rfl k) ?_
  show own_G p.tables e below _ (s₁.setTop (mkF m 1 #[.val (.int p1)] [(.int p1)]))
  refine own_step (fun t k => XS.bipush X0.here hx rfl (hb hby d1_1) k) ?_
  show own_G p.tables e below _ (s₁.setTop (mkF m 3 #[.val (.int p1)] [(.int (97 : Int32)), (.int p1)]))
  by_cases hc28 : p1 < (97 : Int32)
  · skip
    refine own_step (fun t k => XS.icmpYes X0.here hx rfl (pc0 := 3) (pc' := 12) rfl (hb hby d1_3) rfl ((tlt hc28).1) (by decide) (by decide) k) ?_
    show own_G p.tables e below _ (s₁.setTop (mkF m 12 #[.val (.int p1)] []))
    exact kx12 (show own_f1 p1 = own_f1_12 p1 from by unfold own_f1; simp only [if_pos hc28])
  · skip
    refine own_step (fun t k => XS.icmpNo X0.here hx rfl (hb hby d1_3) rfl ((flt hc28).1) k) ?_
    show own_G p.tables e below _ (s₁.setTop (mkF m 6 #[.val (.int p1)] []))
    refine own_step (fun t k => XS.iloadN X0.here hx rfl (hb hby d1_6) rfl k) ?_
    show own_G p.tables e below _ (s₁.setTop (mkF m 7 #[.val (.int p1)] [(.int p1)]))
    refine own_step (fun t k => XS.bipush X0.here hx rfl (hb hby d1_7) k) ?_
    show own_G p.tables e below _ (s₁.setTop (mkF m 9 #[.val (.int p1)] [(.int (122 : Int32)), (.int p1)]))
    by_cases hc29 : (122 : Int32) < p1
    · skip
      refine own_step (fun t k => XS.icmpNo X0.here hx rfl (hb hby d1_9) rfl ((tlt hc29).2.2.2) k) ?_
      show own_G p.tables e below _ (s₁.setTop (mkF m 12 #[.val (.int p1)] []))
      exact kx12 (show own_f1 p1 = own_f1_12 p1 from by unfold own_f1; simp only [if_neg hc28, if_pos hc29])
    · skip
      refine own_step (fun t k => XS.icmpYes X0.here hx rfl (pc0 := 9) (pc' := 191) rfl (hb hby d1_9) rfl ((flt hc29).2.2.2) (by decide) (by decide) k) ?_
      show own_G p.tables e below _ (s₁.setTop (mkF m 191 #[.val (.int p1)] []))
      refine own_step (fun t k => XS.iconst X0.here hx rfl (hb hby d1_191) k) ?_
      show own_G p.tables e below _ (s₁.setTop (mkF m 192 #[.val (.int p1)] [(.int (1 : Int32))]))
      refine own_step (fun t k => XS.goto X0.here hx rfl (pc0 := 192) (pc' := 196) rfl (hb hby d1_192) (by decide) (by decide) k) ?_
      show own_G p.tables e below _ (s₁.setTop (mkF m 196 #[.val (.int p1)] [(.int (1 : Int32))]))
      subst hP
      obtain ⟨fs, hr, hrun, hended, hW, hsame⟩ := X0.leave (v := some (.int (1 : Int32))) (fun h => by rw [Bd.returns] at h; cases h)
      refine own_done (retN X0 hx (t := .boolean) Bd.returns (by simp) (hb hby d1_196) hr) hrun hended ⟨_, _, rfl, ?_, ⟨_, rfl⟩, hW, hsame.mono (by decide) (by decide)⟩
      show Q1 Z p1 h0 n0 _ s₁.heap _
      rw [e0]
      exact ⟨congrArg (fun z => some (Value.int z)) (show (1 : Int32) = (own_f1 p1) from by unfold own_f1; simp only [if_neg hc28, if_neg hc29]), N0, rfl⟩
theorem d2_0 : decode method_3_code 0 = .ok (.iload_n 0, 1) := by decide +kernel
theorem d2_1 : decode method_3_code 1 = .ok (.bipush 65, 2) := by decide +kernel
theorem d2_3 : decode method_3_code 3 = .ok (.if_icmp .ge 5, 3) := by decide +kernel
theorem d2_6 : decode method_3_code 6 = .ok (.iconst 0, 1) := by decide +kernel
theorem d2_7 : decode method_3_code 7 = .ok (.ireturn, 1) := by decide +kernel
theorem d2_8 : decode method_3_code 8 = .ok (.iload_n 0, 1) := by decide +kernel
theorem d2_9 : decode method_3_code 9 = .ok (.bipush 91, 2) := by decide +kernel
theorem d2_11 : decode method_3_code 11 = .ok (.if_icmp .ge 5, 3) := by decide +kernel
theorem d2_14 : decode method_3_code 14 = .ok (.iconst 1, 1) := by decide +kernel
theorem d2_15 : decode method_3_code 15 = .ok (.ireturn, 1) := by decide +kernel
theorem d2_16 : decode method_3_code 16 = .ok (.iload_n 0, 1) := by decide +kernel
theorem d2_17 : decode method_3_code 17 = .ok (.bipush 95, 2) := by decide +kernel
theorem d2_19 : decode method_3_code 19 = .ok (.if_icmp .ge 5, 3) := by decide +kernel
theorem d2_22 : decode method_3_code 22 = .ok (.iconst 0, 1) := by decide +kernel
theorem d2_23 : decode method_3_code 23 = .ok (.ireturn, 1) := by decide +kernel
theorem d2_24 : decode method_3_code 24 = .ok (.iload_n 0, 1) := by decide +kernel
theorem d2_25 : decode method_3_code 25 = .ok (.bipush 96, 2) := by decide +kernel
theorem d2_27 : decode method_3_code 27 = .ok (.if_icmp .ge 5, 3) := by decide +kernel
theorem d2_30 : decode method_3_code 30 = .ok (.iconst 1, 1) := by decide +kernel
theorem d2_31 : decode method_3_code 31 = .ok (.ireturn, 1) := by decide +kernel
theorem d2_32 : decode method_3_code 32 = .ok (.iload_n 0, 1) := by decide +kernel
theorem d2_33 : decode method_3_code 33 = .ok (.bipush 97, 2) := by decide +kernel
theorem d2_35 : decode method_3_code 35 = .ok (.if_icmp .ge 5, 3) := by decide +kernel
theorem d2_38 : decode method_3_code 38 = .ok (.iconst 0, 1) := by decide +kernel
theorem d2_39 : decode method_3_code 39 = .ok (.ireturn, 1) := by decide +kernel
theorem d2_40 : decode method_3_code 40 = .ok (.iload_n 0, 1) := by decide +kernel
theorem d2_41 : decode method_3_code 41 = .ok (.bipush 123, 2) := by decide +kernel
theorem d2_43 : decode method_3_code 43 = .ok (.if_icmp .ge 5, 3) := by decide +kernel
theorem d2_46 : decode method_3_code 46 = .ok (.iconst 1, 1) := by decide +kernel
theorem d2_47 : decode method_3_code 47 = .ok (.ireturn, 1) := by decide +kernel
theorem d2_48 : decode method_3_code 48 = .ok (.iload_n 0, 1) := by decide +kernel
theorem d2_49 : decode method_3_code 49 = .ok (.sipush 192, 3) := by decide +kernel
theorem d2_52 : decode method_3_code 52 = .ok (.if_icmp .ge 5, 3) := by decide +kernel
theorem d2_55 : decode method_3_code 55 = .ok (.iconst 0, 1) := by decide +kernel
theorem d2_56 : decode method_3_code 56 = .ok (.ireturn, 1) := by decide +kernel
theorem d2_57 : decode method_3_code 57 = .ok (.iload_n 0, 1) := by decide +kernel
theorem d2_58 : decode method_3_code 58 = .ok (.sipush 215, 3) := by decide +kernel
theorem d2_61 : decode method_3_code 61 = .ok (.if_icmp .ge 5, 3) := by decide +kernel
theorem d2_64 : decode method_3_code 64 = .ok (.iconst 1, 1) := by decide +kernel
theorem d2_65 : decode method_3_code 65 = .ok (.ireturn, 1) := by decide +kernel
theorem d2_66 : decode method_3_code 66 = .ok (.iload_n 0, 1) := by decide +kernel
theorem d2_67 : decode method_3_code 67 = .ok (.sipush 216, 3) := by decide +kernel
theorem d2_70 : decode method_3_code 70 = .ok (.if_icmp .ge 5, 3) := by decide +kernel
theorem d2_73 : decode method_3_code 73 = .ok (.iconst 0, 1) := by decide +kernel
theorem d2_74 : decode method_3_code 74 = .ok (.ireturn, 1) := by decide +kernel
theorem d2_75 : decode method_3_code 75 = .ok (.iload_n 0, 1) := by decide +kernel
theorem d2_76 : decode method_3_code 76 = .ok (.sipush 247, 3) := by decide +kernel
theorem d2_79 : decode method_3_code 79 = .ok (.if_icmp .ge 5, 3) := by decide +kernel
theorem d2_82 : decode method_3_code 82 = .ok (.iconst 1, 1) := by decide +kernel
theorem d2_83 : decode method_3_code 83 = .ok (.ireturn, 1) := by decide +kernel
theorem d2_84 : decode method_3_code 84 = .ok (.iload_n 0, 1) := by decide +kernel
theorem d2_85 : decode method_3_code 85 = .ok (.sipush 248, 3) := by decide +kernel
theorem d2_88 : decode method_3_code 88 = .ok (.if_icmp .ge 5, 3) := by decide +kernel
theorem d2_91 : decode method_3_code 91 = .ok (.iconst 0, 1) := by decide +kernel
theorem d2_92 : decode method_3_code 92 = .ok (.ireturn, 1) := by decide +kernel
theorem d2_93 : decode method_3_code 93 = .ok (.iload_n 0, 1) := by decide +kernel
theorem d2_94 : decode method_3_code 94 = .ok (.sipush 768, 3) := by decide +kernel
theorem d2_97 : decode method_3_code 97 = .ok (.if_icmp .ge 5, 3) := by decide +kernel
theorem d2_100 : decode method_3_code 100 = .ok (.iconst 1, 1) := by decide +kernel
theorem d2_101 : decode method_3_code 101 = .ok (.ireturn, 1) := by decide +kernel
theorem d2_102 : decode method_3_code 102 = .ok (.iload_n 0, 1) := by decide +kernel
theorem d2_103 : decode method_3_code 103 = .ok (.sipush 880, 3) := by decide +kernel
theorem d2_106 : decode method_3_code 106 = .ok (.if_icmp .ge 5, 3) := by decide +kernel
theorem d2_109 : decode method_3_code 109 = .ok (.iconst 0, 1) := by decide +kernel
theorem d2_110 : decode method_3_code 110 = .ok (.ireturn, 1) := by decide +kernel
theorem d2_111 : decode method_3_code 111 = .ok (.iload_n 0, 1) := by decide +kernel
theorem d2_112 : decode method_3_code 112 = .ok (.sipush 894, 3) := by decide +kernel
theorem d2_115 : decode method_3_code 115 = .ok (.if_icmp .ge 5, 3) := by decide +kernel
theorem d2_118 : decode method_3_code 118 = .ok (.iconst 1, 1) := by decide +kernel
theorem d2_119 : decode method_3_code 119 = .ok (.ireturn, 1) := by decide +kernel
theorem d2_120 : decode method_3_code 120 = .ok (.iload_n 0, 1) := by decide +kernel
theorem d2_121 : decode method_3_code 121 = .ok (.sipush 895, 3) := by decide +kernel
theorem d2_124 : decode method_3_code 124 = .ok (.if_icmp .ge 5, 3) := by decide +kernel
theorem d2_127 : decode method_3_code 127 = .ok (.iconst 0, 1) := by decide +kernel
theorem d2_128 : decode method_3_code 128 = .ok (.ireturn, 1) := by decide +kernel
theorem d2_129 : decode method_3_code 129 = .ok (.iload_n 0, 1) := by decide +kernel
theorem d2_130 : decode method_3_code 130 = .ok (.sipush 8192, 3) := by decide +kernel
theorem d2_133 : decode method_3_code 133 = .ok (.if_icmp .ge 5, 3) := by decide +kernel
theorem d2_136 : decode method_3_code 136 = .ok (.iconst 1, 1) := by decide +kernel
theorem d2_137 : decode method_3_code 137 = .ok (.ireturn, 1) := by decide +kernel
theorem d2_138 : decode method_3_code 138 = .ok (.iload_n 0, 1) := by decide +kernel
theorem d2_139 : decode method_3_code 139 = .ok (.sipush 8204, 3) := by decide +kernel
theorem d2_142 : decode method_3_code 142 = .ok (.if_icmp .ge 5, 3) := by decide +kernel
theorem d2_145 : decode method_3_code 145 = .ok (.iconst 0, 1) := by decide +kernel
theorem d2_146 : decode method_3_code 146 = .ok (.ireturn, 1) := by decide +kernel
theorem d2_147 : decode method_3_code 147 = .ok (.iload_n 0, 1) := by decide +kernel
theorem d2_148 : decode method_3_code 148 = .ok (.sipush 8206, 3) := by decide +kernel
theorem d2_151 : decode method_3_code 151 = .ok (.if_icmp .ge 5, 3) := by decide +kernel
theorem d2_154 : decode method_3_code 154 = .ok (.iconst 1, 1) := by decide +kernel
theorem d2_155 : decode method_3_code 155 = .ok (.ireturn, 1) := by decide +kernel
theorem d2_156 : decode method_3_code 156 = .ok (.iload_n 0, 1) := by decide +kernel
theorem d2_157 : decode method_3_code 157 = .ok (.sipush 8304, 3) := by decide +kernel
theorem d2_160 : decode method_3_code 160 = .ok (.if_icmp .ge 5, 3) := by decide +kernel
theorem d2_163 : decode method_3_code 163 = .ok (.iconst 0, 1) := by decide +kernel
theorem d2_164 : decode method_3_code 164 = .ok (.ireturn, 1) := by decide +kernel
theorem d2_165 : decode method_3_code 165 = .ok (.iload_n 0, 1) := by decide +kernel
theorem d2_166 : decode method_3_code 166 = .ok (.sipush 8592, 3) := by decide +kernel
theorem d2_169 : decode method_3_code 169 = .ok (.if_icmp .ge 5, 3) := by decide +kernel
theorem d2_172 : decode method_3_code 172 = .ok (.iconst 1, 1) := by decide +kernel
theorem d2_173 : decode method_3_code 173 = .ok (.ireturn, 1) := by decide +kernel
theorem d2_174 : decode method_3_code 174 = .ok (.iload_n 0, 1) := by decide +kernel
theorem d2_175 : decode method_3_code 175 = .ok (.sipush 11264, 3) := by decide +kernel
theorem d2_178 : decode method_3_code 178 = .ok (.if_icmp .ge 5, 3) := by decide +kernel
theorem d2_181 : decode method_3_code 181 = .ok (.iconst 0, 1) := by decide +kernel
theorem d2_182 : decode method_3_code 182 = .ok (.ireturn, 1) := by decide +kernel
theorem d2_183 : decode method_3_code 183 = .ok (.iload_n 0, 1) := by decide +kernel
theorem d2_184 : decode method_3_code 184 = .ok (.sipush 12272, 3) := by decide +kernel
theorem d2_187 : decode method_3_code 187 = .ok (.if_icmp .ge 5, 3) := by decide +kernel
theorem d2_190 : decode method_3_code 190 = .ok (.iconst 1, 1) := by decide +kernel
theorem d2_191 : decode method_3_code 191 = .ok (.ireturn, 1) := by decide +kernel
theorem d2_192 : decode method_3_code 192 = .ok (.iload_n 0, 1) := by decide +kernel
theorem d2_193 : decode method_3_code 193 = .ok (.sipush 12289, 3) := by decide +kernel
theorem d2_196 : decode method_3_code 196 = .ok (.if_icmp .ge 5, 3) := by decide +kernel
theorem d2_199 : decode method_3_code 199 = .ok (.iconst 0, 1) := by decide +kernel
theorem d2_200 : decode method_3_code 200 = .ok (.ireturn, 1) := by decide +kernel
theorem d2_201 : decode method_3_code 201 = .ok (.iload_n 0, 1) := by decide +kernel
theorem d2_202 : decode method_3_code 202 = .ok (.ldc 7, 2) := by decide +kernel
theorem d2_204 : decode method_3_code 204 = .ok (.if_icmp .ge 5, 3) := by decide +kernel
theorem d2_207 : decode method_3_code 207 = .ok (.iconst 1, 1) := by decide +kernel
theorem d2_208 : decode method_3_code 208 = .ok (.ireturn, 1) := by decide +kernel
theorem d2_209 : decode method_3_code 209 = .ok (.iload_n 0, 1) := by decide +kernel
theorem d2_210 : decode method_3_code 210 = .ok (.ldc 8, 2) := by decide +kernel
theorem d2_212 : decode method_3_code 212 = .ok (.if_icmp .ge 5, 3) := by decide +kernel
theorem d2_215 : decode method_3_code 215 = .ok (.iconst 0, 1) := by decide +kernel
theorem d2_216 : decode method_3_code 216 = .ok (.ireturn, 1) := by decide +kernel
theorem d2_217 : decode method_3_code 217 = .ok (.iload_n 0, 1) := by decide +kernel
theorem d2_218 : decode method_3_code 218 = .ok (.ldc 9, 2) := by decide +kernel
theorem d2_220 : decode method_3_code 220 = .ok (.if_icmp .ge 5, 3) := by decide +kernel
theorem d2_223 : decode method_3_code 223 = .ok (.iconst 1, 1) := by decide +kernel
theorem d2_224 : decode method_3_code 224 = .ok (.ireturn, 1) := by decide +kernel
theorem d2_225 : decode method_3_code 225 = .ok (.iload_n 0, 1) := by decide +kernel
theorem d2_226 : decode method_3_code 226 = .ok (.ldc 10, 2) := by decide +kernel
theorem d2_228 : decode method_3_code 228 = .ok (.if_icmp .ge 5, 3) := by decide +kernel
theorem d2_231 : decode method_3_code 231 = .ok (.iconst 0, 1) := by decide +kernel
theorem d2_232 : decode method_3_code 232 = .ok (.ireturn, 1) := by decide +kernel
theorem d2_233 : decode method_3_code 233 = .ok (.iload_n 0, 1) := by decide +kernel
theorem d2_234 : decode method_3_code 234 = .ok (.ldc 11, 2) := by decide +kernel
theorem d2_236 : decode method_3_code 236 = .ok (.if_icmp .ge 5, 3) := by decide +kernel
theorem d2_239 : decode method_3_code 239 = .ok (.iconst 1, 1) := by decide +kernel
theorem d2_240 : decode method_3_code 240 = .ok (.ireturn, 1) := by decide +kernel
theorem d2_241 : decode method_3_code 241 = .ok (.iload_n 0, 1) := by decide +kernel
theorem d2_242 : decode method_3_code 242 = .ok (.ldc 12, 2) := by decide +kernel
theorem d2_244 : decode method_3_code 244 = .ok (.if_icmp .ge 5, 3) := by decide +kernel
theorem d2_247 : decode method_3_code 247 = .ok (.iconst 0, 1) := by decide +kernel
theorem d2_248 : decode method_3_code 248 = .ok (.ireturn, 1) := by decide +kernel
theorem d2_249 : decode method_3_code 249 = .ok (.iload_n 0, 1) := by decide +kernel
theorem d2_250 : decode method_3_code 250 = .ok (.ldc 13, 2) := by decide +kernel
theorem d2_252 : decode method_3_code 252 = .ok (.if_icmp .ge 7, 3) := by decide +kernel
theorem d2_255 : decode method_3_code 255 = .ok (.iconst 1, 1) := by decide +kernel
theorem d2_256 : decode method_3_code 256 = .ok (.goto 4, 3) := by decide +kernel
theorem d2_259 : decode method_3_code 259 = .ok (.iconst 0, 1) := by decide +kernel
theorem d2_260 : decode method_3_code 260 = .ok (.ireturn, 1) := by decide +kernel
theorem pn_2 : plainName "com/example/same_bytes/samebytes/XmlRulesIsNameStartCharPinLaw" = true := by first | (simp [plainName, overriddenIn]; done) | decide +kernel
theorem ef_2 (m : MethodId) (p1 : Int32) : entryFrame m #[(.int p1)] 1 = mkF m 0 #[.val (.int p1)] [] := by first | (simp [entryFrame, mkF, argsToLocals, Value.category]; done) | rfl
def own_f2 (p1 : Int32) : Int32 :=
  (if p1 < (65 : Int32) then (0 : Int32) else (if p1 < (91 : Int32) then (1 : Int32) else (if p1 < (95 : Int32) then (0 : Int32) else (if p1 < (96 : Int32) then (1 : Int32) else (if p1 < (97 : Int32) then (0 : Int32) else (if p1 < (123 : Int32) then (1 : Int32) else (if p1 < (192 : Int32) then (0 : Int32) else (if p1 < (215 : Int32) then (1 : Int32) else (if p1 < (216 : Int32) then (0 : Int32) else (if p1 < (247 : Int32) then (1 : Int32) else (if p1 < (248 : Int32) then (0 : Int32) else (if p1 < (768 : Int32) then (1 : Int32) else (if p1 < (880 : Int32) then (0 : Int32) else (if p1 < (894 : Int32) then (1 : Int32) else (if p1 < (895 : Int32) then (0 : Int32) else (if p1 < (8192 : Int32) then (1 : Int32) else (if p1 < (8204 : Int32) then (0 : Int32) else (if p1 < (8206 : Int32) then (1 : Int32) else (if p1 < (8304 : Int32) then (0 : Int32) else (if p1 < (8592 : Int32) then (1 : Int32) else (if p1 < (11264 : Int32) then (0 : Int32) else (if p1 < (12272 : Int32) then (1 : Int32) else (if p1 < (12289 : Int32) then (0 : Int32) else (if p1 < (55296 : Int32) then (1 : Int32) else (if p1 < (63744 : Int32) then (0 : Int32) else (if p1 < (64976 : Int32) then (1 : Int32) else (if p1 < (65008 : Int32) then (0 : Int32) else (if p1 < (65534 : Int32) then (1 : Int32) else (if p1 < (65536 : Int32) then (0 : Int32) else (if p1 < (983040 : Int32) then (1 : Int32) else (0 : Int32)))))))))))))))))))))))))))))))
def Q2 (Z : State) (p1 : Int32) (h0 : Heap) (n0 : Nat) (v : Option Value) (h : Heap) (L : List Loc) : Prop := v = some (.int (own_f2 p1)) ∧ Fr n0 L ∧ h = h0
set_option maxRecDepth 65536 in
set_option maxHeartbeats 40000000 in
theorem rm2 (l : Launch) (Z : State) (a0 : Array Value) (hw : ∀ d ∈ tables_1, d.before a0 Z = true) (ws : List Jvm.Cond) (p1 : Int32) (h0 : Heap) (n0 : Nat) (Z0 : n0 ≤ h0.size) :
    MetFree l (⟨"com/example/same_bytes/samebytes/XmlRulesIsNameStartCharPinLaw", "ref", "(I)Z"⟩ : MethodName) (head1 (Jvm.Cond.code (⟨"com/example/same_bytes/samebytes/XmlRulesIsNameStartCharPinLaw", "ref", "(I)Z"⟩ : MethodName) method_3_code 1 (some .boolean) :: ws) ({ frames := 0, cells := 0, slots := 0, locals := 0 } : Room)) (fun a U => a = #[(.int p1)] ∧ Z.Warmed39 U.vm ∧ U.heap = h0) (fun _ _ _ _ _ => True) (fun _ U o U' => ∃ v L, o = .returned v ∧ Q2 Z p1 h0 n0 v U'.heap L ∧ FrameEnd U o U' L ({ frames := 0, cells := 0, slots := 0, locals := 0 } : Room).cells ({ frames := 0, cells := 0, slots := 0, locals := 0 } : Room).slots) := by
  refine MetFree.of_bodySF (plainFor_of_name pn_2) hisR ?_
  intro p e s m args below meth c s₁ Bd hml0 hP hK
  obtain ⟨rfl, hZ, hh⟩ := hP
  have hx := Bd.exec
  have hby := Bd.bytes
  have hml : c.maxLocals = 1 := hml0
  have hown : s.vm.findClass "com/example/same_bytes/samebytes/XmlRulesIsNameStartCharPinLaw" = some m.cls := findClass_of_methodNamed Bd.named
  have hnm := (name_of_methodNamed Bd.named Bd.method).1
  have X0 : Stand p l e ({ frames := 0, cells := 0, slots := 0, locals := 0 } : Room) s m #[(.int p1)] below meth c s₁ [] 0 0 := Stand.of_body Bd
  have e0 : s₁.heap = h0 := by rw [← hh, Bd.state]; rfl
  have N0 := Fr.nil n0
  refine own_start (fun t k => castTop (ef_2 m p1) k) ?_
  show own_G p.tables e below _ (s₁.setTop (mkF m 0 #[.val (.int p1)] []))
  refine own_step (fun t k => XS.iloadN X0.here hx rfl (hb hby d2_0) rfl k) ?_
  show own_G p.tables e below _ (s₁.setTop (mkF m 1 #[.val (.int p1)] [(.int p1)]))
  refine own_step (fun t k => XS.bipush X0.here hx rfl (hb hby d2_1) k) ?_
  show own_G p.tables e below _ (s₁.setTop (mkF m 3 #[.val (.int p1)] [(.int (65 : Int32)), (.int p1)]))
  by_cases hc1 : p1 < (65 : Int32)
  · skip
    refine own_step (fun t k => XS.icmpNo X0.here hx rfl (hb hby d2_3) rfl ((tlt hc1).2.1) k) ?_
    show own_G p.tables e below _ (s₁.setTop (mkF m 6 #[.val (.int p1)] []))
    refine own_step (fun t k => XS.iconst X0.here hx rfl (hb hby d2_6) k) ?_
    show own_G p.tables e below _ (s₁.setTop (mkF m 7 #[.val (.int p1)] [(.int (0 : Int32))]))
    obtain ⟨fs, hr, hrun, hended, hW, hsame⟩ := X0.leave (v := some (.int (0 : Int32))) (fun h => by rw [Bd.returns] at h; cases h)
    refine own_done (retN X0 hx (t := .boolean) Bd.returns (by simp) (hb hby d2_7) hr) hrun hended ⟨_, _, rfl, ?_, ⟨_, rfl⟩, hW, hsame.mono (by decide) (by decide)⟩
    show Q2 Z p1 h0 n0 _ s₁.heap _
    rw [e0]
    exact ⟨congrArg (fun z => some (Value.int z)) (show (0 : Int32) = (own_f2 p1) from by unfold own_f2; simp only [if_pos hc1]), N0, rfl⟩
  · skip
    refine own_step (fun t k => XS.icmpYes X0.here hx rfl (pc0 := 3) (pc' := 8) rfl (hb hby d2_3) rfl ((flt hc1).2.1) (by decide) (by decide) k) ?_
    show own_G p.tables e below _ (s₁.setTop (mkF m 8 #[.val (.int p1)] []))
    refine own_step (fun t k => XS.iloadN X0.here hx rfl (hb hby d2_8) rfl k) ?_
    show own_G p.tables e below _ (s₁.setTop (mkF m 9 #[.val (.int p1)] [(.int p1)]))
    refine own_step (fun t k => XS.bipush X0.here hx rfl (hb hby d2_9) k) ?_
    show own_G p.tables e below _ (s₁.setTop (mkF m 11 #[.val (.int p1)] [(.int (91 : Int32)), (.int p1)]))
    by_cases hc2 : p1 < (91 : Int32)
    · skip
      refine own_step (fun t k => XS.icmpNo X0.here hx rfl (hb hby d2_11) rfl ((tlt hc2).2.1) k) ?_
      show own_G p.tables e below _ (s₁.setTop (mkF m 14 #[.val (.int p1)] []))
      refine own_step (fun t k => XS.iconst X0.here hx rfl (hb hby d2_14) k) ?_
      show own_G p.tables e below _ (s₁.setTop (mkF m 15 #[.val (.int p1)] [(.int (1 : Int32))]))
      obtain ⟨fs, hr, hrun, hended, hW, hsame⟩ := X0.leave (v := some (.int (1 : Int32))) (fun h => by rw [Bd.returns] at h; cases h)
      refine own_done (retN X0 hx (t := .boolean) Bd.returns (by simp) (hb hby d2_15) hr) hrun hended ⟨_, _, rfl, ?_, ⟨_, rfl⟩, hW, hsame.mono (by decide) (by decide)⟩
      show Q2 Z p1 h0 n0 _ s₁.heap _
      rw [e0]
      exact ⟨congrArg (fun z => some (Value.int z)) (show (1 : Int32) = (own_f2 p1) from by unfold own_f2; simp only [if_neg hc1, if_pos hc2]), N0, rfl⟩
    · skip
      refine own_step (fun t k => XS.icmpYes X0.here hx rfl (pc0 := 11) (pc' := 16) rfl (hb hby d2_11) rfl ((flt hc2).2.1) (by decide) (by decide) k) ?_
      show own_G p.tables e below _ (s₁.setTop (mkF m 16 #[.val (.int p1)] []))
      refine own_step (fun t k => XS.iloadN X0.here hx rfl (hb hby d2_16) rfl k) ?_
      show own_G p.tables e below _ (s₁.setTop (mkF m 17 #[.val (.int p1)] [(.int p1)]))
      refine own_step (fun t k => XS.bipush X0.here hx rfl (hb hby d2_17) k) ?_
      show own_G p.tables e below _ (s₁.setTop (mkF m 19 #[.val (.int p1)] [(.int (95 : Int32)), (.int p1)]))
      by_cases hc3 : p1 < (95 : Int32)
      · skip
        refine own_step (fun t k => XS.icmpNo X0.here hx rfl (hb hby d2_19) rfl ((tlt hc3).2.1) k) ?_
        show own_G p.tables e below _ (s₁.setTop (mkF m 22 #[.val (.int p1)] []))
        refine own_step (fun t k => XS.iconst X0.here hx rfl (hb hby d2_22) k) ?_
        show own_G p.tables e below _ (s₁.setTop (mkF m 23 #[.val (.int p1)] [(.int (0 : Int32))]))
        obtain ⟨fs, hr, hrun, hended, hW, hsame⟩ := X0.leave (v := some (.int (0 : Int32))) (fun h => by rw [Bd.returns] at h; cases h)
        refine own_done (retN X0 hx (t := .boolean) Bd.returns (by simp) (hb hby d2_23) hr) hrun hended ⟨_, _, rfl, ?_, ⟨_, rfl⟩, hW, hsame.mono (by decide) (by decide)⟩
        show Q2 Z p1 h0 n0 _ s₁.heap _
        rw [e0]
        exact ⟨congrArg (fun z => some (Value.int z)) (show (0 : Int32) = (own_f2 p1) from by unfold own_f2; simp only [if_neg hc1, if_neg hc2, if_pos hc3]), N0, rfl⟩
      · skip
        refine own_step (fun t k => XS.icmpYes X0.here hx rfl (pc0 := 19) (pc' := 24) rfl (hb hby d2_19) rfl ((flt hc3).2.1) (by decide) (by decide) k) ?_
        show own_G p.tables e below _ (s₁.setTop (mkF m 24 #[.val (.int p1)] []))
        refine own_step (fun t k => XS.iloadN X0.here hx rfl (hb hby d2_24) rfl k) ?_
        show own_G p.tables e below _ (s₁.setTop (mkF m 25 #[.val (.int p1)] [(.int p1)]))
        refine own_step (fun t k => XS.bipush X0.here hx rfl (hb hby d2_25) k) ?_
        show own_G p.tables e below _ (s₁.setTop (mkF m 27 #[.val (.int p1)] [(.int (96 : Int32)), (.int p1)]))
        by_cases hc4 : p1 < (96 : Int32)
        · skip
          refine own_step (fun t k => XS.icmpNo X0.here hx rfl (hb hby d2_27) rfl ((tlt hc4).2.1) k) ?_
          show own_G p.tables e below _ (s₁.setTop (mkF m 30 #[.val (.int p1)] []))
          refine own_step (fun t k => XS.iconst X0.here hx rfl (hb hby d2_30) k) ?_
          show own_G p.tables e below _ (s₁.setTop (mkF m 31 #[.val (.int p1)] [(.int (1 : Int32))]))
          obtain ⟨fs, hr, hrun, hended, hW, hsame⟩ := X0.leave (v := some (.int (1 : Int32))) (fun h => by rw [Bd.returns] at h; cases h)
          refine own_done (retN X0 hx (t := .boolean) Bd.returns (by simp) (hb hby d2_31) hr) hrun hended ⟨_, _, rfl, ?_, ⟨_, rfl⟩, hW, hsame.mono (by decide) (by decide)⟩
          show Q2 Z p1 h0 n0 _ s₁.heap _
          rw [e0]
          exact ⟨congrArg (fun z => some (Value.int z)) (show (1 : Int32) = (own_f2 p1) from by unfold own_f2; simp only [if_neg hc1, if_neg hc2, if_neg hc3, if_pos hc4]), N0, rfl⟩
        · skip
          refine own_step (fun t k => XS.icmpYes X0.here hx rfl (pc0 := 27) (pc' := 32) rfl (hb hby d2_27) rfl ((flt hc4).2.1) (by decide) (by decide) k) ?_
          show own_G p.tables e below _ (s₁.setTop (mkF m 32 #[.val (.int p1)] []))
          refine own_step (fun t k => XS.iloadN X0.here hx rfl (hb hby d2_32) rfl k) ?_
          show own_G p.tables e below _ (s₁.setTop (mkF m 33 #[.val (.int p1)] [(.int p1)]))
          refine own_step (fun t k => XS.bipush X0.here hx rfl (hb hby d2_33) k) ?_
          show own_G p.tables e below _ (s₁.setTop (mkF m 35 #[.val (.int p1)] [(.int (97 : Int32)), (.int p1)]))
          by_cases hc5 : p1 < (97 : Int32)
          · skip
            refine own_step (fun t k => XS.icmpNo X0.here hx rfl (hb hby d2_35) rfl ((tlt hc5).2.1) k) ?_
            show own_G p.tables e below _ (s₁.setTop (mkF m 38 #[.val (.int p1)] []))
            refine own_step (fun t k => XS.iconst X0.here hx rfl (hb hby d2_38) k) ?_
            show own_G p.tables e below _ (s₁.setTop (mkF m 39 #[.val (.int p1)] [(.int (0 : Int32))]))
            obtain ⟨fs, hr, hrun, hended, hW, hsame⟩ := X0.leave (v := some (.int (0 : Int32))) (fun h => by rw [Bd.returns] at h; cases h)
            refine own_done (retN X0 hx (t := .boolean) Bd.returns (by simp) (hb hby d2_39) hr) hrun hended ⟨_, _, rfl, ?_, ⟨_, rfl⟩, hW, hsame.mono (by decide) (by decide)⟩
            show Q2 Z p1 h0 n0 _ s₁.heap _
            rw [e0]
            exact ⟨congrArg (fun z => some (Value.int z)) (show (0 : Int32) = (own_f2 p1) from by unfold own_f2; simp only [if_neg hc1, if_neg hc2, if_neg hc3, if_neg hc4, if_pos hc5]), N0, rfl⟩
          · skip
            refine own_step (fun t k => XS.icmpYes X0.here hx rfl (pc0 := 35) (pc' := 40) rfl (hb hby d2_35) rfl ((flt hc5).2.1) (by decide) (by decide) k) ?_
            show own_G p.tables e below _ (s₁.setTop (mkF m 40 #[.val (.int p1)] []))
            refine own_step (fun t k => XS.iloadN X0.here hx rfl (hb hby d2_40) rfl k) ?_
            show own_G p.tables e below _ (s₁.setTop (mkF m 41 #[.val (.int p1)] [(.int p1)]))
            refine own_step (fun t k => XS.bipush X0.here hx rfl (hb hby d2_41) k) ?_
            show own_G p.tables e below _ (s₁.setTop (mkF m 43 #[.val (.int p1)] [(.int (123 : Int32)), (.int p1)]))
            by_cases hc6 : p1 < (123 : Int32)
            · skip
              refine own_step (fun t k => XS.icmpNo X0.here hx rfl (hb hby d2_43) rfl ((tlt hc6).2.1) k) ?_
              show own_G p.tables e below _ (s₁.setTop (mkF m 46 #[.val (.int p1)] []))
              refine own_step (fun t k => XS.iconst X0.here hx rfl (hb hby d2_46) k) ?_
              show own_G p.tables e below _ (s₁.setTop (mkF m 47 #[.val (.int p1)] [(.int (1 : Int32))]))
              obtain ⟨fs, hr, hrun, hended, hW, hsame⟩ := X0.leave (v := some (.int (1 : Int32))) (fun h => by rw [Bd.returns] at h; cases h)
              refine own_done (retN X0 hx (t := .boolean) Bd.returns (by simp) (hb hby d2_47) hr) hrun hended ⟨_, _, rfl, ?_, ⟨_, rfl⟩, hW, hsame.mono (by decide) (by decide)⟩
              show Q2 Z p1 h0 n0 _ s₁.heap _
              rw [e0]
              exact ⟨congrArg (fun z => some (Value.int z)) (show (1 : Int32) = (own_f2 p1) from by unfold own_f2; simp only [if_neg hc1, if_neg hc2, if_neg hc3, if_neg hc4, if_neg hc5, if_pos hc6]), N0, rfl⟩
            · skip
              refine own_step (fun t k => XS.icmpYes X0.here hx rfl (pc0 := 43) (pc' := 48) rfl (hb hby d2_43) rfl ((flt hc6).2.1) (by decide) (by decide) k) ?_
              show own_G p.tables e below _ (s₁.setTop (mkF m 48 #[.val (.int p1)] []))
              refine own_step (fun t k => XS.iloadN X0.here hx rfl (hb hby d2_48) rfl k) ?_
              show own_G p.tables e below _ (s₁.setTop (mkF m 49 #[.val (.int p1)] [(.int p1)]))
              refine own_step (fun t k => XS.sipush X0.here hx rfl (hb hby d2_49) k) ?_
              show own_G p.tables e below _ (s₁.setTop (mkF m 52 #[.val (.int p1)] [(.int (192 : Int32)), (.int p1)]))
              by_cases hc7 : p1 < (192 : Int32)
              · skip
                refine own_step (fun t k => XS.icmpNo X0.here hx rfl (hb hby d2_52) rfl ((tlt hc7).2.1) k) ?_
                show own_G p.tables e below _ (s₁.setTop (mkF m 55 #[.val (.int p1)] []))
                refine own_step (fun t k => XS.iconst X0.here hx rfl (hb hby d2_55) k) ?_
                show own_G p.tables e below _ (s₁.setTop (mkF m 56 #[.val (.int p1)] [(.int (0 : Int32))]))
                obtain ⟨fs, hr, hrun, hended, hW, hsame⟩ := X0.leave (v := some (.int (0 : Int32))) (fun h => by rw [Bd.returns] at h; cases h)
                refine own_done (retN X0 hx (t := .boolean) Bd.returns (by simp) (hb hby d2_56) hr) hrun hended ⟨_, _, rfl, ?_, ⟨_, rfl⟩, hW, hsame.mono (by decide) (by decide)⟩
                show Q2 Z p1 h0 n0 _ s₁.heap _
                rw [e0]
                exact ⟨congrArg (fun z => some (Value.int z)) (show (0 : Int32) = (own_f2 p1) from by unfold own_f2; simp only [if_neg hc1, if_neg hc2, if_neg hc3, if_neg hc4, if_neg hc5, if_neg hc6, if_pos hc7]), N0, rfl⟩
              · skip
                refine own_step (fun t k => XS.icmpYes X0.here hx rfl (pc0 := 52) (pc' := 57) rfl (hb hby d2_52) rfl ((flt hc7).2.1) (by decide) (by decide) k) ?_
                show own_G p.tables e below _ (s₁.setTop (mkF m 57 #[.val (.int p1)] []))
                refine own_step (fun t k => XS.iloadN X0.here hx rfl (hb hby d2_57) rfl k) ?_
                show own_G p.tables e below _ (s₁.setTop (mkF m 58 #[.val (.int p1)] [(.int p1)]))
                refine own_step (fun t k => XS.sipush X0.here hx rfl (hb hby d2_58) k) ?_
                show own_G p.tables e below _ (s₁.setTop (mkF m 61 #[.val (.int p1)] [(.int (215 : Int32)), (.int p1)]))
                by_cases hc8 : p1 < (215 : Int32)
                · skip
                  refine own_step (fun t k => XS.icmpNo X0.here hx rfl (hb hby d2_61) rfl ((tlt hc8).2.1) k) ?_
                  show own_G p.tables e below _ (s₁.setTop (mkF m 64 #[.val (.int p1)] []))
                  refine own_step (fun t k => XS.iconst X0.here hx rfl (hb hby d2_64) k) ?_
                  show own_G p.tables e below _ (s₁.setTop (mkF m 65 #[.val (.int p1)] [(.int (1 : Int32))]))
                  obtain ⟨fs, hr, hrun, hended, hW, hsame⟩ := X0.leave (v := some (.int (1 : Int32))) (fun h => by rw [Bd.returns] at h; cases h)
                  refine own_done (retN X0 hx (t := .boolean) Bd.returns (by simp) (hb hby d2_65) hr) hrun hended ⟨_, _, rfl, ?_, ⟨_, rfl⟩, hW, hsame.mono (by decide) (by decide)⟩
                  show Q2 Z p1 h0 n0 _ s₁.heap _
                  rw [e0]
                  exact ⟨congrArg (fun z => some (Value.int z)) (show (1 : Int32) = (own_f2 p1) from by unfold own_f2; simp only [if_neg hc1, if_neg hc2, if_neg hc3, if_neg hc4, if_neg hc5, if_neg hc6, if_neg hc7, if_pos hc8]), N0, rfl⟩
                · skip
                  refine own_step (fun t k => XS.icmpYes X0.here hx rfl (pc0 := 61) (pc' := 66) rfl (hb hby d2_61) rfl ((flt hc8).2.1) (by decide) (by decide) k) ?_
                  show own_G p.tables e below _ (s₁.setTop (mkF m 66 #[.val (.int p1)] []))
                  refine own_step (fun t k => XS.iloadN X0.here hx rfl (hb hby d2_66) rfl k) ?_
                  show own_G p.tables e below _ (s₁.setTop (mkF m 67 #[.val (.int p1)] [(.int p1)]))
                  refine own_step (fun t k => XS.sipush X0.here hx rfl (hb hby d2_67) k) ?_
                  show own_G p.tables e below _ (s₁.setTop (mkF m 70 #[.val (.int p1)] [(.int (216 : Int32)), (.int p1)]))
                  by_cases hc9 : p1 < (216 : Int32)
                  · skip
                    refine own_step (fun t k => XS.icmpNo X0.here hx rfl (hb hby d2_70) rfl ((tlt hc9).2.1) k) ?_
                    show own_G p.tables e below _ (s₁.setTop (mkF m 73 #[.val (.int p1)] []))
                    refine own_step (fun t k => XS.iconst X0.here hx rfl (hb hby d2_73) k) ?_
                    show own_G p.tables e below _ (s₁.setTop (mkF m 74 #[.val (.int p1)] [(.int (0 : Int32))]))
                    obtain ⟨fs, hr, hrun, hended, hW, hsame⟩ := X0.leave (v := some (.int (0 : Int32))) (fun h => by rw [Bd.returns] at h; cases h)
                    refine own_done (retN X0 hx (t := .boolean) Bd.returns (by simp) (hb hby d2_74) hr) hrun hended ⟨_, _, rfl, ?_, ⟨_, rfl⟩, hW, hsame.mono (by decide) (by decide)⟩
                    show Q2 Z p1 h0 n0 _ s₁.heap _
                    rw [e0]
                    exact ⟨congrArg (fun z => some (Value.int z)) (show (0 : Int32) = (own_f2 p1) from by unfold own_f2; simp only [if_neg hc1, if_neg hc2, if_neg hc3, if_neg hc4, if_neg hc5, if_neg hc6, if_neg hc7, if_neg hc8, if_pos hc9]), N0, rfl⟩
                  · skip
                    refine own_step (fun t k => XS.icmpYes X0.here hx rfl (pc0 := 70) (pc' := 75) rfl (hb hby d2_70) rfl ((flt hc9).2.1) (by decide) (by decide) k) ?_
                    show own_G p.tables e below _ (s₁.setTop (mkF m 75 #[.val (.int p1)] []))
                    refine own_step (fun t k => XS.iloadN X0.here hx rfl (hb hby d2_75) rfl k) ?_
                    show own_G p.tables e below _ (s₁.setTop (mkF m 76 #[.val (.int p1)] [(.int p1)]))
                    refine own_step (fun t k => XS.sipush X0.here hx rfl (hb hby d2_76) k) ?_
                    show own_G p.tables e below _ (s₁.setTop (mkF m 79 #[.val (.int p1)] [(.int (247 : Int32)), (.int p1)]))
                    by_cases hc10 : p1 < (247 : Int32)
                    · skip
                      refine own_step (fun t k => XS.icmpNo X0.here hx rfl (hb hby d2_79) rfl ((tlt hc10).2.1) k) ?_
                      show own_G p.tables e below _ (s₁.setTop (mkF m 82 #[.val (.int p1)] []))
                      refine own_step (fun t k => XS.iconst X0.here hx rfl (hb hby d2_82) k) ?_
                      show own_G p.tables e below _ (s₁.setTop (mkF m 83 #[.val (.int p1)] [(.int (1 : Int32))]))
                      obtain ⟨fs, hr, hrun, hended, hW, hsame⟩ := X0.leave (v := some (.int (1 : Int32))) (fun h => by rw [Bd.returns] at h; cases h)
                      refine own_done (retN X0 hx (t := .boolean) Bd.returns (by simp) (hb hby d2_83) hr) hrun hended ⟨_, _, rfl, ?_, ⟨_, rfl⟩, hW, hsame.mono (by decide) (by decide)⟩
                      show Q2 Z p1 h0 n0 _ s₁.heap _
                      rw [e0]
                      exact ⟨congrArg (fun z => some (Value.int z)) (show (1 : Int32) = (own_f2 p1) from by unfold own_f2; simp only [if_neg hc1, if_neg hc2, if_neg hc3, if_neg hc4, if_neg hc5, if_neg hc6, if_neg hc7, if_neg hc8, if_neg hc9, if_pos hc10]), N0, rfl⟩
                    · skip
                      refine own_step (fun t k => XS.icmpYes X0.here hx rfl (pc0 := 79) (pc' := 84) rfl (hb hby d2_79) rfl ((flt hc10).2.1) (by decide) (by decide) k) ?_
                      show own_G p.tables e below _ (s₁.setTop (mkF m 84 #[.val (.int p1)] []))
                      refine own_step (fun t k => XS.iloadN X0.here hx rfl (hb hby d2_84) rfl k) ?_
                      show own_G p.tables e below _ (s₁.setTop (mkF m 85 #[.val (.int p1)] [(.int p1)]))
                      refine own_step (fun t k => XS.sipush X0.here hx rfl (hb hby d2_85) k) ?_
                      show own_G p.tables e below _ (s₁.setTop (mkF m 88 #[.val (.int p1)] [(.int (248 : Int32)), (.int p1)]))
                      by_cases hc11 : p1 < (248 : Int32)
                      · skip
                        refine own_step (fun t k => XS.icmpNo X0.here hx rfl (hb hby d2_88) rfl ((tlt hc11).2.1) k) ?_
                        show own_G p.tables e below _ (s₁.setTop (mkF m 91 #[.val (.int p1)] []))
                        refine own_step (fun t k => XS.iconst X0.here hx rfl (hb hby d2_91) k) ?_
                        show own_G p.tables e below _ (s₁.setTop (mkF m 92 #[.val (.int p1)] [(.int (0 : Int32))]))
                        obtain ⟨fs, hr, hrun, hended, hW, hsame⟩ := X0.leave (v := some (.int (0 : Int32))) (fun h => by rw [Bd.returns] at h; cases h)
                        refine own_done (retN X0 hx (t := .boolean) Bd.returns (by simp) (hb hby d2_92) hr) hrun hended ⟨_, _, rfl, ?_, ⟨_, rfl⟩, hW, hsame.mono (by decide) (by decide)⟩
                        show Q2 Z p1 h0 n0 _ s₁.heap _
                        rw [e0]
                        exact ⟨congrArg (fun z => some (Value.int z)) (show (0 : Int32) = (own_f2 p1) from by unfold own_f2; simp only [if_neg hc1, if_neg hc2, if_neg hc3, if_neg hc4, if_neg hc5, if_neg hc6, if_neg hc7, if_neg hc8, if_neg hc9, if_neg hc10, if_pos hc11]), N0, rfl⟩
                      · skip
                        refine own_step (fun t k => XS.icmpYes X0.here hx rfl (pc0 := 88) (pc' := 93) rfl (hb hby d2_88) rfl ((flt hc11).2.1) (by decide) (by decide) k) ?_
                        show own_G p.tables e below _ (s₁.setTop (mkF m 93 #[.val (.int p1)] []))
                        refine own_step (fun t k => XS.iloadN X0.here hx rfl (hb hby d2_93) rfl k) ?_
                        show own_G p.tables e below _ (s₁.setTop (mkF m 94 #[.val (.int p1)] [(.int p1)]))
                        refine own_step (fun t k => XS.sipush X0.here hx rfl (hb hby d2_94) k) ?_
                        show own_G p.tables e below _ (s₁.setTop (mkF m 97 #[.val (.int p1)] [(.int (768 : Int32)), (.int p1)]))
                        by_cases hc12 : p1 < (768 : Int32)
                        · skip
                          refine own_step (fun t k => XS.icmpNo X0.here hx rfl (hb hby d2_97) rfl ((tlt hc12).2.1) k) ?_
                          show own_G p.tables e below _ (s₁.setTop (mkF m 100 #[.val (.int p1)] []))
                          refine own_step (fun t k => XS.iconst X0.here hx rfl (hb hby d2_100) k) ?_
                          show own_G p.tables e below _ (s₁.setTop (mkF m 101 #[.val (.int p1)] [(.int (1 : Int32))]))
                          obtain ⟨fs, hr, hrun, hended, hW, hsame⟩ := X0.leave (v := some (.int (1 : Int32))) (fun h => by rw [Bd.returns] at h; cases h)
                          refine own_done (retN X0 hx (t := .boolean) Bd.returns (by simp) (hb hby d2_101) hr) hrun hended ⟨_, _, rfl, ?_, ⟨_, rfl⟩, hW, hsame.mono (by decide) (by decide)⟩
                          show Q2 Z p1 h0 n0 _ s₁.heap _
                          rw [e0]
                          exact ⟨congrArg (fun z => some (Value.int z)) (show (1 : Int32) = (own_f2 p1) from by unfold own_f2; simp only [if_neg hc1, if_neg hc2, if_neg hc3, if_neg hc4, if_neg hc5, if_neg hc6, if_neg hc7, if_neg hc8, if_neg hc9, if_neg hc10, if_neg hc11, if_pos hc12]), N0, rfl⟩
                        · skip
                          refine own_step (fun t k => XS.icmpYes X0.here hx rfl (pc0 := 97) (pc' := 102) rfl (hb hby d2_97) rfl ((flt hc12).2.1) (by decide) (by decide) k) ?_
                          show own_G p.tables e below _ (s₁.setTop (mkF m 102 #[.val (.int p1)] []))
                          refine own_step (fun t k => XS.iloadN X0.here hx rfl (hb hby d2_102) rfl k) ?_
                          show own_G p.tables e below _ (s₁.setTop (mkF m 103 #[.val (.int p1)] [(.int p1)]))
                          refine own_step (fun t k => XS.sipush X0.here hx rfl (hb hby d2_103) k) ?_
                          show own_G p.tables e below _ (s₁.setTop (mkF m 106 #[.val (.int p1)] [(.int (880 : Int32)), (.int p1)]))
                          by_cases hc13 : p1 < (880 : Int32)
                          · skip
                            refine own_step (fun t k => XS.icmpNo X0.here hx rfl (hb hby d2_106) rfl ((tlt hc13).2.1) k) ?_
                            show own_G p.tables e below _ (s₁.setTop (mkF m 109 #[.val (.int p1)] []))
                            refine own_step (fun t k => XS.iconst X0.here hx rfl (hb hby d2_109) k) ?_
                            show own_G p.tables e below _ (s₁.setTop (mkF m 110 #[.val (.int p1)] [(.int (0 : Int32))]))
                            obtain ⟨fs, hr, hrun, hended, hW, hsame⟩ := X0.leave (v := some (.int (0 : Int32))) (fun h => by rw [Bd.returns] at h; cases h)
                            refine own_done (retN X0 hx (t := .boolean) Bd.returns (by simp) (hb hby d2_110) hr) hrun hended ⟨_, _, rfl, ?_, ⟨_, rfl⟩, hW, hsame.mono (by decide) (by decide)⟩
                            show Q2 Z p1 h0 n0 _ s₁.heap _
                            rw [e0]
                            exact ⟨congrArg (fun z => some (Value.int z)) (show (0 : Int32) = (own_f2 p1) from by unfold own_f2; simp only [if_neg hc1, if_neg hc2, if_neg hc3, if_neg hc4, if_neg hc5, if_neg hc6, if_neg hc7, if_neg hc8, if_neg hc9, if_neg hc10, if_neg hc11, if_neg hc12, if_pos hc13]), N0, rfl⟩
                          · skip
                            refine own_step (fun t k => XS.icmpYes X0.here hx rfl (pc0 := 106) (pc' := 111) rfl (hb hby d2_106) rfl ((flt hc13).2.1) (by decide) (by decide) k) ?_
                            show own_G p.tables e below _ (s₁.setTop (mkF m 111 #[.val (.int p1)] []))
                            refine own_step (fun t k => XS.iloadN X0.here hx rfl (hb hby d2_111) rfl k) ?_
                            show own_G p.tables e below _ (s₁.setTop (mkF m 112 #[.val (.int p1)] [(.int p1)]))
                            refine own_step (fun t k => XS.sipush X0.here hx rfl (hb hby d2_112) k) ?_
                            show own_G p.tables e below _ (s₁.setTop (mkF m 115 #[.val (.int p1)] [(.int (894 : Int32)), (.int p1)]))
                            by_cases hc14 : p1 < (894 : Int32)
                            · skip
                              refine own_step (fun t k => XS.icmpNo X0.here hx rfl (hb hby d2_115) rfl ((tlt hc14).2.1) k) ?_
                              show own_G p.tables e below _ (s₁.setTop (mkF m 118 #[.val (.int p1)] []))
                              refine own_step (fun t k => XS.iconst X0.here hx rfl (hb hby d2_118) k) ?_
                              show own_G p.tables e below _ (s₁.setTop (mkF m 119 #[.val (.int p1)] [(.int (1 : Int32))]))
                              obtain ⟨fs, hr, hrun, hended, hW, hsame⟩ := X0.leave (v := some (.int (1 : Int32))) (fun h => by rw [Bd.returns] at h; cases h)
                              refine own_done (retN X0 hx (t := .boolean) Bd.returns (by simp) (hb hby d2_119) hr) hrun hended ⟨_, _, rfl, ?_, ⟨_, rfl⟩, hW, hsame.mono (by decide) (by decide)⟩
                              show Q2 Z p1 h0 n0 _ s₁.heap _
                              rw [e0]
                              exact ⟨congrArg (fun z => some (Value.int z)) (show (1 : Int32) = (own_f2 p1) from by unfold own_f2; simp only [if_neg hc1, if_neg hc2, if_neg hc3, if_neg hc4, if_neg hc5, if_neg hc6, if_neg hc7, if_neg hc8, if_neg hc9, if_neg hc10, if_neg hc11, if_neg hc12, if_neg hc13, if_pos hc14]), N0, rfl⟩
                            · skip
                              refine own_step (fun t k => XS.icmpYes X0.here hx rfl (pc0 := 115) (pc' := 120) rfl (hb hby d2_115) rfl ((flt hc14).2.1) (by decide) (by decide) k) ?_
                              show own_G p.tables e below _ (s₁.setTop (mkF m 120 #[.val (.int p1)] []))
                              refine own_step (fun t k => XS.iloadN X0.here hx rfl (hb hby d2_120) rfl k) ?_
                              show own_G p.tables e below _ (s₁.setTop (mkF m 121 #[.val (.int p1)] [(.int p1)]))
                              refine own_step (fun t k => XS.sipush X0.here hx rfl (hb hby d2_121) k) ?_
                              show own_G p.tables e below _ (s₁.setTop (mkF m 124 #[.val (.int p1)] [(.int (895 : Int32)), (.int p1)]))
                              by_cases hc15 : p1 < (895 : Int32)
                              · skip
                                refine own_step (fun t k => XS.icmpNo X0.here hx rfl (hb hby d2_124) rfl ((tlt hc15).2.1) k) ?_
                                show own_G p.tables e below _ (s₁.setTop (mkF m 127 #[.val (.int p1)] []))
                                refine own_step (fun t k => XS.iconst X0.here hx rfl (hb hby d2_127) k) ?_
                                show own_G p.tables e below _ (s₁.setTop (mkF m 128 #[.val (.int p1)] [(.int (0 : Int32))]))
                                obtain ⟨fs, hr, hrun, hended, hW, hsame⟩ := X0.leave (v := some (.int (0 : Int32))) (fun h => by rw [Bd.returns] at h; cases h)
                                refine own_done (retN X0 hx (t := .boolean) Bd.returns (by simp) (hb hby d2_128) hr) hrun hended ⟨_, _, rfl, ?_, ⟨_, rfl⟩, hW, hsame.mono (by decide) (by decide)⟩
                                show Q2 Z p1 h0 n0 _ s₁.heap _
                                rw [e0]
                                exact ⟨congrArg (fun z => some (Value.int z)) (show (0 : Int32) = (own_f2 p1) from by unfold own_f2; simp only [if_neg hc1, if_neg hc2, if_neg hc3, if_neg hc4, if_neg hc5, if_neg hc6, if_neg hc7, if_neg hc8, if_neg hc9, if_neg hc10, if_neg hc11, if_neg hc12, if_neg hc13, if_neg hc14, if_pos hc15]), N0, rfl⟩
                              · skip
                                refine own_step (fun t k => XS.icmpYes X0.here hx rfl (pc0 := 124) (pc' := 129) rfl (hb hby d2_124) rfl ((flt hc15).2.1) (by decide) (by decide) k) ?_
                                show own_G p.tables e below _ (s₁.setTop (mkF m 129 #[.val (.int p1)] []))
                                refine own_step (fun t k => XS.iloadN X0.here hx rfl (hb hby d2_129) rfl k) ?_
                                show own_G p.tables e below _ (s₁.setTop (mkF m 130 #[.val (.int p1)] [(.int p1)]))
                                refine own_step (fun t k => XS.sipush X0.here hx rfl (hb hby d2_130) k) ?_
                                show own_G p.tables e below _ (s₁.setTop (mkF m 133 #[.val (.int p1)] [(.int (8192 : Int32)), (.int p1)]))
                                by_cases hc16 : p1 < (8192 : Int32)
                                · skip
                                  refine own_step (fun t k => XS.icmpNo X0.here hx rfl (hb hby d2_133) rfl ((tlt hc16).2.1) k) ?_
                                  show own_G p.tables e below _ (s₁.setTop (mkF m 136 #[.val (.int p1)] []))
                                  refine own_step (fun t k => XS.iconst X0.here hx rfl (hb hby d2_136) k) ?_
                                  show own_G p.tables e below _ (s₁.setTop (mkF m 137 #[.val (.int p1)] [(.int (1 : Int32))]))
                                  obtain ⟨fs, hr, hrun, hended, hW, hsame⟩ := X0.leave (v := some (.int (1 : Int32))) (fun h => by rw [Bd.returns] at h; cases h)
                                  refine own_done (retN X0 hx (t := .boolean) Bd.returns (by simp) (hb hby d2_137) hr) hrun hended ⟨_, _, rfl, ?_, ⟨_, rfl⟩, hW, hsame.mono (by decide) (by decide)⟩
                                  show Q2 Z p1 h0 n0 _ s₁.heap _
                                  rw [e0]
                                  exact ⟨congrArg (fun z => some (Value.int z)) (show (1 : Int32) = (own_f2 p1) from by unfold own_f2; simp only [if_neg hc1, if_neg hc2, if_neg hc3, if_neg hc4, if_neg hc5, if_neg hc6, if_neg hc7, if_neg hc8, if_neg hc9, if_neg hc10, if_neg hc11, if_neg hc12, if_neg hc13, if_neg hc14, if_neg hc15, if_pos hc16]), N0, rfl⟩
                                · skip
                                  refine own_step (fun t k => XS.icmpYes X0.here hx rfl (pc0 := 133) (pc' := 138) rfl (hb hby d2_133) rfl ((flt hc16).2.1) (by decide) (by decide) k) ?_
                                  show own_G p.tables e below _ (s₁.setTop (mkF m 138 #[.val (.int p1)] []))
                                  refine own_step (fun t k => XS.iloadN X0.here hx rfl (hb hby d2_138) rfl k) ?_
                                  show own_G p.tables e below _ (s₁.setTop (mkF m 139 #[.val (.int p1)] [(.int p1)]))
                                  refine own_step (fun t k => XS.sipush X0.here hx rfl (hb hby d2_139) k) ?_
                                  show own_G p.tables e below _ (s₁.setTop (mkF m 142 #[.val (.int p1)] [(.int (8204 : Int32)), (.int p1)]))
                                  by_cases hc17 : p1 < (8204 : Int32)
                                  · skip
                                    refine own_step (fun t k => XS.icmpNo X0.here hx rfl (hb hby d2_142) rfl ((tlt hc17).2.1) k) ?_
                                    show own_G p.tables e below _ (s₁.setTop (mkF m 145 #[.val (.int p1)] []))
                                    refine own_step (fun t k => XS.iconst X0.here hx rfl (hb hby d2_145) k) ?_
                                    show own_G p.tables e below _ (s₁.setTop (mkF m 146 #[.val (.int p1)] [(.int (0 : Int32))]))
                                    obtain ⟨fs, hr, hrun, hended, hW, hsame⟩ := X0.leave (v := some (.int (0 : Int32))) (fun h => by rw [Bd.returns] at h; cases h)
                                    refine own_done (retN X0 hx (t := .boolean) Bd.returns (by simp) (hb hby d2_146) hr) hrun hended ⟨_, _, rfl, ?_, ⟨_, rfl⟩, hW, hsame.mono (by decide) (by decide)⟩
                                    show Q2 Z p1 h0 n0 _ s₁.heap _
                                    rw [e0]
                                    exact ⟨congrArg (fun z => some (Value.int z)) (show (0 : Int32) = (own_f2 p1) from by unfold own_f2; simp only [if_neg hc1, if_neg hc2, if_neg hc3, if_neg hc4, if_neg hc5, if_neg hc6, if_neg hc7, if_neg hc8, if_neg hc9, if_neg hc10, if_neg hc11, if_neg hc12, if_neg hc13, if_neg hc14, if_neg hc15, if_neg hc16, if_pos hc17]), N0, rfl⟩
                                  · skip
                                    refine own_step (fun t k => XS.icmpYes X0.here hx rfl (pc0 := 142) (pc' := 147) rfl (hb hby d2_142) rfl ((flt hc17).2.1) (by decide) (by decide) k) ?_
                                    show own_G p.tables e below _ (s₁.setTop (mkF m 147 #[.val (.int p1)] []))
                                    refine own_step (fun t k => XS.iloadN X0.here hx rfl (hb hby d2_147) rfl k) ?_
                                    show own_G p.tables e below _ (s₁.setTop (mkF m 148 #[.val (.int p1)] [(.int p1)]))
                                    refine own_step (fun t k => XS.sipush X0.here hx rfl (hb hby d2_148) k) ?_
                                    show own_G p.tables e below _ (s₁.setTop (mkF m 151 #[.val (.int p1)] [(.int (8206 : Int32)), (.int p1)]))
                                    by_cases hc18 : p1 < (8206 : Int32)
                                    · skip
                                      refine own_step (fun t k => XS.icmpNo X0.here hx rfl (hb hby d2_151) rfl ((tlt hc18).2.1) k) ?_
                                      show own_G p.tables e below _ (s₁.setTop (mkF m 154 #[.val (.int p1)] []))
                                      refine own_step (fun t k => XS.iconst X0.here hx rfl (hb hby d2_154) k) ?_
                                      show own_G p.tables e below _ (s₁.setTop (mkF m 155 #[.val (.int p1)] [(.int (1 : Int32))]))
                                      obtain ⟨fs, hr, hrun, hended, hW, hsame⟩ := X0.leave (v := some (.int (1 : Int32))) (fun h => by rw [Bd.returns] at h; cases h)
                                      refine own_done (retN X0 hx (t := .boolean) Bd.returns (by simp) (hb hby d2_155) hr) hrun hended ⟨_, _, rfl, ?_, ⟨_, rfl⟩, hW, hsame.mono (by decide) (by decide)⟩
                                      show Q2 Z p1 h0 n0 _ s₁.heap _
                                      rw [e0]
                                      exact ⟨congrArg (fun z => some (Value.int z)) (show (1 : Int32) = (own_f2 p1) from by unfold own_f2; simp only [if_neg hc1, if_neg hc2, if_neg hc3, if_neg hc4, if_neg hc5, if_neg hc6, if_neg hc7, if_neg hc8, if_neg hc9, if_neg hc10, if_neg hc11, if_neg hc12, if_neg hc13, if_neg hc14, if_neg hc15, if_neg hc16, if_neg hc17, if_pos hc18]), N0, rfl⟩
                                    · skip
                                      refine own_step (fun t k => XS.icmpYes X0.here hx rfl (pc0 := 151) (pc' := 156) rfl (hb hby d2_151) rfl ((flt hc18).2.1) (by decide) (by decide) k) ?_
                                      show own_G p.tables e below _ (s₁.setTop (mkF m 156 #[.val (.int p1)] []))
                                      refine own_step (fun t k => XS.iloadN X0.here hx rfl (hb hby d2_156) rfl k) ?_
                                      show own_G p.tables e below _ (s₁.setTop (mkF m 157 #[.val (.int p1)] [(.int p1)]))
                                      refine own_step (fun t k => XS.sipush X0.here hx rfl (hb hby d2_157) k) ?_
                                      show own_G p.tables e below _ (s₁.setTop (mkF m 160 #[.val (.int p1)] [(.int (8304 : Int32)), (.int p1)]))
                                      by_cases hc19 : p1 < (8304 : Int32)
                                      · skip
                                        refine own_step (fun t k => XS.icmpNo X0.here hx rfl (hb hby d2_160) rfl ((tlt hc19).2.1) k) ?_
                                        show own_G p.tables e below _ (s₁.setTop (mkF m 163 #[.val (.int p1)] []))
                                        refine own_step (fun t k => XS.iconst X0.here hx rfl (hb hby d2_163) k) ?_
                                        show own_G p.tables e below _ (s₁.setTop (mkF m 164 #[.val (.int p1)] [(.int (0 : Int32))]))
                                        obtain ⟨fs, hr, hrun, hended, hW, hsame⟩ := X0.leave (v := some (.int (0 : Int32))) (fun h => by rw [Bd.returns] at h; cases h)
                                        refine own_done (retN X0 hx (t := .boolean) Bd.returns (by simp) (hb hby d2_164) hr) hrun hended ⟨_, _, rfl, ?_, ⟨_, rfl⟩, hW, hsame.mono (by decide) (by decide)⟩
                                        show Q2 Z p1 h0 n0 _ s₁.heap _
                                        rw [e0]
                                        exact ⟨congrArg (fun z => some (Value.int z)) (show (0 : Int32) = (own_f2 p1) from by unfold own_f2; simp only [if_neg hc1, if_neg hc2, if_neg hc3, if_neg hc4, if_neg hc5, if_neg hc6, if_neg hc7, if_neg hc8, if_neg hc9, if_neg hc10, if_neg hc11, if_neg hc12, if_neg hc13, if_neg hc14, if_neg hc15, if_neg hc16, if_neg hc17, if_neg hc18, if_pos hc19]), N0, rfl⟩
                                      · skip
                                        refine own_step (fun t k => XS.icmpYes X0.here hx rfl (pc0 := 160) (pc' := 165) rfl (hb hby d2_160) rfl ((flt hc19).2.1) (by decide) (by decide) k) ?_
                                        show own_G p.tables e below _ (s₁.setTop (mkF m 165 #[.val (.int p1)] []))
                                        refine own_step (fun t k => XS.iloadN X0.here hx rfl (hb hby d2_165) rfl k) ?_
                                        show own_G p.tables e below _ (s₁.setTop (mkF m 166 #[.val (.int p1)] [(.int p1)]))
                                        refine own_step (fun t k => XS.sipush X0.here hx rfl (hb hby d2_166) k) ?_
                                        show own_G p.tables e below _ (s₁.setTop (mkF m 169 #[.val (.int p1)] [(.int (8592 : Int32)), (.int p1)]))
                                        by_cases hc20 : p1 < (8592 : Int32)
                                        · skip
                                          refine own_step (fun t k => XS.icmpNo X0.here hx rfl (hb hby d2_169) rfl ((tlt hc20).2.1) k) ?_
                                          show own_G p.tables e below _ (s₁.setTop (mkF m 172 #[.val (.int p1)] []))
                                          refine own_step (fun t k => XS.iconst X0.here hx rfl (hb hby d2_172) k) ?_
                                          show own_G p.tables e below _ (s₁.setTop (mkF m 173 #[.val (.int p1)] [(.int (1 : Int32))]))
                                          obtain ⟨fs, hr, hrun, hended, hW, hsame⟩ := X0.leave (v := some (.int (1 : Int32))) (fun h => by rw [Bd.returns] at h; cases h)
                                          refine own_done (retN X0 hx (t := .boolean) Bd.returns (by simp) (hb hby d2_173) hr) hrun hended ⟨_, _, rfl, ?_, ⟨_, rfl⟩, hW, hsame.mono (by decide) (by decide)⟩
                                          show Q2 Z p1 h0 n0 _ s₁.heap _
                                          rw [e0]
                                          exact ⟨congrArg (fun z => some (Value.int z)) (show (1 : Int32) = (own_f2 p1) from by unfold own_f2; simp only [if_neg hc1, if_neg hc2, if_neg hc3, if_neg hc4, if_neg hc5, if_neg hc6, if_neg hc7, if_neg hc8, if_neg hc9, if_neg hc10, if_neg hc11, if_neg hc12, if_neg hc13, if_neg hc14, if_neg hc15, if_neg hc16, if_neg hc17, if_neg hc18, if_neg hc19, if_pos hc20]), N0, rfl⟩
                                        · skip
                                          refine own_step (fun t k => XS.icmpYes X0.here hx rfl (pc0 := 169) (pc' := 174) rfl (hb hby d2_169) rfl ((flt hc20).2.1) (by decide) (by decide) k) ?_
                                          show own_G p.tables e below _ (s₁.setTop (mkF m 174 #[.val (.int p1)] []))
                                          refine own_step (fun t k => XS.iloadN X0.here hx rfl (hb hby d2_174) rfl k) ?_
                                          show own_G p.tables e below _ (s₁.setTop (mkF m 175 #[.val (.int p1)] [(.int p1)]))
                                          refine own_step (fun t k => XS.sipush X0.here hx rfl (hb hby d2_175) k) ?_
                                          show own_G p.tables e below _ (s₁.setTop (mkF m 178 #[.val (.int p1)] [(.int (11264 : Int32)), (.int p1)]))
                                          by_cases hc21 : p1 < (11264 : Int32)
                                          · skip
                                            refine own_step (fun t k => XS.icmpNo X0.here hx rfl (hb hby d2_178) rfl ((tlt hc21).2.1) k) ?_
                                            show own_G p.tables e below _ (s₁.setTop (mkF m 181 #[.val (.int p1)] []))
                                            refine own_step (fun t k => XS.iconst X0.here hx rfl (hb hby d2_181) k) ?_
                                            show own_G p.tables e below _ (s₁.setTop (mkF m 182 #[.val (.int p1)] [(.int (0 : Int32))]))
                                            obtain ⟨fs, hr, hrun, hended, hW, hsame⟩ := X0.leave (v := some (.int (0 : Int32))) (fun h => by rw [Bd.returns] at h; cases h)
                                            refine own_done (retN X0 hx (t := .boolean) Bd.returns (by simp) (hb hby d2_182) hr) hrun hended ⟨_, _, rfl, ?_, ⟨_, rfl⟩, hW, hsame.mono (by decide) (by decide)⟩
                                            show Q2 Z p1 h0 n0 _ s₁.heap _
                                            rw [e0]
                                            exact ⟨congrArg (fun z => some (Value.int z)) (show (0 : Int32) = (own_f2 p1) from by unfold own_f2; simp only [if_neg hc1, if_neg hc2, if_neg hc3, if_neg hc4, if_neg hc5, if_neg hc6, if_neg hc7, if_neg hc8, if_neg hc9, if_neg hc10, if_neg hc11, if_neg hc12, if_neg hc13, if_neg hc14, if_neg hc15, if_neg hc16, if_neg hc17, if_neg hc18, if_neg hc19, if_neg hc20, if_pos hc21]), N0, rfl⟩
                                          · skip
                                            refine own_step (fun t k => XS.icmpYes X0.here hx rfl (pc0 := 178) (pc' := 183) rfl (hb hby d2_178) rfl ((flt hc21).2.1) (by decide) (by decide) k) ?_
                                            show own_G p.tables e below _ (s₁.setTop (mkF m 183 #[.val (.int p1)] []))
                                            refine own_step (fun t k => XS.iloadN X0.here hx rfl (hb hby d2_183) rfl k) ?_
                                            show own_G p.tables e below _ (s₁.setTop (mkF m 184 #[.val (.int p1)] [(.int p1)]))
                                            refine own_step (fun t k => XS.sipush X0.here hx rfl (hb hby d2_184) k) ?_
                                            show own_G p.tables e below _ (s₁.setTop (mkF m 187 #[.val (.int p1)] [(.int (12272 : Int32)), (.int p1)]))
                                            by_cases hc22 : p1 < (12272 : Int32)
                                            · skip
                                              refine own_step (fun t k => XS.icmpNo X0.here hx rfl (hb hby d2_187) rfl ((tlt hc22).2.1) k) ?_
                                              show own_G p.tables e below _ (s₁.setTop (mkF m 190 #[.val (.int p1)] []))
                                              refine own_step (fun t k => XS.iconst X0.here hx rfl (hb hby d2_190) k) ?_
                                              show own_G p.tables e below _ (s₁.setTop (mkF m 191 #[.val (.int p1)] [(.int (1 : Int32))]))
                                              obtain ⟨fs, hr, hrun, hended, hW, hsame⟩ := X0.leave (v := some (.int (1 : Int32))) (fun h => by rw [Bd.returns] at h; cases h)
                                              refine own_done (retN X0 hx (t := .boolean) Bd.returns (by simp) (hb hby d2_191) hr) hrun hended ⟨_, _, rfl, ?_, ⟨_, rfl⟩, hW, hsame.mono (by decide) (by decide)⟩
                                              show Q2 Z p1 h0 n0 _ s₁.heap _
                                              rw [e0]
                                              exact ⟨congrArg (fun z => some (Value.int z)) (show (1 : Int32) = (own_f2 p1) from by unfold own_f2; simp only [if_neg hc1, if_neg hc2, if_neg hc3, if_neg hc4, if_neg hc5, if_neg hc6, if_neg hc7, if_neg hc8, if_neg hc9, if_neg hc10, if_neg hc11, if_neg hc12, if_neg hc13, if_neg hc14, if_neg hc15, if_neg hc16, if_neg hc17, if_neg hc18, if_neg hc19, if_neg hc20, if_neg hc21, if_pos hc22]), N0, rfl⟩
                                            · skip
                                              refine own_step (fun t k => XS.icmpYes X0.here hx rfl (pc0 := 187) (pc' := 192) rfl (hb hby d2_187) rfl ((flt hc22).2.1) (by decide) (by decide) k) ?_
                                              show own_G p.tables e below _ (s₁.setTop (mkF m 192 #[.val (.int p1)] []))
                                              refine own_step (fun t k => XS.iloadN X0.here hx rfl (hb hby d2_192) rfl k) ?_
                                              show own_G p.tables e below _ (s₁.setTop (mkF m 193 #[.val (.int p1)] [(.int p1)]))
                                              refine own_step (fun t k => XS.sipush X0.here hx rfl (hb hby d2_193) k) ?_
                                              show own_G p.tables e below _ (s₁.setTop (mkF m 196 #[.val (.int p1)] [(.int (12289 : Int32)), (.int p1)]))
                                              by_cases hc23 : p1 < (12289 : Int32)
                                              · skip
                                                refine own_step (fun t k => XS.icmpNo X0.here hx rfl (hb hby d2_196) rfl ((tlt hc23).2.1) k) ?_
                                                show own_G p.tables e below _ (s₁.setTop (mkF m 199 #[.val (.int p1)] []))
                                                refine own_step (fun t k => XS.iconst X0.here hx rfl (hb hby d2_199) k) ?_
                                                show own_G p.tables e below _ (s₁.setTop (mkF m 200 #[.val (.int p1)] [(.int (0 : Int32))]))
                                                obtain ⟨fs, hr, hrun, hended, hW, hsame⟩ := X0.leave (v := some (.int (0 : Int32))) (fun h => by rw [Bd.returns] at h; cases h)
                                                refine own_done (retN X0 hx (t := .boolean) Bd.returns (by simp) (hb hby d2_200) hr) hrun hended ⟨_, _, rfl, ?_, ⟨_, rfl⟩, hW, hsame.mono (by decide) (by decide)⟩
                                                show Q2 Z p1 h0 n0 _ s₁.heap _
                                                rw [e0]
                                                exact ⟨congrArg (fun z => some (Value.int z)) (show (0 : Int32) = (own_f2 p1) from by unfold own_f2; simp only [if_neg hc1, if_neg hc2, if_neg hc3, if_neg hc4, if_neg hc5, if_neg hc6, if_neg hc7, if_neg hc8, if_neg hc9, if_neg hc10, if_neg hc11, if_neg hc12, if_neg hc13, if_neg hc14, if_neg hc15, if_neg hc16, if_neg hc17, if_neg hc18, if_neg hc19, if_neg hc20, if_neg hc21, if_neg hc22, if_pos hc23]), N0, rfl⟩
                                              · skip
                                                refine own_step (fun t k => XS.icmpYes X0.here hx rfl (pc0 := 196) (pc' := 201) rfl (hb hby d2_196) rfl ((flt hc23).2.1) (by decide) (by decide) k) ?_
                                                show own_G p.tables e below _ (s₁.setTop (mkF m 201 #[.val (.int p1)] []))
                                                refine own_step (fun t k => XS.iloadN X0.here hx rfl (hb hby d2_201) rfl k) ?_
                                                show own_G p.tables e below _ (s₁.setTop (mkF m 202 #[.val (.int p1)] [(.int p1)]))
                                                refine own_step (X0.ldcInt hx hown (mvT hZ (hw _ (List.mem_of_getElem? (i := 1) rfl))) (g := (mkF m 202 #[.val (.int p1)] [(.int p1)])) rfl (hb hby d2_202)) ?_
                                                show own_G p.tables e below _ (s₁.setTop (mkF m 204 #[.val (.int p1)] [(.int (55296 : Int32)), (.int p1)]))
                                                by_cases hc24 : p1 < (55296 : Int32)
                                                · skip
                                                  refine own_step (fun t k => XS.icmpNo X0.here hx rfl (hb hby d2_204) rfl ((tlt hc24).2.1) k) ?_
                                                  show own_G p.tables e below _ (s₁.setTop (mkF m 207 #[.val (.int p1)] []))
                                                  refine own_step (fun t k => XS.iconst X0.here hx rfl (hb hby d2_207) k) ?_
                                                  show own_G p.tables e below _ (s₁.setTop (mkF m 208 #[.val (.int p1)] [(.int (1 : Int32))]))
                                                  obtain ⟨fs, hr, hrun, hended, hW, hsame⟩ := X0.leave (v := some (.int (1 : Int32))) (fun h => by rw [Bd.returns] at h; cases h)
                                                  refine own_done (retN X0 hx (t := .boolean) Bd.returns (by simp) (hb hby d2_208) hr) hrun hended ⟨_, _, rfl, ?_, ⟨_, rfl⟩, hW, hsame.mono (by decide) (by decide)⟩
                                                  show Q2 Z p1 h0 n0 _ s₁.heap _
                                                  rw [e0]
                                                  exact ⟨congrArg (fun z => some (Value.int z)) (show (1 : Int32) = (own_f2 p1) from by unfold own_f2; simp only [if_neg hc1, if_neg hc2, if_neg hc3, if_neg hc4, if_neg hc5, if_neg hc6, if_neg hc7, if_neg hc8, if_neg hc9, if_neg hc10, if_neg hc11, if_neg hc12, if_neg hc13, if_neg hc14, if_neg hc15, if_neg hc16, if_neg hc17, if_neg hc18, if_neg hc19, if_neg hc20, if_neg hc21, if_neg hc22, if_neg hc23, if_pos hc24]), N0, rfl⟩
                                                · skip
                                                  refine own_step (fun t k => XS.icmpYes X0.here hx rfl (pc0 := 204) (pc' := 209) rfl (hb hby d2_204) rfl ((flt hc24).2.1) (by decide) (by decide) k) ?_
                                                  show own_G p.tables e below _ (s₁.setTop (mkF m 209 #[.val (.int p1)] []))
                                                  refine own_step (fun t k => XS.iloadN X0.here hx rfl (hb hby d2_209) rfl k) ?_
                                                  show own_G p.tables e below _ (s₁.setTop (mkF m 210 #[.val (.int p1)] [(.int p1)]))
                                                  refine own_step (X0.ldcInt hx hown (mvT hZ (hw _ (List.mem_of_getElem? (i := 2) rfl))) (g := (mkF m 210 #[.val (.int p1)] [(.int p1)])) rfl (hb hby d2_210)) ?_
                                                  show own_G p.tables e below _ (s₁.setTop (mkF m 212 #[.val (.int p1)] [(.int (63744 : Int32)), (.int p1)]))
                                                  by_cases hc25 : p1 < (63744 : Int32)
                                                  · skip
                                                    refine own_step (fun t k => XS.icmpNo X0.here hx rfl (hb hby d2_212) rfl ((tlt hc25).2.1) k) ?_
                                                    show own_G p.tables e below _ (s₁.setTop (mkF m 215 #[.val (.int p1)] []))
                                                    refine own_step (fun t k => XS.iconst X0.here hx rfl (hb hby d2_215) k) ?_
                                                    show own_G p.tables e below _ (s₁.setTop (mkF m 216 #[.val (.int p1)] [(.int (0 : Int32))]))
                                                    obtain ⟨fs, hr, hrun, hended, hW, hsame⟩ := X0.leave (v := some (.int (0 : Int32))) (fun h => by rw [Bd.returns] at h; cases h)
                                                    refine own_done (retN X0 hx (t := .boolean) Bd.returns (by simp) (hb hby d2_216) hr) hrun hended ⟨_, _, rfl, ?_, ⟨_, rfl⟩, hW, hsame.mono (by decide) (by decide)⟩
                                                    show Q2 Z p1 h0 n0 _ s₁.heap _
                                                    rw [e0]
                                                    exact ⟨congrArg (fun z => some (Value.int z)) (show (0 : Int32) = (own_f2 p1) from by unfold own_f2; simp only [if_neg hc1, if_neg hc2, if_neg hc3, if_neg hc4, if_neg hc5, if_neg hc6, if_neg hc7, if_neg hc8, if_neg hc9, if_neg hc10, if_neg hc11, if_neg hc12, if_neg hc13, if_neg hc14, if_neg hc15, if_neg hc16, if_neg hc17, if_neg hc18, if_neg hc19, if_neg hc20, if_neg hc21, if_neg hc22, if_neg hc23, if_neg hc24, if_pos hc25]), N0, rfl⟩
                                                  · skip
                                                    refine own_step (fun t k => XS.icmpYes X0.here hx rfl (pc0 := 212) (pc' := 217) rfl (hb hby d2_212) rfl ((flt hc25).2.1) (by decide) (by decide) k) ?_
                                                    show own_G p.tables e below _ (s₁.setTop (mkF m 217 #[.val (.int p1)] []))
                                                    refine own_step (fun t k => XS.iloadN X0.here hx rfl (hb hby d2_217) rfl k) ?_
                                                    show own_G p.tables e below _ (s₁.setTop (mkF m 218 #[.val (.int p1)] [(.int p1)]))
                                                    refine own_step (X0.ldcInt hx hown (mvT hZ (hw _ (List.mem_of_getElem? (i := 3) rfl))) (g := (mkF m 218 #[.val (.int p1)] [(.int p1)])) rfl (hb hby d2_218)) ?_
                                                    show own_G p.tables e below _ (s₁.setTop (mkF m 220 #[.val (.int p1)] [(.int (64976 : Int32)), (.int p1)]))
                                                    by_cases hc26 : p1 < (64976 : Int32)
                                                    · skip
                                                      refine own_step (fun t k => XS.icmpNo X0.here hx rfl (hb hby d2_220) rfl ((tlt hc26).2.1) k) ?_
                                                      show own_G p.tables e below _ (s₁.setTop (mkF m 223 #[.val (.int p1)] []))
                                                      refine own_step (fun t k => XS.iconst X0.here hx rfl (hb hby d2_223) k) ?_
                                                      show own_G p.tables e below _ (s₁.setTop (mkF m 224 #[.val (.int p1)] [(.int (1 : Int32))]))
                                                      obtain ⟨fs, hr, hrun, hended, hW, hsame⟩ := X0.leave (v := some (.int (1 : Int32))) (fun h => by rw [Bd.returns] at h; cases h)
                                                      refine own_done (retN X0 hx (t := .boolean) Bd.returns (by simp) (hb hby d2_224) hr) hrun hended ⟨_, _, rfl, ?_, ⟨_, rfl⟩, hW, hsame.mono (by decide) (by decide)⟩
                                                      show Q2 Z p1 h0 n0 _ s₁.heap _
                                                      rw [e0]
                                                      exact ⟨congrArg (fun z => some (Value.int z)) (show (1 : Int32) = (own_f2 p1) from by unfold own_f2; simp only [if_neg hc1, if_neg hc2, if_neg hc3, if_neg hc4, if_neg hc5, if_neg hc6, if_neg hc7, if_neg hc8, if_neg hc9, if_neg hc10, if_neg hc11, if_neg hc12, if_neg hc13, if_neg hc14, if_neg hc15, if_neg hc16, if_neg hc17, if_neg hc18, if_neg hc19, if_neg hc20, if_neg hc21, if_neg hc22, if_neg hc23, if_neg hc24, if_neg hc25, if_pos hc26]), N0, rfl⟩
                                                    · skip
                                                      refine own_step (fun t k => XS.icmpYes X0.here hx rfl (pc0 := 220) (pc' := 225) rfl (hb hby d2_220) rfl ((flt hc26).2.1) (by decide) (by decide) k) ?_
                                                      show own_G p.tables e below _ (s₁.setTop (mkF m 225 #[.val (.int p1)] []))
                                                      refine own_step (fun t k => XS.iloadN X0.here hx rfl (hb hby d2_225) rfl k) ?_
                                                      show own_G p.tables e below _ (s₁.setTop (mkF m 226 #[.val (.int p1)] [(.int p1)]))
                                                      refine own_step (X0.ldcInt hx hown (mvT hZ (hw _ (List.mem_of_getElem? (i := 4) rfl))) (g := (mkF m 226 #[.val (.int p1)] [(.int p1)])) rfl (hb hby d2_226)) ?_
                                                      show own_G p.tables e below _ (s₁.setTop (mkF m 228 #[.val (.int p1)] [(.int (65008 : Int32)), (.int p1)]))
                                                      by_cases hc27 : p1 < (65008 : Int32)
                                                      · skip
                                                        refine own_step (fun t k => XS.icmpNo X0.here hx rfl (hb hby d2_228) rfl ((tlt hc27).2.1) k) ?_
                                                        show own_G p.tables e below _ (s₁.setTop (mkF m 231 #[.val (.int p1)] []))
                                                        refine own_step (fun t k => XS.iconst X0.here hx rfl (hb hby d2_231) k) ?_
                                                        show own_G p.tables e below _ (s₁.setTop (mkF m 232 #[.val (.int p1)] [(.int (0 : Int32))]))
                                                        obtain ⟨fs, hr, hrun, hended, hW, hsame⟩ := X0.leave (v := some (.int (0 : Int32))) (fun h => by rw [Bd.returns] at h; cases h)
                                                        refine own_done (retN X0 hx (t := .boolean) Bd.returns (by simp) (hb hby d2_232) hr) hrun hended ⟨_, _, rfl, ?_, ⟨_, rfl⟩, hW, hsame.mono (by decide) (by decide)⟩
                                                        show Q2 Z p1 h0 n0 _ s₁.heap _
                                                        rw [e0]
                                                        exact ⟨congrArg (fun z => some (Value.int z)) (show (0 : Int32) = (own_f2 p1) from by unfold own_f2; simp only [if_neg hc1, if_neg hc2, if_neg hc3, if_neg hc4, if_neg hc5, if_neg hc6, if_neg hc7, if_neg hc8, if_neg hc9, if_neg hc10, if_neg hc11, if_neg hc12, if_neg hc13, if_neg hc14, if_neg hc15, if_neg hc16, if_neg hc17, if_neg hc18, if_neg hc19, if_neg hc20, if_neg hc21, if_neg hc22, if_neg hc23, if_neg hc24, if_neg hc25, if_neg hc26, if_pos hc27]), N0, rfl⟩
                                                      · skip
                                                        refine own_step (fun t k => XS.icmpYes X0.here hx rfl (pc0 := 228) (pc' := 233) rfl (hb hby d2_228) rfl ((flt hc27).2.1) (by decide) (by decide) k) ?_
                                                        show own_G p.tables e below _ (s₁.setTop (mkF m 233 #[.val (.int p1)] []))
                                                        refine own_step (fun t k => XS.iloadN X0.here hx rfl (hb hby d2_233) rfl k) ?_
                                                        show own_G p.tables e below _ (s₁.setTop (mkF m 234 #[.val (.int p1)] [(.int p1)]))
                                                        refine own_step (X0.ldcInt hx hown (mvT hZ (hw _ (List.mem_of_getElem? (i := 5) rfl))) (g := (mkF m 234 #[.val (.int p1)] [(.int p1)])) rfl (hb hby d2_234)) ?_
                                                        show own_G p.tables e below _ (s₁.setTop (mkF m 236 #[.val (.int p1)] [(.int (65534 : Int32)), (.int p1)]))
                                                        by_cases hc28 : p1 < (65534 : Int32)
                                                        · skip
                                                          refine own_step (fun t k => XS.icmpNo X0.here hx rfl (hb hby d2_236) rfl ((tlt hc28).2.1) k) ?_
                                                          show own_G p.tables e below _ (s₁.setTop (mkF m 239 #[.val (.int p1)] []))
                                                          refine own_step (fun t k => XS.iconst X0.here hx rfl (hb hby d2_239) k) ?_
                                                          show own_G p.tables e below _ (s₁.setTop (mkF m 240 #[.val (.int p1)] [(.int (1 : Int32))]))
                                                          obtain ⟨fs, hr, hrun, hended, hW, hsame⟩ := X0.leave (v := some (.int (1 : Int32))) (fun h => by rw [Bd.returns] at h; cases h)
                                                          refine own_done (retN X0 hx (t := .boolean) Bd.returns (by simp) (hb hby d2_240) hr) hrun hended ⟨_, _, rfl, ?_, ⟨_, rfl⟩, hW, hsame.mono (by decide) (by decide)⟩
                                                          show Q2 Z p1 h0 n0 _ s₁.heap _
                                                          rw [e0]
                                                          exact ⟨congrArg (fun z => some (Value.int z)) (show (1 : Int32) = (own_f2 p1) from by unfold own_f2; simp only [if_neg hc1, if_neg hc2, if_neg hc3, if_neg hc4, if_neg hc5, if_neg hc6, if_neg hc7, if_neg hc8, if_neg hc9, if_neg hc10, if_neg hc11, if_neg hc12, if_neg hc13, if_neg hc14, if_neg hc15, if_neg hc16, if_neg hc17, if_neg hc18, if_neg hc19, if_neg hc20, if_neg hc21, if_neg hc22, if_neg hc23, if_neg hc24, if_neg hc25, if_neg hc26, if_neg hc27, if_pos hc28]), N0, rfl⟩
                                                        · skip
                                                          refine own_step (fun t k => XS.icmpYes X0.here hx rfl (pc0 := 236) (pc' := 241) rfl (hb hby d2_236) rfl ((flt hc28).2.1) (by decide) (by decide) k) ?_
                                                          show own_G p.tables e below _ (s₁.setTop (mkF m 241 #[.val (.int p1)] []))
                                                          refine own_step (fun t k => XS.iloadN X0.here hx rfl (hb hby d2_241) rfl k) ?_
                                                          show own_G p.tables e below _ (s₁.setTop (mkF m 242 #[.val (.int p1)] [(.int p1)]))
                                                          refine own_step (X0.ldcInt hx hown (mvT hZ (hw _ (List.mem_of_getElem? (i := 6) rfl))) (g := (mkF m 242 #[.val (.int p1)] [(.int p1)])) rfl (hb hby d2_242)) ?_
                                                          show own_G p.tables e below _ (s₁.setTop (mkF m 244 #[.val (.int p1)] [(.int (65536 : Int32)), (.int p1)]))
                                                          by_cases hc29 : p1 < (65536 : Int32)
                                                          · skip
                                                            refine own_step (fun t k => XS.icmpNo X0.here hx rfl (hb hby d2_244) rfl ((tlt hc29).2.1) k) ?_
                                                            show own_G p.tables e below _ (s₁.setTop (mkF m 247 #[.val (.int p1)] []))
                                                            refine own_step (fun t k => XS.iconst X0.here hx rfl (hb hby d2_247) k) ?_
                                                            show own_G p.tables e below _ (s₁.setTop (mkF m 248 #[.val (.int p1)] [(.int (0 : Int32))]))
                                                            obtain ⟨fs, hr, hrun, hended, hW, hsame⟩ := X0.leave (v := some (.int (0 : Int32))) (fun h => by rw [Bd.returns] at h; cases h)
                                                            refine own_done (retN X0 hx (t := .boolean) Bd.returns (by simp) (hb hby d2_248) hr) hrun hended ⟨_, _, rfl, ?_, ⟨_, rfl⟩, hW, hsame.mono (by decide) (by decide)⟩
                                                            show Q2 Z p1 h0 n0 _ s₁.heap _
                                                            rw [e0]
                                                            exact ⟨congrArg (fun z => some (Value.int z)) (show (0 : Int32) = (own_f2 p1) from by unfold own_f2; simp only [if_neg hc1, if_neg hc2, if_neg hc3, if_neg hc4, if_neg hc5, if_neg hc6, if_neg hc7, if_neg hc8, if_neg hc9, if_neg hc10, if_neg hc11, if_neg hc12, if_neg hc13, if_neg hc14, if_neg hc15, if_neg hc16, if_neg hc17, if_neg hc18, if_neg hc19, if_neg hc20, if_neg hc21, if_neg hc22, if_neg hc23, if_neg hc24, if_neg hc25, if_neg hc26, if_neg hc27, if_neg hc28, if_pos hc29]), N0, rfl⟩
                                                          · skip
                                                            refine own_step (fun t k => XS.icmpYes X0.here hx rfl (pc0 := 244) (pc' := 249) rfl (hb hby d2_244) rfl ((flt hc29).2.1) (by decide) (by decide) k) ?_
                                                            show own_G p.tables e below _ (s₁.setTop (mkF m 249 #[.val (.int p1)] []))
                                                            refine own_step (fun t k => XS.iloadN X0.here hx rfl (hb hby d2_249) rfl k) ?_
                                                            show own_G p.tables e below _ (s₁.setTop (mkF m 250 #[.val (.int p1)] [(.int p1)]))
                                                            refine own_step (X0.ldcInt hx hown (mvT hZ (hw _ (List.mem_of_getElem? (i := 7) rfl))) (g := (mkF m 250 #[.val (.int p1)] [(.int p1)])) rfl (hb hby d2_250)) ?_
                                                            show own_G p.tables e below _ (s₁.setTop (mkF m 252 #[.val (.int p1)] [(.int (983040 : Int32)), (.int p1)]))
                                                            by_cases hc30 : p1 < (983040 : Int32)
                                                            · skip
                                                              refine own_step (fun t k => XS.icmpNo X0.here hx rfl (hb hby d2_252) rfl ((tlt hc30).2.1) k) ?_
                                                              show own_G p.tables e below _ (s₁.setTop (mkF m 255 #[.val (.int p1)] []))
                                                              refine own_step (fun t k => XS.iconst X0.here hx rfl (hb hby d2_255) k) ?_
                                                              show own_G p.tables e below _ (s₁.setTop (mkF m 256 #[.val (.int p1)] [(.int (1 : Int32))]))
                                                              refine own_step (fun t k => XS.goto X0.here hx rfl (pc0 := 256) (pc' := 260) rfl (hb hby d2_256) (by decide) (by decide) k) ?_
                                                              show own_G p.tables e below _ (s₁.setTop (mkF m 260 #[.val (.int p1)] [(.int (1 : Int32))]))
                                                              obtain ⟨fs, hr, hrun, hended, hW, hsame⟩ := X0.leave (v := some (.int (1 : Int32))) (fun h => by rw [Bd.returns] at h; cases h)
                                                              refine own_done (retN X0 hx (t := .boolean) Bd.returns (by simp) (hb hby d2_260) hr) hrun hended ⟨_, _, rfl, ?_, ⟨_, rfl⟩, hW, hsame.mono (by decide) (by decide)⟩
                                                              show Q2 Z p1 h0 n0 _ s₁.heap _
                                                              rw [e0]
                                                              exact ⟨congrArg (fun z => some (Value.int z)) (show (1 : Int32) = (own_f2 p1) from by unfold own_f2; simp only [if_neg hc1, if_neg hc2, if_neg hc3, if_neg hc4, if_neg hc5, if_neg hc6, if_neg hc7, if_neg hc8, if_neg hc9, if_neg hc10, if_neg hc11, if_neg hc12, if_neg hc13, if_neg hc14, if_neg hc15, if_neg hc16, if_neg hc17, if_neg hc18, if_neg hc19, if_neg hc20, if_neg hc21, if_neg hc22, if_neg hc23, if_neg hc24, if_neg hc25, if_neg hc26, if_neg hc27, if_neg hc28, if_neg hc29, if_pos hc30]), N0, rfl⟩
                                                            · skip
                                                              refine own_step (fun t k => XS.icmpYes X0.here hx rfl (pc0 := 252) (pc' := 259) rfl (hb hby d2_252) rfl ((flt hc30).2.1) (by decide) (by decide) k) ?_
                                                              show own_G p.tables e below _ (s₁.setTop (mkF m 259 #[.val (.int p1)] []))
                                                              refine own_step (fun t k => XS.iconst X0.here hx rfl (hb hby d2_259) k) ?_
                                                              show own_G p.tables e below _ (s₁.setTop (mkF m 260 #[.val (.int p1)] [(.int (0 : Int32))]))
                                                              obtain ⟨fs, hr, hrun, hended, hW, hsame⟩ := X0.leave (v := some (.int (0 : Int32))) (fun h => by rw [Bd.returns] at h; cases h)
                                                              refine own_done (retN X0 hx (t := .boolean) Bd.returns (by simp) (hb hby d2_260) hr) hrun hended ⟨_, _, rfl, ?_, ⟨_, rfl⟩, hW, hsame.mono (by decide) (by decide)⟩
                                                              show Q2 Z p1 h0 n0 _ s₁.heap _
                                                              rw [e0]
                                                              exact ⟨congrArg (fun z => some (Value.int z)) (show (0 : Int32) = (own_f2 p1) from by unfold own_f2; simp only [if_neg hc1, if_neg hc2, if_neg hc3, if_neg hc4, if_neg hc5, if_neg hc6, if_neg hc7, if_neg hc8, if_neg hc9, if_neg hc10, if_neg hc11, if_neg hc12, if_neg hc13, if_neg hc14, if_neg hc15, if_neg hc16, if_neg hc17, if_neg hc18, if_neg hc19, if_neg hc20, if_neg hc21, if_neg hc22, if_neg hc23, if_neg hc24, if_neg hc25, if_neg hc26, if_neg hc27, if_neg hc28, if_neg hc29, if_neg hc30]), N0, rfl⟩
theorem own_cI {x y : Int32} : x < y ↔ x.toInt < y.toInt := Int32.lt_iff_toInt_lt
set_option maxHeartbeats 4000000 in
theorem own_eq (p1 : Int32) : own_f1 p1 = own_f2 p1 := by
  by_cases h0 : p1 < (65 : Int32)
  · have b : p1.toInt < 65 := own_cI.mp h0
    have k0 : p1 < (97 : Int32) := own_cI.mpr (show p1.toInt < 97 by omega)
    have k1 : p1 < (65 : Int32) := own_cI.mpr (show p1.toInt < 65 by omega)
    have k2 : ¬ (p1 = (95 : Int32)) := fun q => by have z : p1.toInt = 95 := congrArg Int32.toInt q; omega
    have k3 : p1 < (192 : Int32) := own_cI.mpr (show p1.toInt < 192 by omega)
    have k4 : p1 < (216 : Int32) := own_cI.mpr (show p1.toInt < 216 by omega)
    have k5 : p1 < (248 : Int32) := own_cI.mpr (show p1.toInt < 248 by omega)
    have k6 : p1 < (880 : Int32) := own_cI.mpr (show p1.toInt < 880 by omega)
    have k7 : p1 < (895 : Int32) := own_cI.mpr (show p1.toInt < 895 by omega)
    have k8 : p1 < (8204 : Int32) := own_cI.mpr (show p1.toInt < 8204 by omega)
    have k9 : p1 < (8304 : Int32) := own_cI.mpr (show p1.toInt < 8304 by omega)
    have k10 : p1 < (11264 : Int32) := own_cI.mpr (show p1.toInt < 11264 by omega)
    have k11 : p1 < (12289 : Int32) := own_cI.mpr (show p1.toInt < 12289 by omega)
    have k12 : p1 < (63744 : Int32) := own_cI.mpr (show p1.toInt < 63744 by omega)
    have k13 : p1 < (65008 : Int32) := own_cI.mpr (show p1.toInt < 65008 by omega)
    have k14 : p1 < (65536 : Int32) := own_cI.mpr (show p1.toInt < 65536 by omega)
    have e1 : own_f1 p1 = (0 : Int32) := by
      simp only [own_f1, own_f1_12, own_f1_24, own_f1_30, own_f1_44, own_f1_58, own_f1_72, own_f1_86, own_f1_100, own_f1_114, own_f1_128, own_f1_142, own_f1_155, own_f1_167, own_f1_179, if_pos k0, if_pos k1, if_neg k2, if_pos k3, if_pos k4, if_pos k5, if_pos k6, if_pos k7, if_pos k8, if_pos k9, if_pos k10, if_pos k11, if_pos k12, if_pos k13, if_pos k14]
    have e2 : own_f2 p1 = (0 : Int32) := by
      simp only [own_f2, if_pos h0]
    exact e1.trans e2.symm
  by_cases h1 : p1 < (91 : Int32)
  · have a : ¬ p1.toInt < 65 := fun q => h0 (own_cI.mpr q)
    have b : p1.toInt < 91 := own_cI.mp h1
    have k0 : p1 < (97 : Int32) := own_cI.mpr (show p1.toInt < 97 by omega)
    have k1 : ¬ (p1 < (65 : Int32)) := fun q => by have z : p1.toInt < 65 := own_cI.mp q; omega
    have k2 : ¬ ((90 : Int32) < p1) := fun q => by have z : 90 < p1.toInt := own_cI.mp q; omega
    have e1 : own_f1 p1 = (1 : Int32) := by
      simp only [own_f1, own_f1_12, if_pos k0, if_neg k1, if_neg k2]
    have e2 : own_f2 p1 = (1 : Int32) := by
      simp only [own_f2, if_neg h0, if_pos h1]
    exact e1.trans e2.symm
  by_cases h2 : p1 < (95 : Int32)
  · have a : ¬ p1.toInt < 91 := fun q => h1 (own_cI.mpr q)
    have b : p1.toInt < 95 := own_cI.mp h2
    have k0 : p1 < (97 : Int32) := own_cI.mpr (show p1.toInt < 97 by omega)
    have k1 : ¬ (p1 < (65 : Int32)) := fun q => by have z : p1.toInt < 65 := own_cI.mp q; omega
    have k2 : (90 : Int32) < p1 := own_cI.mpr (show 90 < p1.toInt by omega)
    have k3 : ¬ (p1 = (95 : Int32)) := fun q => by have z : p1.toInt = 95 := congrArg Int32.toInt q; omega
    have k4 : p1 < (192 : Int32) := own_cI.mpr (show p1.toInt < 192 by omega)
    have k5 : p1 < (216 : Int32) := own_cI.mpr (show p1.toInt < 216 by omega)
    have k6 : p1 < (248 : Int32) := own_cI.mpr (show p1.toInt < 248 by omega)
    have k7 : p1 < (880 : Int32) := own_cI.mpr (show p1.toInt < 880 by omega)
    have k8 : p1 < (895 : Int32) := own_cI.mpr (show p1.toInt < 895 by omega)
    have k9 : p1 < (8204 : Int32) := own_cI.mpr (show p1.toInt < 8204 by omega)
    have k10 : p1 < (8304 : Int32) := own_cI.mpr (show p1.toInt < 8304 by omega)
    have k11 : p1 < (11264 : Int32) := own_cI.mpr (show p1.toInt < 11264 by omega)
    have k12 : p1 < (12289 : Int32) := own_cI.mpr (show p1.toInt < 12289 by omega)
    have k13 : p1 < (63744 : Int32) := own_cI.mpr (show p1.toInt < 63744 by omega)
    have k14 : p1 < (65008 : Int32) := own_cI.mpr (show p1.toInt < 65008 by omega)
    have k15 : p1 < (65536 : Int32) := own_cI.mpr (show p1.toInt < 65536 by omega)
    have e1 : own_f1 p1 = (0 : Int32) := by
      simp only [own_f1, own_f1_12, own_f1_24, own_f1_30, own_f1_44, own_f1_58, own_f1_72, own_f1_86, own_f1_100, own_f1_114, own_f1_128, own_f1_142, own_f1_155, own_f1_167, own_f1_179, if_pos k0, if_neg k1, if_pos k2, if_neg k3, if_pos k4, if_pos k5, if_pos k6, if_pos k7, if_pos k8, if_pos k9, if_pos k10, if_pos k11, if_pos k12, if_pos k13, if_pos k14, if_pos k15]
    have e2 : own_f2 p1 = (0 : Int32) := by
      simp only [own_f2, if_neg h0, if_neg h1, if_pos h2]
    exact e1.trans e2.symm
  by_cases h3 : p1 < (96 : Int32)
  · have a : ¬ p1.toInt < 95 := fun q => h2 (own_cI.mpr q)
    have b : p1.toInt < 96 := own_cI.mp h3
    have k0 : p1 < (97 : Int32) := own_cI.mpr (show p1.toInt < 97 by omega)
    have k1 : ¬ (p1 < (65 : Int32)) := fun q => by have z : p1.toInt < 65 := own_cI.mp q; omega
    have k2 : (90 : Int32) < p1 := own_cI.mpr (show 90 < p1.toInt by omega)
    have k3 : p1 = (95 : Int32) := Int32.toInt_inj.mp (show p1.toInt = 95 by omega)
    have e1 : own_f1 p1 = (1 : Int32) := by
      simp only [own_f1, own_f1_12, own_f1_24, if_pos k0, if_neg k1, if_pos k2, if_pos k3]
    have e2 : own_f2 p1 = (1 : Int32) := by
      simp only [own_f2, if_neg h0, if_neg h1, if_neg h2, if_pos h3]
    exact e1.trans e2.symm
  by_cases h4 : p1 < (97 : Int32)
  · have a : ¬ p1.toInt < 96 := fun q => h3 (own_cI.mpr q)
    have b : p1.toInt < 97 := own_cI.mp h4
    have k0 : p1 < (97 : Int32) := own_cI.mpr (show p1.toInt < 97 by omega)
    have k1 : ¬ (p1 < (65 : Int32)) := fun q => by have z : p1.toInt < 65 := own_cI.mp q; omega
    have k2 : (90 : Int32) < p1 := own_cI.mpr (show 90 < p1.toInt by omega)
    have k3 : ¬ (p1 = (95 : Int32)) := fun q => by have z : p1.toInt = 95 := congrArg Int32.toInt q; omega
    have k4 : p1 < (192 : Int32) := own_cI.mpr (show p1.toInt < 192 by omega)
    have k5 : p1 < (216 : Int32) := own_cI.mpr (show p1.toInt < 216 by omega)
    have k6 : p1 < (248 : Int32) := own_cI.mpr (show p1.toInt < 248 by omega)
    have k7 : p1 < (880 : Int32) := own_cI.mpr (show p1.toInt < 880 by omega)
    have k8 : p1 < (895 : Int32) := own_cI.mpr (show p1.toInt < 895 by omega)
    have k9 : p1 < (8204 : Int32) := own_cI.mpr (show p1.toInt < 8204 by omega)
    have k10 : p1 < (8304 : Int32) := own_cI.mpr (show p1.toInt < 8304 by omega)
    have k11 : p1 < (11264 : Int32) := own_cI.mpr (show p1.toInt < 11264 by omega)
    have k12 : p1 < (12289 : Int32) := own_cI.mpr (show p1.toInt < 12289 by omega)
    have k13 : p1 < (63744 : Int32) := own_cI.mpr (show p1.toInt < 63744 by omega)
    have k14 : p1 < (65008 : Int32) := own_cI.mpr (show p1.toInt < 65008 by omega)
    have k15 : p1 < (65536 : Int32) := own_cI.mpr (show p1.toInt < 65536 by omega)
    have e1 : own_f1 p1 = (0 : Int32) := by
      simp only [own_f1, own_f1_12, own_f1_24, own_f1_30, own_f1_44, own_f1_58, own_f1_72, own_f1_86, own_f1_100, own_f1_114, own_f1_128, own_f1_142, own_f1_155, own_f1_167, own_f1_179, if_pos k0, if_neg k1, if_pos k2, if_neg k3, if_pos k4, if_pos k5, if_pos k6, if_pos k7, if_pos k8, if_pos k9, if_pos k10, if_pos k11, if_pos k12, if_pos k13, if_pos k14, if_pos k15]
    have e2 : own_f2 p1 = (0 : Int32) := by
      simp only [own_f2, if_neg h0, if_neg h1, if_neg h2, if_neg h3, if_pos h4]
    exact e1.trans e2.symm
  by_cases h5 : p1 < (123 : Int32)
  · have a : ¬ p1.toInt < 97 := fun q => h4 (own_cI.mpr q)
    have b : p1.toInt < 123 := own_cI.mp h5
    have k0 : ¬ (p1 < (97 : Int32)) := fun q => by have z : p1.toInt < 97 := own_cI.mp q; omega
    have k1 : ¬ ((122 : Int32) < p1) := fun q => by have z : 122 < p1.toInt := own_cI.mp q; omega
    have e1 : own_f1 p1 = (1 : Int32) := by
      simp only [own_f1, if_neg k0, if_neg k1]
    have e2 : own_f2 p1 = (1 : Int32) := by
      simp only [own_f2, if_neg h0, if_neg h1, if_neg h2, if_neg h3, if_neg h4, if_pos h5]
    exact e1.trans e2.symm
  by_cases h6 : p1 < (192 : Int32)
  · have a : ¬ p1.toInt < 123 := fun q => h5 (own_cI.mpr q)
    have b : p1.toInt < 192 := own_cI.mp h6
    have k0 : ¬ (p1 < (97 : Int32)) := fun q => by have z : p1.toInt < 97 := own_cI.mp q; omega
    have k1 : (122 : Int32) < p1 := own_cI.mpr (show 122 < p1.toInt by omega)
    have k2 : ¬ (p1 < (65 : Int32)) := fun q => by have z : p1.toInt < 65 := own_cI.mp q; omega
    have k3 : (90 : Int32) < p1 := own_cI.mpr (show 90 < p1.toInt by omega)
    have k4 : ¬ (p1 = (95 : Int32)) := fun q => by have z : p1.toInt = 95 := congrArg Int32.toInt q; omega
    have k5 : p1 < (192 : Int32) := own_cI.mpr (show p1.toInt < 192 by omega)
    have k6 : p1 < (216 : Int32) := own_cI.mpr (show p1.toInt < 216 by omega)
    have k7 : p1 < (248 : Int32) := own_cI.mpr (show p1.toInt < 248 by omega)
    have k8 : p1 < (880 : Int32) := own_cI.mpr (show p1.toInt < 880 by omega)
    have k9 : p1 < (895 : Int32) := own_cI.mpr (show p1.toInt < 895 by omega)
    have k10 : p1 < (8204 : Int32) := own_cI.mpr (show p1.toInt < 8204 by omega)
    have k11 : p1 < (8304 : Int32) := own_cI.mpr (show p1.toInt < 8304 by omega)
    have k12 : p1 < (11264 : Int32) := own_cI.mpr (show p1.toInt < 11264 by omega)
    have k13 : p1 < (12289 : Int32) := own_cI.mpr (show p1.toInt < 12289 by omega)
    have k14 : p1 < (63744 : Int32) := own_cI.mpr (show p1.toInt < 63744 by omega)
    have k15 : p1 < (65008 : Int32) := own_cI.mpr (show p1.toInt < 65008 by omega)
    have k16 : p1 < (65536 : Int32) := own_cI.mpr (show p1.toInt < 65536 by omega)
    have e1 : own_f1 p1 = (0 : Int32) := by
      simp only [own_f1, own_f1_12, own_f1_24, own_f1_30, own_f1_44, own_f1_58, own_f1_72, own_f1_86, own_f1_100, own_f1_114, own_f1_128, own_f1_142, own_f1_155, own_f1_167, own_f1_179, if_neg k0, if_pos k1, if_neg k2, if_pos k3, if_neg k4, if_pos k5, if_pos k6, if_pos k7, if_pos k8, if_pos k9, if_pos k10, if_pos k11, if_pos k12, if_pos k13, if_pos k14, if_pos k15, if_pos k16]
    have e2 : own_f2 p1 = (0 : Int32) := by
      simp only [own_f2, if_neg h0, if_neg h1, if_neg h2, if_neg h3, if_neg h4, if_neg h5, if_pos h6]
    exact e1.trans e2.symm
  by_cases h7 : p1 < (215 : Int32)
  · have a : ¬ p1.toInt < 192 := fun q => h6 (own_cI.mpr q)
    have b : p1.toInt < 215 := own_cI.mp h7
    have k0 : ¬ (p1 < (97 : Int32)) := fun q => by have z : p1.toInt < 97 := own_cI.mp q; omega
    have k1 : (122 : Int32) < p1 := own_cI.mpr (show 122 < p1.toInt by omega)
    have k2 : ¬ (p1 < (65 : Int32)) := fun q => by have z : p1.toInt < 65 := own_cI.mp q; omega
    have k3 : (90 : Int32) < p1 := own_cI.mpr (show 90 < p1.toInt by omega)
    have k4 : ¬ (p1 = (95 : Int32)) := fun q => by have z : p1.toInt = 95 := congrArg Int32.toInt q; omega
    have k5 : ¬ (p1 < (192 : Int32)) := fun q => by have z : p1.toInt < 192 := own_cI.mp q; omega
    have k6 : ¬ ((214 : Int32) < p1) := fun q => by have z : 214 < p1.toInt := own_cI.mp q; omega
    have e1 : own_f1 p1 = (1 : Int32) := by
      simp only [own_f1, own_f1_12, own_f1_24, own_f1_30, if_neg k0, if_pos k1, if_neg k2, if_pos k3, if_neg k4, if_neg k5, if_neg k6]
    have e2 : own_f2 p1 = (1 : Int32) := by
      simp only [own_f2, if_neg h0, if_neg h1, if_neg h2, if_neg h3, if_neg h4, if_neg h5, if_neg h6, if_pos h7]
    exact e1.trans e2.symm
  by_cases h8 : p1 < (216 : Int32)
  · have a : ¬ p1.toInt < 215 := fun q => h7 (own_cI.mpr q)
    have b : p1.toInt < 216 := own_cI.mp h8
    have k0 : ¬ (p1 < (97 : Int32)) := fun q => by have z : p1.toInt < 97 := own_cI.mp q; omega
    have k1 : (122 : Int32) < p1 := own_cI.mpr (show 122 < p1.toInt by omega)
    have k2 : ¬ (p1 < (65 : Int32)) := fun q => by have z : p1.toInt < 65 := own_cI.mp q; omega
    have k3 : (90 : Int32) < p1 := own_cI.mpr (show 90 < p1.toInt by omega)
    have k4 : ¬ (p1 = (95 : Int32)) := fun q => by have z : p1.toInt = 95 := congrArg Int32.toInt q; omega
    have k5 : ¬ (p1 < (192 : Int32)) := fun q => by have z : p1.toInt < 192 := own_cI.mp q; omega
    have k6 : (214 : Int32) < p1 := own_cI.mpr (show 214 < p1.toInt by omega)
    have k7 : p1 < (216 : Int32) := own_cI.mpr (show p1.toInt < 216 by omega)
    have k8 : p1 < (248 : Int32) := own_cI.mpr (show p1.toInt < 248 by omega)
    have k9 : p1 < (880 : Int32) := own_cI.mpr (show p1.toInt < 880 by omega)
    have k10 : p1 < (895 : Int32) := own_cI.mpr (show p1.toInt < 895 by omega)
    have k11 : p1 < (8204 : Int32) := own_cI.mpr (show p1.toInt < 8204 by omega)
    have k12 : p1 < (8304 : Int32) := own_cI.mpr (show p1.toInt < 8304 by omega)
    have k13 : p1 < (11264 : Int32) := own_cI.mpr (show p1.toInt < 11264 by omega)
    have k14 : p1 < (12289 : Int32) := own_cI.mpr (show p1.toInt < 12289 by omega)
    have k15 : p1 < (63744 : Int32) := own_cI.mpr (show p1.toInt < 63744 by omega)
    have k16 : p1 < (65008 : Int32) := own_cI.mpr (show p1.toInt < 65008 by omega)
    have k17 : p1 < (65536 : Int32) := own_cI.mpr (show p1.toInt < 65536 by omega)
    have e1 : own_f1 p1 = (0 : Int32) := by
      simp only [own_f1, own_f1_12, own_f1_24, own_f1_30, own_f1_44, own_f1_58, own_f1_72, own_f1_86, own_f1_100, own_f1_114, own_f1_128, own_f1_142, own_f1_155, own_f1_167, own_f1_179, if_neg k0, if_pos k1, if_neg k2, if_pos k3, if_neg k4, if_neg k5, if_pos k6, if_pos k7, if_pos k8, if_pos k9, if_pos k10, if_pos k11, if_pos k12, if_pos k13, if_pos k14, if_pos k15, if_pos k16, if_pos k17]
    have e2 : own_f2 p1 = (0 : Int32) := by
      simp only [own_f2, if_neg h0, if_neg h1, if_neg h2, if_neg h3, if_neg h4, if_neg h5, if_neg h6, if_neg h7, if_pos h8]
    exact e1.trans e2.symm
  by_cases h9 : p1 < (247 : Int32)
  · have a : ¬ p1.toInt < 216 := fun q => h8 (own_cI.mpr q)
    have b : p1.toInt < 247 := own_cI.mp h9
    have k0 : ¬ (p1 < (97 : Int32)) := fun q => by have z : p1.toInt < 97 := own_cI.mp q; omega
    have k1 : (122 : Int32) < p1 := own_cI.mpr (show 122 < p1.toInt by omega)
    have k2 : ¬ (p1 < (65 : Int32)) := fun q => by have z : p1.toInt < 65 := own_cI.mp q; omega
    have k3 : (90 : Int32) < p1 := own_cI.mpr (show 90 < p1.toInt by omega)
    have k4 : ¬ (p1 = (95 : Int32)) := fun q => by have z : p1.toInt = 95 := congrArg Int32.toInt q; omega
    have k5 : ¬ (p1 < (192 : Int32)) := fun q => by have z : p1.toInt < 192 := own_cI.mp q; omega
    have k6 : (214 : Int32) < p1 := own_cI.mpr (show 214 < p1.toInt by omega)
    have k7 : ¬ (p1 < (216 : Int32)) := fun q => by have z : p1.toInt < 216 := own_cI.mp q; omega
    have k8 : ¬ ((246 : Int32) < p1) := fun q => by have z : 246 < p1.toInt := own_cI.mp q; omega
    have e1 : own_f1 p1 = (1 : Int32) := by
      simp only [own_f1, own_f1_12, own_f1_24, own_f1_30, own_f1_44, if_neg k0, if_pos k1, if_neg k2, if_pos k3, if_neg k4, if_neg k5, if_pos k6, if_neg k7, if_neg k8]
    have e2 : own_f2 p1 = (1 : Int32) := by
      simp only [own_f2, if_neg h0, if_neg h1, if_neg h2, if_neg h3, if_neg h4, if_neg h5, if_neg h6, if_neg h7, if_neg h8, if_pos h9]
    exact e1.trans e2.symm
  by_cases h10 : p1 < (248 : Int32)
  · have a : ¬ p1.toInt < 247 := fun q => h9 (own_cI.mpr q)
    have b : p1.toInt < 248 := own_cI.mp h10
    have k0 : ¬ (p1 < (97 : Int32)) := fun q => by have z : p1.toInt < 97 := own_cI.mp q; omega
    have k1 : (122 : Int32) < p1 := own_cI.mpr (show 122 < p1.toInt by omega)
    have k2 : ¬ (p1 < (65 : Int32)) := fun q => by have z : p1.toInt < 65 := own_cI.mp q; omega
    have k3 : (90 : Int32) < p1 := own_cI.mpr (show 90 < p1.toInt by omega)
    have k4 : ¬ (p1 = (95 : Int32)) := fun q => by have z : p1.toInt = 95 := congrArg Int32.toInt q; omega
    have k5 : ¬ (p1 < (192 : Int32)) := fun q => by have z : p1.toInt < 192 := own_cI.mp q; omega
    have k6 : (214 : Int32) < p1 := own_cI.mpr (show 214 < p1.toInt by omega)
    have k7 : ¬ (p1 < (216 : Int32)) := fun q => by have z : p1.toInt < 216 := own_cI.mp q; omega
    have k8 : (246 : Int32) < p1 := own_cI.mpr (show 246 < p1.toInt by omega)
    have k9 : p1 < (248 : Int32) := own_cI.mpr (show p1.toInt < 248 by omega)
    have k10 : p1 < (880 : Int32) := own_cI.mpr (show p1.toInt < 880 by omega)
    have k11 : p1 < (895 : Int32) := own_cI.mpr (show p1.toInt < 895 by omega)
    have k12 : p1 < (8204 : Int32) := own_cI.mpr (show p1.toInt < 8204 by omega)
    have k13 : p1 < (8304 : Int32) := own_cI.mpr (show p1.toInt < 8304 by omega)
    have k14 : p1 < (11264 : Int32) := own_cI.mpr (show p1.toInt < 11264 by omega)
    have k15 : p1 < (12289 : Int32) := own_cI.mpr (show p1.toInt < 12289 by omega)
    have k16 : p1 < (63744 : Int32) := own_cI.mpr (show p1.toInt < 63744 by omega)
    have k17 : p1 < (65008 : Int32) := own_cI.mpr (show p1.toInt < 65008 by omega)
    have k18 : p1 < (65536 : Int32) := own_cI.mpr (show p1.toInt < 65536 by omega)
    have e1 : own_f1 p1 = (0 : Int32) := by
      simp only [own_f1, own_f1_12, own_f1_24, own_f1_30, own_f1_44, own_f1_58, own_f1_72, own_f1_86, own_f1_100, own_f1_114, own_f1_128, own_f1_142, own_f1_155, own_f1_167, own_f1_179, if_neg k0, if_pos k1, if_neg k2, if_pos k3, if_neg k4, if_neg k5, if_pos k6, if_neg k7, if_pos k8, if_pos k9, if_pos k10, if_pos k11, if_pos k12, if_pos k13, if_pos k14, if_pos k15, if_pos k16, if_pos k17, if_pos k18]
    have e2 : own_f2 p1 = (0 : Int32) := by
      simp only [own_f2, if_neg h0, if_neg h1, if_neg h2, if_neg h3, if_neg h4, if_neg h5, if_neg h6, if_neg h7, if_neg h8, if_neg h9, if_pos h10]
    exact e1.trans e2.symm
  by_cases h11 : p1 < (768 : Int32)
  · have a : ¬ p1.toInt < 248 := fun q => h10 (own_cI.mpr q)
    have b : p1.toInt < 768 := own_cI.mp h11
    have k0 : ¬ (p1 < (97 : Int32)) := fun q => by have z : p1.toInt < 97 := own_cI.mp q; omega
    have k1 : (122 : Int32) < p1 := own_cI.mpr (show 122 < p1.toInt by omega)
    have k2 : ¬ (p1 < (65 : Int32)) := fun q => by have z : p1.toInt < 65 := own_cI.mp q; omega
    have k3 : (90 : Int32) < p1 := own_cI.mpr (show 90 < p1.toInt by omega)
    have k4 : ¬ (p1 = (95 : Int32)) := fun q => by have z : p1.toInt = 95 := congrArg Int32.toInt q; omega
    have k5 : ¬ (p1 < (192 : Int32)) := fun q => by have z : p1.toInt < 192 := own_cI.mp q; omega
    have k6 : (214 : Int32) < p1 := own_cI.mpr (show 214 < p1.toInt by omega)
    have k7 : ¬ (p1 < (216 : Int32)) := fun q => by have z : p1.toInt < 216 := own_cI.mp q; omega
    have k8 : (246 : Int32) < p1 := own_cI.mpr (show 246 < p1.toInt by omega)
    have k9 : ¬ (p1 < (248 : Int32)) := fun q => by have z : p1.toInt < 248 := own_cI.mp q; omega
    have k10 : ¬ ((767 : Int32) < p1) := fun q => by have z : 767 < p1.toInt := own_cI.mp q; omega
    have e1 : own_f1 p1 = (1 : Int32) := by
      simp only [own_f1, own_f1_12, own_f1_24, own_f1_30, own_f1_44, own_f1_58, if_neg k0, if_pos k1, if_neg k2, if_pos k3, if_neg k4, if_neg k5, if_pos k6, if_neg k7, if_pos k8, if_neg k9, if_neg k10]
    have e2 : own_f2 p1 = (1 : Int32) := by
      simp only [own_f2, if_neg h0, if_neg h1, if_neg h2, if_neg h3, if_neg h4, if_neg h5, if_neg h6, if_neg h7, if_neg h8, if_neg h9, if_neg h10, if_pos h11]
    exact e1.trans e2.symm
  by_cases h12 : p1 < (880 : Int32)
  · have a : ¬ p1.toInt < 768 := fun q => h11 (own_cI.mpr q)
    have b : p1.toInt < 880 := own_cI.mp h12
    have k0 : ¬ (p1 < (97 : Int32)) := fun q => by have z : p1.toInt < 97 := own_cI.mp q; omega
    have k1 : (122 : Int32) < p1 := own_cI.mpr (show 122 < p1.toInt by omega)
    have k2 : ¬ (p1 < (65 : Int32)) := fun q => by have z : p1.toInt < 65 := own_cI.mp q; omega
    have k3 : (90 : Int32) < p1 := own_cI.mpr (show 90 < p1.toInt by omega)
    have k4 : ¬ (p1 = (95 : Int32)) := fun q => by have z : p1.toInt = 95 := congrArg Int32.toInt q; omega
    have k5 : ¬ (p1 < (192 : Int32)) := fun q => by have z : p1.toInt < 192 := own_cI.mp q; omega
    have k6 : (214 : Int32) < p1 := own_cI.mpr (show 214 < p1.toInt by omega)
    have k7 : ¬ (p1 < (216 : Int32)) := fun q => by have z : p1.toInt < 216 := own_cI.mp q; omega
    have k8 : (246 : Int32) < p1 := own_cI.mpr (show 246 < p1.toInt by omega)
    have k9 : ¬ (p1 < (248 : Int32)) := fun q => by have z : p1.toInt < 248 := own_cI.mp q; omega
    have k10 : (767 : Int32) < p1 := own_cI.mpr (show 767 < p1.toInt by omega)
    have k11 : p1 < (880 : Int32) := own_cI.mpr (show p1.toInt < 880 by omega)
    have k12 : p1 < (895 : Int32) := own_cI.mpr (show p1.toInt < 895 by omega)
    have k13 : p1 < (8204 : Int32) := own_cI.mpr (show p1.toInt < 8204 by omega)
    have k14 : p1 < (8304 : Int32) := own_cI.mpr (show p1.toInt < 8304 by omega)
    have k15 : p1 < (11264 : Int32) := own_cI.mpr (show p1.toInt < 11264 by omega)
    have k16 : p1 < (12289 : Int32) := own_cI.mpr (show p1.toInt < 12289 by omega)
    have k17 : p1 < (63744 : Int32) := own_cI.mpr (show p1.toInt < 63744 by omega)
    have k18 : p1 < (65008 : Int32) := own_cI.mpr (show p1.toInt < 65008 by omega)
    have k19 : p1 < (65536 : Int32) := own_cI.mpr (show p1.toInt < 65536 by omega)
    have e1 : own_f1 p1 = (0 : Int32) := by
      simp only [own_f1, own_f1_12, own_f1_24, own_f1_30, own_f1_44, own_f1_58, own_f1_72, own_f1_86, own_f1_100, own_f1_114, own_f1_128, own_f1_142, own_f1_155, own_f1_167, own_f1_179, if_neg k0, if_pos k1, if_neg k2, if_pos k3, if_neg k4, if_neg k5, if_pos k6, if_neg k7, if_pos k8, if_neg k9, if_pos k10, if_pos k11, if_pos k12, if_pos k13, if_pos k14, if_pos k15, if_pos k16, if_pos k17, if_pos k18, if_pos k19]
    have e2 : own_f2 p1 = (0 : Int32) := by
      simp only [own_f2, if_neg h0, if_neg h1, if_neg h2, if_neg h3, if_neg h4, if_neg h5, if_neg h6, if_neg h7, if_neg h8, if_neg h9, if_neg h10, if_neg h11, if_pos h12]
    exact e1.trans e2.symm
  by_cases h13 : p1 < (894 : Int32)
  · have a : ¬ p1.toInt < 880 := fun q => h12 (own_cI.mpr q)
    have b : p1.toInt < 894 := own_cI.mp h13
    have k0 : ¬ (p1 < (97 : Int32)) := fun q => by have z : p1.toInt < 97 := own_cI.mp q; omega
    have k1 : (122 : Int32) < p1 := own_cI.mpr (show 122 < p1.toInt by omega)
    have k2 : ¬ (p1 < (65 : Int32)) := fun q => by have z : p1.toInt < 65 := own_cI.mp q; omega
    have k3 : (90 : Int32) < p1 := own_cI.mpr (show 90 < p1.toInt by omega)
    have k4 : ¬ (p1 = (95 : Int32)) := fun q => by have z : p1.toInt = 95 := congrArg Int32.toInt q; omega
    have k5 : ¬ (p1 < (192 : Int32)) := fun q => by have z : p1.toInt < 192 := own_cI.mp q; omega
    have k6 : (214 : Int32) < p1 := own_cI.mpr (show 214 < p1.toInt by omega)
    have k7 : ¬ (p1 < (216 : Int32)) := fun q => by have z : p1.toInt < 216 := own_cI.mp q; omega
    have k8 : (246 : Int32) < p1 := own_cI.mpr (show 246 < p1.toInt by omega)
    have k9 : ¬ (p1 < (248 : Int32)) := fun q => by have z : p1.toInt < 248 := own_cI.mp q; omega
    have k10 : (767 : Int32) < p1 := own_cI.mpr (show 767 < p1.toInt by omega)
    have k11 : ¬ (p1 < (880 : Int32)) := fun q => by have z : p1.toInt < 880 := own_cI.mp q; omega
    have k12 : ¬ ((893 : Int32) < p1) := fun q => by have z : 893 < p1.toInt := own_cI.mp q; omega
    have e1 : own_f1 p1 = (1 : Int32) := by
      simp only [own_f1, own_f1_12, own_f1_24, own_f1_30, own_f1_44, own_f1_58, own_f1_72, if_neg k0, if_pos k1, if_neg k2, if_pos k3, if_neg k4, if_neg k5, if_pos k6, if_neg k7, if_pos k8, if_neg k9, if_pos k10, if_neg k11, if_neg k12]
    have e2 : own_f2 p1 = (1 : Int32) := by
      simp only [own_f2, if_neg h0, if_neg h1, if_neg h2, if_neg h3, if_neg h4, if_neg h5, if_neg h6, if_neg h7, if_neg h8, if_neg h9, if_neg h10, if_neg h11, if_neg h12, if_pos h13]
    exact e1.trans e2.symm
  by_cases h14 : p1 < (895 : Int32)
  · have a : ¬ p1.toInt < 894 := fun q => h13 (own_cI.mpr q)
    have b : p1.toInt < 895 := own_cI.mp h14
    have k0 : ¬ (p1 < (97 : Int32)) := fun q => by have z : p1.toInt < 97 := own_cI.mp q; omega
    have k1 : (122 : Int32) < p1 := own_cI.mpr (show 122 < p1.toInt by omega)
    have k2 : ¬ (p1 < (65 : Int32)) := fun q => by have z : p1.toInt < 65 := own_cI.mp q; omega
    have k3 : (90 : Int32) < p1 := own_cI.mpr (show 90 < p1.toInt by omega)
    have k4 : ¬ (p1 = (95 : Int32)) := fun q => by have z : p1.toInt = 95 := congrArg Int32.toInt q; omega
    have k5 : ¬ (p1 < (192 : Int32)) := fun q => by have z : p1.toInt < 192 := own_cI.mp q; omega
    have k6 : (214 : Int32) < p1 := own_cI.mpr (show 214 < p1.toInt by omega)
    have k7 : ¬ (p1 < (216 : Int32)) := fun q => by have z : p1.toInt < 216 := own_cI.mp q; omega
    have k8 : (246 : Int32) < p1 := own_cI.mpr (show 246 < p1.toInt by omega)
    have k9 : ¬ (p1 < (248 : Int32)) := fun q => by have z : p1.toInt < 248 := own_cI.mp q; omega
    have k10 : (767 : Int32) < p1 := own_cI.mpr (show 767 < p1.toInt by omega)
    have k11 : ¬ (p1 < (880 : Int32)) := fun q => by have z : p1.toInt < 880 := own_cI.mp q; omega
    have k12 : (893 : Int32) < p1 := own_cI.mpr (show 893 < p1.toInt by omega)
    have k13 : p1 < (895 : Int32) := own_cI.mpr (show p1.toInt < 895 by omega)
    have k14 : p1 < (8204 : Int32) := own_cI.mpr (show p1.toInt < 8204 by omega)
    have k15 : p1 < (8304 : Int32) := own_cI.mpr (show p1.toInt < 8304 by omega)
    have k16 : p1 < (11264 : Int32) := own_cI.mpr (show p1.toInt < 11264 by omega)
    have k17 : p1 < (12289 : Int32) := own_cI.mpr (show p1.toInt < 12289 by omega)
    have k18 : p1 < (63744 : Int32) := own_cI.mpr (show p1.toInt < 63744 by omega)
    have k19 : p1 < (65008 : Int32) := own_cI.mpr (show p1.toInt < 65008 by omega)
    have k20 : p1 < (65536 : Int32) := own_cI.mpr (show p1.toInt < 65536 by omega)
    have e1 : own_f1 p1 = (0 : Int32) := by
      simp only [own_f1, own_f1_12, own_f1_24, own_f1_30, own_f1_44, own_f1_58, own_f1_72, own_f1_86, own_f1_100, own_f1_114, own_f1_128, own_f1_142, own_f1_155, own_f1_167, own_f1_179, if_neg k0, if_pos k1, if_neg k2, if_pos k3, if_neg k4, if_neg k5, if_pos k6, if_neg k7, if_pos k8, if_neg k9, if_pos k10, if_neg k11, if_pos k12, if_pos k13, if_pos k14, if_pos k15, if_pos k16, if_pos k17, if_pos k18, if_pos k19, if_pos k20]
    have e2 : own_f2 p1 = (0 : Int32) := by
      simp only [own_f2, if_neg h0, if_neg h1, if_neg h2, if_neg h3, if_neg h4, if_neg h5, if_neg h6, if_neg h7, if_neg h8, if_neg h9, if_neg h10, if_neg h11, if_neg h12, if_neg h13, if_pos h14]
    exact e1.trans e2.symm
  by_cases h15 : p1 < (8192 : Int32)
  · have a : ¬ p1.toInt < 895 := fun q => h14 (own_cI.mpr q)
    have b : p1.toInt < 8192 := own_cI.mp h15
    have k0 : ¬ (p1 < (97 : Int32)) := fun q => by have z : p1.toInt < 97 := own_cI.mp q; omega
    have k1 : (122 : Int32) < p1 := own_cI.mpr (show 122 < p1.toInt by omega)
    have k2 : ¬ (p1 < (65 : Int32)) := fun q => by have z : p1.toInt < 65 := own_cI.mp q; omega
    have k3 : (90 : Int32) < p1 := own_cI.mpr (show 90 < p1.toInt by omega)
    have k4 : ¬ (p1 = (95 : Int32)) := fun q => by have z : p1.toInt = 95 := congrArg Int32.toInt q; omega
    have k5 : ¬ (p1 < (192 : Int32)) := fun q => by have z : p1.toInt < 192 := own_cI.mp q; omega
    have k6 : (214 : Int32) < p1 := own_cI.mpr (show 214 < p1.toInt by omega)
    have k7 : ¬ (p1 < (216 : Int32)) := fun q => by have z : p1.toInt < 216 := own_cI.mp q; omega
    have k8 : (246 : Int32) < p1 := own_cI.mpr (show 246 < p1.toInt by omega)
    have k9 : ¬ (p1 < (248 : Int32)) := fun q => by have z : p1.toInt < 248 := own_cI.mp q; omega
    have k10 : (767 : Int32) < p1 := own_cI.mpr (show 767 < p1.toInt by omega)
    have k11 : ¬ (p1 < (880 : Int32)) := fun q => by have z : p1.toInt < 880 := own_cI.mp q; omega
    have k12 : (893 : Int32) < p1 := own_cI.mpr (show 893 < p1.toInt by omega)
    have k13 : ¬ (p1 < (895 : Int32)) := fun q => by have z : p1.toInt < 895 := own_cI.mp q; omega
    have k14 : ¬ ((8191 : Int32) < p1) := fun q => by have z : 8191 < p1.toInt := own_cI.mp q; omega
    have e1 : own_f1 p1 = (1 : Int32) := by
      simp only [own_f1, own_f1_12, own_f1_24, own_f1_30, own_f1_44, own_f1_58, own_f1_72, own_f1_86, if_neg k0, if_pos k1, if_neg k2, if_pos k3, if_neg k4, if_neg k5, if_pos k6, if_neg k7, if_pos k8, if_neg k9, if_pos k10, if_neg k11, if_pos k12, if_neg k13, if_neg k14]
    have e2 : own_f2 p1 = (1 : Int32) := by
      simp only [own_f2, if_neg h0, if_neg h1, if_neg h2, if_neg h3, if_neg h4, if_neg h5, if_neg h6, if_neg h7, if_neg h8, if_neg h9, if_neg h10, if_neg h11, if_neg h12, if_neg h13, if_neg h14, if_pos h15]
    exact e1.trans e2.symm
  by_cases h16 : p1 < (8204 : Int32)
  · have a : ¬ p1.toInt < 8192 := fun q => h15 (own_cI.mpr q)
    have b : p1.toInt < 8204 := own_cI.mp h16
    have k0 : ¬ (p1 < (97 : Int32)) := fun q => by have z : p1.toInt < 97 := own_cI.mp q; omega
    have k1 : (122 : Int32) < p1 := own_cI.mpr (show 122 < p1.toInt by omega)
    have k2 : ¬ (p1 < (65 : Int32)) := fun q => by have z : p1.toInt < 65 := own_cI.mp q; omega
    have k3 : (90 : Int32) < p1 := own_cI.mpr (show 90 < p1.toInt by omega)
    have k4 : ¬ (p1 = (95 : Int32)) := fun q => by have z : p1.toInt = 95 := congrArg Int32.toInt q; omega
    have k5 : ¬ (p1 < (192 : Int32)) := fun q => by have z : p1.toInt < 192 := own_cI.mp q; omega
    have k6 : (214 : Int32) < p1 := own_cI.mpr (show 214 < p1.toInt by omega)
    have k7 : ¬ (p1 < (216 : Int32)) := fun q => by have z : p1.toInt < 216 := own_cI.mp q; omega
    have k8 : (246 : Int32) < p1 := own_cI.mpr (show 246 < p1.toInt by omega)
    have k9 : ¬ (p1 < (248 : Int32)) := fun q => by have z : p1.toInt < 248 := own_cI.mp q; omega
    have k10 : (767 : Int32) < p1 := own_cI.mpr (show 767 < p1.toInt by omega)
    have k11 : ¬ (p1 < (880 : Int32)) := fun q => by have z : p1.toInt < 880 := own_cI.mp q; omega
    have k12 : (893 : Int32) < p1 := own_cI.mpr (show 893 < p1.toInt by omega)
    have k13 : ¬ (p1 < (895 : Int32)) := fun q => by have z : p1.toInt < 895 := own_cI.mp q; omega
    have k14 : (8191 : Int32) < p1 := own_cI.mpr (show 8191 < p1.toInt by omega)
    have k15 : p1 < (8204 : Int32) := own_cI.mpr (show p1.toInt < 8204 by omega)
    have k16 : p1 < (8304 : Int32) := own_cI.mpr (show p1.toInt < 8304 by omega)
    have k17 : p1 < (11264 : Int32) := own_cI.mpr (show p1.toInt < 11264 by omega)
    have k18 : p1 < (12289 : Int32) := own_cI.mpr (show p1.toInt < 12289 by omega)
    have k19 : p1 < (63744 : Int32) := own_cI.mpr (show p1.toInt < 63744 by omega)
    have k20 : p1 < (65008 : Int32) := own_cI.mpr (show p1.toInt < 65008 by omega)
    have k21 : p1 < (65536 : Int32) := own_cI.mpr (show p1.toInt < 65536 by omega)
    have e1 : own_f1 p1 = (0 : Int32) := by
      simp only [own_f1, own_f1_12, own_f1_24, own_f1_30, own_f1_44, own_f1_58, own_f1_72, own_f1_86, own_f1_100, own_f1_114, own_f1_128, own_f1_142, own_f1_155, own_f1_167, own_f1_179, if_neg k0, if_pos k1, if_neg k2, if_pos k3, if_neg k4, if_neg k5, if_pos k6, if_neg k7, if_pos k8, if_neg k9, if_pos k10, if_neg k11, if_pos k12, if_neg k13, if_pos k14, if_pos k15, if_pos k16, if_pos k17, if_pos k18, if_pos k19, if_pos k20, if_pos k21]
    have e2 : own_f2 p1 = (0 : Int32) := by
      simp only [own_f2, if_neg h0, if_neg h1, if_neg h2, if_neg h3, if_neg h4, if_neg h5, if_neg h6, if_neg h7, if_neg h8, if_neg h9, if_neg h10, if_neg h11, if_neg h12, if_neg h13, if_neg h14, if_neg h15, if_pos h16]
    exact e1.trans e2.symm
  by_cases h17 : p1 < (8206 : Int32)
  · have a : ¬ p1.toInt < 8204 := fun q => h16 (own_cI.mpr q)
    have b : p1.toInt < 8206 := own_cI.mp h17
    have k0 : ¬ (p1 < (97 : Int32)) := fun q => by have z : p1.toInt < 97 := own_cI.mp q; omega
    have k1 : (122 : Int32) < p1 := own_cI.mpr (show 122 < p1.toInt by omega)
    have k2 : ¬ (p1 < (65 : Int32)) := fun q => by have z : p1.toInt < 65 := own_cI.mp q; omega
    have k3 : (90 : Int32) < p1 := own_cI.mpr (show 90 < p1.toInt by omega)
    have k4 : ¬ (p1 = (95 : Int32)) := fun q => by have z : p1.toInt = 95 := congrArg Int32.toInt q; omega
    have k5 : ¬ (p1 < (192 : Int32)) := fun q => by have z : p1.toInt < 192 := own_cI.mp q; omega
    have k6 : (214 : Int32) < p1 := own_cI.mpr (show 214 < p1.toInt by omega)
    have k7 : ¬ (p1 < (216 : Int32)) := fun q => by have z : p1.toInt < 216 := own_cI.mp q; omega
    have k8 : (246 : Int32) < p1 := own_cI.mpr (show 246 < p1.toInt by omega)
    have k9 : ¬ (p1 < (248 : Int32)) := fun q => by have z : p1.toInt < 248 := own_cI.mp q; omega
    have k10 : (767 : Int32) < p1 := own_cI.mpr (show 767 < p1.toInt by omega)
    have k11 : ¬ (p1 < (880 : Int32)) := fun q => by have z : p1.toInt < 880 := own_cI.mp q; omega
    have k12 : (893 : Int32) < p1 := own_cI.mpr (show 893 < p1.toInt by omega)
    have k13 : ¬ (p1 < (895 : Int32)) := fun q => by have z : p1.toInt < 895 := own_cI.mp q; omega
    have k14 : (8191 : Int32) < p1 := own_cI.mpr (show 8191 < p1.toInt by omega)
    have k15 : ¬ (p1 < (8204 : Int32)) := fun q => by have z : p1.toInt < 8204 := own_cI.mp q; omega
    have k16 : ¬ ((8205 : Int32) < p1) := fun q => by have z : 8205 < p1.toInt := own_cI.mp q; omega
    have e1 : own_f1 p1 = (1 : Int32) := by
      simp only [own_f1, own_f1_12, own_f1_24, own_f1_30, own_f1_44, own_f1_58, own_f1_72, own_f1_86, own_f1_100, if_neg k0, if_pos k1, if_neg k2, if_pos k3, if_neg k4, if_neg k5, if_pos k6, if_neg k7, if_pos k8, if_neg k9, if_pos k10, if_neg k11, if_pos k12, if_neg k13, if_pos k14, if_neg k15, if_neg k16]
    have e2 : own_f2 p1 = (1 : Int32) := by
      simp only [own_f2, if_neg h0, if_neg h1, if_neg h2, if_neg h3, if_neg h4, if_neg h5, if_neg h6, if_neg h7, if_neg h8, if_neg h9, if_neg h10, if_neg h11, if_neg h12, if_neg h13, if_neg h14, if_neg h15, if_neg h16, if_pos h17]
    exact e1.trans e2.symm
  by_cases h18 : p1 < (8304 : Int32)
  · have a : ¬ p1.toInt < 8206 := fun q => h17 (own_cI.mpr q)
    have b : p1.toInt < 8304 := own_cI.mp h18
    have k0 : ¬ (p1 < (97 : Int32)) := fun q => by have z : p1.toInt < 97 := own_cI.mp q; omega
    have k1 : (122 : Int32) < p1 := own_cI.mpr (show 122 < p1.toInt by omega)
    have k2 : ¬ (p1 < (65 : Int32)) := fun q => by have z : p1.toInt < 65 := own_cI.mp q; omega
    have k3 : (90 : Int32) < p1 := own_cI.mpr (show 90 < p1.toInt by omega)
    have k4 : ¬ (p1 = (95 : Int32)) := fun q => by have z : p1.toInt = 95 := congrArg Int32.toInt q; omega
    have k5 : ¬ (p1 < (192 : Int32)) := fun q => by have z : p1.toInt < 192 := own_cI.mp q; omega
    have k6 : (214 : Int32) < p1 := own_cI.mpr (show 214 < p1.toInt by omega)
    have k7 : ¬ (p1 < (216 : Int32)) := fun q => by have z : p1.toInt < 216 := own_cI.mp q; omega
    have k8 : (246 : Int32) < p1 := own_cI.mpr (show 246 < p1.toInt by omega)
    have k9 : ¬ (p1 < (248 : Int32)) := fun q => by have z : p1.toInt < 248 := own_cI.mp q; omega
    have k10 : (767 : Int32) < p1 := own_cI.mpr (show 767 < p1.toInt by omega)
    have k11 : ¬ (p1 < (880 : Int32)) := fun q => by have z : p1.toInt < 880 := own_cI.mp q; omega
    have k12 : (893 : Int32) < p1 := own_cI.mpr (show 893 < p1.toInt by omega)
    have k13 : ¬ (p1 < (895 : Int32)) := fun q => by have z : p1.toInt < 895 := own_cI.mp q; omega
    have k14 : (8191 : Int32) < p1 := own_cI.mpr (show 8191 < p1.toInt by omega)
    have k15 : ¬ (p1 < (8204 : Int32)) := fun q => by have z : p1.toInt < 8204 := own_cI.mp q; omega
    have k16 : (8205 : Int32) < p1 := own_cI.mpr (show 8205 < p1.toInt by omega)
    have k17 : p1 < (8304 : Int32) := own_cI.mpr (show p1.toInt < 8304 by omega)
    have k18 : p1 < (11264 : Int32) := own_cI.mpr (show p1.toInt < 11264 by omega)
    have k19 : p1 < (12289 : Int32) := own_cI.mpr (show p1.toInt < 12289 by omega)
    have k20 : p1 < (63744 : Int32) := own_cI.mpr (show p1.toInt < 63744 by omega)
    have k21 : p1 < (65008 : Int32) := own_cI.mpr (show p1.toInt < 65008 by omega)
    have k22 : p1 < (65536 : Int32) := own_cI.mpr (show p1.toInt < 65536 by omega)
    have e1 : own_f1 p1 = (0 : Int32) := by
      simp only [own_f1, own_f1_12, own_f1_24, own_f1_30, own_f1_44, own_f1_58, own_f1_72, own_f1_86, own_f1_100, own_f1_114, own_f1_128, own_f1_142, own_f1_155, own_f1_167, own_f1_179, if_neg k0, if_pos k1, if_neg k2, if_pos k3, if_neg k4, if_neg k5, if_pos k6, if_neg k7, if_pos k8, if_neg k9, if_pos k10, if_neg k11, if_pos k12, if_neg k13, if_pos k14, if_neg k15, if_pos k16, if_pos k17, if_pos k18, if_pos k19, if_pos k20, if_pos k21, if_pos k22]
    have e2 : own_f2 p1 = (0 : Int32) := by
      simp only [own_f2, if_neg h0, if_neg h1, if_neg h2, if_neg h3, if_neg h4, if_neg h5, if_neg h6, if_neg h7, if_neg h8, if_neg h9, if_neg h10, if_neg h11, if_neg h12, if_neg h13, if_neg h14, if_neg h15, if_neg h16, if_neg h17, if_pos h18]
    exact e1.trans e2.symm
  by_cases h19 : p1 < (8592 : Int32)
  · have a : ¬ p1.toInt < 8304 := fun q => h18 (own_cI.mpr q)
    have b : p1.toInt < 8592 := own_cI.mp h19
    have k0 : ¬ (p1 < (97 : Int32)) := fun q => by have z : p1.toInt < 97 := own_cI.mp q; omega
    have k1 : (122 : Int32) < p1 := own_cI.mpr (show 122 < p1.toInt by omega)
    have k2 : ¬ (p1 < (65 : Int32)) := fun q => by have z : p1.toInt < 65 := own_cI.mp q; omega
    have k3 : (90 : Int32) < p1 := own_cI.mpr (show 90 < p1.toInt by omega)
    have k4 : ¬ (p1 = (95 : Int32)) := fun q => by have z : p1.toInt = 95 := congrArg Int32.toInt q; omega
    have k5 : ¬ (p1 < (192 : Int32)) := fun q => by have z : p1.toInt < 192 := own_cI.mp q; omega
    have k6 : (214 : Int32) < p1 := own_cI.mpr (show 214 < p1.toInt by omega)
    have k7 : ¬ (p1 < (216 : Int32)) := fun q => by have z : p1.toInt < 216 := own_cI.mp q; omega
    have k8 : (246 : Int32) < p1 := own_cI.mpr (show 246 < p1.toInt by omega)
    have k9 : ¬ (p1 < (248 : Int32)) := fun q => by have z : p1.toInt < 248 := own_cI.mp q; omega
    have k10 : (767 : Int32) < p1 := own_cI.mpr (show 767 < p1.toInt by omega)
    have k11 : ¬ (p1 < (880 : Int32)) := fun q => by have z : p1.toInt < 880 := own_cI.mp q; omega
    have k12 : (893 : Int32) < p1 := own_cI.mpr (show 893 < p1.toInt by omega)
    have k13 : ¬ (p1 < (895 : Int32)) := fun q => by have z : p1.toInt < 895 := own_cI.mp q; omega
    have k14 : (8191 : Int32) < p1 := own_cI.mpr (show 8191 < p1.toInt by omega)
    have k15 : ¬ (p1 < (8204 : Int32)) := fun q => by have z : p1.toInt < 8204 := own_cI.mp q; omega
    have k16 : (8205 : Int32) < p1 := own_cI.mpr (show 8205 < p1.toInt by omega)
    have k17 : ¬ (p1 < (8304 : Int32)) := fun q => by have z : p1.toInt < 8304 := own_cI.mp q; omega
    have k18 : ¬ ((8591 : Int32) < p1) := fun q => by have z : 8591 < p1.toInt := own_cI.mp q; omega
    have e1 : own_f1 p1 = (1 : Int32) := by
      simp only [own_f1, own_f1_12, own_f1_24, own_f1_30, own_f1_44, own_f1_58, own_f1_72, own_f1_86, own_f1_100, own_f1_114, if_neg k0, if_pos k1, if_neg k2, if_pos k3, if_neg k4, if_neg k5, if_pos k6, if_neg k7, if_pos k8, if_neg k9, if_pos k10, if_neg k11, if_pos k12, if_neg k13, if_pos k14, if_neg k15, if_pos k16, if_neg k17, if_neg k18]
    have e2 : own_f2 p1 = (1 : Int32) := by
      simp only [own_f2, if_neg h0, if_neg h1, if_neg h2, if_neg h3, if_neg h4, if_neg h5, if_neg h6, if_neg h7, if_neg h8, if_neg h9, if_neg h10, if_neg h11, if_neg h12, if_neg h13, if_neg h14, if_neg h15, if_neg h16, if_neg h17, if_neg h18, if_pos h19]
    exact e1.trans e2.symm
  by_cases h20 : p1 < (11264 : Int32)
  · have a : ¬ p1.toInt < 8592 := fun q => h19 (own_cI.mpr q)
    have b : p1.toInt < 11264 := own_cI.mp h20
    have k0 : ¬ (p1 < (97 : Int32)) := fun q => by have z : p1.toInt < 97 := own_cI.mp q; omega
    have k1 : (122 : Int32) < p1 := own_cI.mpr (show 122 < p1.toInt by omega)
    have k2 : ¬ (p1 < (65 : Int32)) := fun q => by have z : p1.toInt < 65 := own_cI.mp q; omega
    have k3 : (90 : Int32) < p1 := own_cI.mpr (show 90 < p1.toInt by omega)
    have k4 : ¬ (p1 = (95 : Int32)) := fun q => by have z : p1.toInt = 95 := congrArg Int32.toInt q; omega
    have k5 : ¬ (p1 < (192 : Int32)) := fun q => by have z : p1.toInt < 192 := own_cI.mp q; omega
    have k6 : (214 : Int32) < p1 := own_cI.mpr (show 214 < p1.toInt by omega)
    have k7 : ¬ (p1 < (216 : Int32)) := fun q => by have z : p1.toInt < 216 := own_cI.mp q; omega
    have k8 : (246 : Int32) < p1 := own_cI.mpr (show 246 < p1.toInt by omega)
    have k9 : ¬ (p1 < (248 : Int32)) := fun q => by have z : p1.toInt < 248 := own_cI.mp q; omega
    have k10 : (767 : Int32) < p1 := own_cI.mpr (show 767 < p1.toInt by omega)
    have k11 : ¬ (p1 < (880 : Int32)) := fun q => by have z : p1.toInt < 880 := own_cI.mp q; omega
    have k12 : (893 : Int32) < p1 := own_cI.mpr (show 893 < p1.toInt by omega)
    have k13 : ¬ (p1 < (895 : Int32)) := fun q => by have z : p1.toInt < 895 := own_cI.mp q; omega
    have k14 : (8191 : Int32) < p1 := own_cI.mpr (show 8191 < p1.toInt by omega)
    have k15 : ¬ (p1 < (8204 : Int32)) := fun q => by have z : p1.toInt < 8204 := own_cI.mp q; omega
    have k16 : (8205 : Int32) < p1 := own_cI.mpr (show 8205 < p1.toInt by omega)
    have k17 : ¬ (p1 < (8304 : Int32)) := fun q => by have z : p1.toInt < 8304 := own_cI.mp q; omega
    have k18 : (8591 : Int32) < p1 := own_cI.mpr (show 8591 < p1.toInt by omega)
    have k19 : p1 < (11264 : Int32) := own_cI.mpr (show p1.toInt < 11264 by omega)
    have k20 : p1 < (12289 : Int32) := own_cI.mpr (show p1.toInt < 12289 by omega)
    have k21 : p1 < (63744 : Int32) := own_cI.mpr (show p1.toInt < 63744 by omega)
    have k22 : p1 < (65008 : Int32) := own_cI.mpr (show p1.toInt < 65008 by omega)
    have k23 : p1 < (65536 : Int32) := own_cI.mpr (show p1.toInt < 65536 by omega)
    have e1 : own_f1 p1 = (0 : Int32) := by
      simp only [own_f1, own_f1_12, own_f1_24, own_f1_30, own_f1_44, own_f1_58, own_f1_72, own_f1_86, own_f1_100, own_f1_114, own_f1_128, own_f1_142, own_f1_155, own_f1_167, own_f1_179, if_neg k0, if_pos k1, if_neg k2, if_pos k3, if_neg k4, if_neg k5, if_pos k6, if_neg k7, if_pos k8, if_neg k9, if_pos k10, if_neg k11, if_pos k12, if_neg k13, if_pos k14, if_neg k15, if_pos k16, if_neg k17, if_pos k18, if_pos k19, if_pos k20, if_pos k21, if_pos k22, if_pos k23]
    have e2 : own_f2 p1 = (0 : Int32) := by
      simp only [own_f2, if_neg h0, if_neg h1, if_neg h2, if_neg h3, if_neg h4, if_neg h5, if_neg h6, if_neg h7, if_neg h8, if_neg h9, if_neg h10, if_neg h11, if_neg h12, if_neg h13, if_neg h14, if_neg h15, if_neg h16, if_neg h17, if_neg h18, if_neg h19, if_pos h20]
    exact e1.trans e2.symm
  by_cases h21 : p1 < (12272 : Int32)
  · have a : ¬ p1.toInt < 11264 := fun q => h20 (own_cI.mpr q)
    have b : p1.toInt < 12272 := own_cI.mp h21
    have k0 : ¬ (p1 < (97 : Int32)) := fun q => by have z : p1.toInt < 97 := own_cI.mp q; omega
    have k1 : (122 : Int32) < p1 := own_cI.mpr (show 122 < p1.toInt by omega)
    have k2 : ¬ (p1 < (65 : Int32)) := fun q => by have z : p1.toInt < 65 := own_cI.mp q; omega
    have k3 : (90 : Int32) < p1 := own_cI.mpr (show 90 < p1.toInt by omega)
    have k4 : ¬ (p1 = (95 : Int32)) := fun q => by have z : p1.toInt = 95 := congrArg Int32.toInt q; omega
    have k5 : ¬ (p1 < (192 : Int32)) := fun q => by have z : p1.toInt < 192 := own_cI.mp q; omega
    have k6 : (214 : Int32) < p1 := own_cI.mpr (show 214 < p1.toInt by omega)
    have k7 : ¬ (p1 < (216 : Int32)) := fun q => by have z : p1.toInt < 216 := own_cI.mp q; omega
    have k8 : (246 : Int32) < p1 := own_cI.mpr (show 246 < p1.toInt by omega)
    have k9 : ¬ (p1 < (248 : Int32)) := fun q => by have z : p1.toInt < 248 := own_cI.mp q; omega
    have k10 : (767 : Int32) < p1 := own_cI.mpr (show 767 < p1.toInt by omega)
    have k11 : ¬ (p1 < (880 : Int32)) := fun q => by have z : p1.toInt < 880 := own_cI.mp q; omega
    have k12 : (893 : Int32) < p1 := own_cI.mpr (show 893 < p1.toInt by omega)
    have k13 : ¬ (p1 < (895 : Int32)) := fun q => by have z : p1.toInt < 895 := own_cI.mp q; omega
    have k14 : (8191 : Int32) < p1 := own_cI.mpr (show 8191 < p1.toInt by omega)
    have k15 : ¬ (p1 < (8204 : Int32)) := fun q => by have z : p1.toInt < 8204 := own_cI.mp q; omega
    have k16 : (8205 : Int32) < p1 := own_cI.mpr (show 8205 < p1.toInt by omega)
    have k17 : ¬ (p1 < (8304 : Int32)) := fun q => by have z : p1.toInt < 8304 := own_cI.mp q; omega
    have k18 : (8591 : Int32) < p1 := own_cI.mpr (show 8591 < p1.toInt by omega)
    have k19 : ¬ (p1 < (11264 : Int32)) := fun q => by have z : p1.toInt < 11264 := own_cI.mp q; omega
    have k20 : ¬ ((12271 : Int32) < p1) := fun q => by have z : 12271 < p1.toInt := own_cI.mp q; omega
    have e1 : own_f1 p1 = (1 : Int32) := by
      simp only [own_f1, own_f1_12, own_f1_24, own_f1_30, own_f1_44, own_f1_58, own_f1_72, own_f1_86, own_f1_100, own_f1_114, own_f1_128, if_neg k0, if_pos k1, if_neg k2, if_pos k3, if_neg k4, if_neg k5, if_pos k6, if_neg k7, if_pos k8, if_neg k9, if_pos k10, if_neg k11, if_pos k12, if_neg k13, if_pos k14, if_neg k15, if_pos k16, if_neg k17, if_pos k18, if_neg k19, if_neg k20]
    have e2 : own_f2 p1 = (1 : Int32) := by
      simp only [own_f2, if_neg h0, if_neg h1, if_neg h2, if_neg h3, if_neg h4, if_neg h5, if_neg h6, if_neg h7, if_neg h8, if_neg h9, if_neg h10, if_neg h11, if_neg h12, if_neg h13, if_neg h14, if_neg h15, if_neg h16, if_neg h17, if_neg h18, if_neg h19, if_neg h20, if_pos h21]
    exact e1.trans e2.symm
  by_cases h22 : p1 < (12289 : Int32)
  · have a : ¬ p1.toInt < 12272 := fun q => h21 (own_cI.mpr q)
    have b : p1.toInt < 12289 := own_cI.mp h22
    have k0 : ¬ (p1 < (97 : Int32)) := fun q => by have z : p1.toInt < 97 := own_cI.mp q; omega
    have k1 : (122 : Int32) < p1 := own_cI.mpr (show 122 < p1.toInt by omega)
    have k2 : ¬ (p1 < (65 : Int32)) := fun q => by have z : p1.toInt < 65 := own_cI.mp q; omega
    have k3 : (90 : Int32) < p1 := own_cI.mpr (show 90 < p1.toInt by omega)
    have k4 : ¬ (p1 = (95 : Int32)) := fun q => by have z : p1.toInt = 95 := congrArg Int32.toInt q; omega
    have k5 : ¬ (p1 < (192 : Int32)) := fun q => by have z : p1.toInt < 192 := own_cI.mp q; omega
    have k6 : (214 : Int32) < p1 := own_cI.mpr (show 214 < p1.toInt by omega)
    have k7 : ¬ (p1 < (216 : Int32)) := fun q => by have z : p1.toInt < 216 := own_cI.mp q; omega
    have k8 : (246 : Int32) < p1 := own_cI.mpr (show 246 < p1.toInt by omega)
    have k9 : ¬ (p1 < (248 : Int32)) := fun q => by have z : p1.toInt < 248 := own_cI.mp q; omega
    have k10 : (767 : Int32) < p1 := own_cI.mpr (show 767 < p1.toInt by omega)
    have k11 : ¬ (p1 < (880 : Int32)) := fun q => by have z : p1.toInt < 880 := own_cI.mp q; omega
    have k12 : (893 : Int32) < p1 := own_cI.mpr (show 893 < p1.toInt by omega)
    have k13 : ¬ (p1 < (895 : Int32)) := fun q => by have z : p1.toInt < 895 := own_cI.mp q; omega
    have k14 : (8191 : Int32) < p1 := own_cI.mpr (show 8191 < p1.toInt by omega)
    have k15 : ¬ (p1 < (8204 : Int32)) := fun q => by have z : p1.toInt < 8204 := own_cI.mp q; omega
    have k16 : (8205 : Int32) < p1 := own_cI.mpr (show 8205 < p1.toInt by omega)
    have k17 : ¬ (p1 < (8304 : Int32)) := fun q => by have z : p1.toInt < 8304 := own_cI.mp q; omega
    have k18 : (8591 : Int32) < p1 := own_cI.mpr (show 8591 < p1.toInt by omega)
    have k19 : ¬ (p1 < (11264 : Int32)) := fun q => by have z : p1.toInt < 11264 := own_cI.mp q; omega
    have k20 : (12271 : Int32) < p1 := own_cI.mpr (show 12271 < p1.toInt by omega)
    have k21 : p1 < (12289 : Int32) := own_cI.mpr (show p1.toInt < 12289 by omega)
    have k22 : p1 < (63744 : Int32) := own_cI.mpr (show p1.toInt < 63744 by omega)
    have k23 : p1 < (65008 : Int32) := own_cI.mpr (show p1.toInt < 65008 by omega)
    have k24 : p1 < (65536 : Int32) := own_cI.mpr (show p1.toInt < 65536 by omega)
    have e1 : own_f1 p1 = (0 : Int32) := by
      simp only [own_f1, own_f1_12, own_f1_24, own_f1_30, own_f1_44, own_f1_58, own_f1_72, own_f1_86, own_f1_100, own_f1_114, own_f1_128, own_f1_142, own_f1_155, own_f1_167, own_f1_179, if_neg k0, if_pos k1, if_neg k2, if_pos k3, if_neg k4, if_neg k5, if_pos k6, if_neg k7, if_pos k8, if_neg k9, if_pos k10, if_neg k11, if_pos k12, if_neg k13, if_pos k14, if_neg k15, if_pos k16, if_neg k17, if_pos k18, if_neg k19, if_pos k20, if_pos k21, if_pos k22, if_pos k23, if_pos k24]
    have e2 : own_f2 p1 = (0 : Int32) := by
      simp only [own_f2, if_neg h0, if_neg h1, if_neg h2, if_neg h3, if_neg h4, if_neg h5, if_neg h6, if_neg h7, if_neg h8, if_neg h9, if_neg h10, if_neg h11, if_neg h12, if_neg h13, if_neg h14, if_neg h15, if_neg h16, if_neg h17, if_neg h18, if_neg h19, if_neg h20, if_neg h21, if_pos h22]
    exact e1.trans e2.symm
  by_cases h23 : p1 < (55296 : Int32)
  · have a : ¬ p1.toInt < 12289 := fun q => h22 (own_cI.mpr q)
    have b : p1.toInt < 55296 := own_cI.mp h23
    have k0 : ¬ (p1 < (97 : Int32)) := fun q => by have z : p1.toInt < 97 := own_cI.mp q; omega
    have k1 : (122 : Int32) < p1 := own_cI.mpr (show 122 < p1.toInt by omega)
    have k2 : ¬ (p1 < (65 : Int32)) := fun q => by have z : p1.toInt < 65 := own_cI.mp q; omega
    have k3 : (90 : Int32) < p1 := own_cI.mpr (show 90 < p1.toInt by omega)
    have k4 : ¬ (p1 = (95 : Int32)) := fun q => by have z : p1.toInt = 95 := congrArg Int32.toInt q; omega
    have k5 : ¬ (p1 < (192 : Int32)) := fun q => by have z : p1.toInt < 192 := own_cI.mp q; omega
    have k6 : (214 : Int32) < p1 := own_cI.mpr (show 214 < p1.toInt by omega)
    have k7 : ¬ (p1 < (216 : Int32)) := fun q => by have z : p1.toInt < 216 := own_cI.mp q; omega
    have k8 : (246 : Int32) < p1 := own_cI.mpr (show 246 < p1.toInt by omega)
    have k9 : ¬ (p1 < (248 : Int32)) := fun q => by have z : p1.toInt < 248 := own_cI.mp q; omega
    have k10 : (767 : Int32) < p1 := own_cI.mpr (show 767 < p1.toInt by omega)
    have k11 : ¬ (p1 < (880 : Int32)) := fun q => by have z : p1.toInt < 880 := own_cI.mp q; omega
    have k12 : (893 : Int32) < p1 := own_cI.mpr (show 893 < p1.toInt by omega)
    have k13 : ¬ (p1 < (895 : Int32)) := fun q => by have z : p1.toInt < 895 := own_cI.mp q; omega
    have k14 : (8191 : Int32) < p1 := own_cI.mpr (show 8191 < p1.toInt by omega)
    have k15 : ¬ (p1 < (8204 : Int32)) := fun q => by have z : p1.toInt < 8204 := own_cI.mp q; omega
    have k16 : (8205 : Int32) < p1 := own_cI.mpr (show 8205 < p1.toInt by omega)
    have k17 : ¬ (p1 < (8304 : Int32)) := fun q => by have z : p1.toInt < 8304 := own_cI.mp q; omega
    have k18 : (8591 : Int32) < p1 := own_cI.mpr (show 8591 < p1.toInt by omega)
    have k19 : ¬ (p1 < (11264 : Int32)) := fun q => by have z : p1.toInt < 11264 := own_cI.mp q; omega
    have k20 : (12271 : Int32) < p1 := own_cI.mpr (show 12271 < p1.toInt by omega)
    have k21 : ¬ (p1 < (12289 : Int32)) := fun q => by have z : p1.toInt < 12289 := own_cI.mp q; omega
    have k22 : ¬ ((55295 : Int32) < p1) := fun q => by have z : 55295 < p1.toInt := own_cI.mp q; omega
    have e1 : own_f1 p1 = (1 : Int32) := by
      simp only [own_f1, own_f1_12, own_f1_24, own_f1_30, own_f1_44, own_f1_58, own_f1_72, own_f1_86, own_f1_100, own_f1_114, own_f1_128, own_f1_142, if_neg k0, if_pos k1, if_neg k2, if_pos k3, if_neg k4, if_neg k5, if_pos k6, if_neg k7, if_pos k8, if_neg k9, if_pos k10, if_neg k11, if_pos k12, if_neg k13, if_pos k14, if_neg k15, if_pos k16, if_neg k17, if_pos k18, if_neg k19, if_pos k20, if_neg k21, if_neg k22]
    have e2 : own_f2 p1 = (1 : Int32) := by
      simp only [own_f2, if_neg h0, if_neg h1, if_neg h2, if_neg h3, if_neg h4, if_neg h5, if_neg h6, if_neg h7, if_neg h8, if_neg h9, if_neg h10, if_neg h11, if_neg h12, if_neg h13, if_neg h14, if_neg h15, if_neg h16, if_neg h17, if_neg h18, if_neg h19, if_neg h20, if_neg h21, if_neg h22, if_pos h23]
    exact e1.trans e2.symm
  by_cases h24 : p1 < (63744 : Int32)
  · have a : ¬ p1.toInt < 55296 := fun q => h23 (own_cI.mpr q)
    have b : p1.toInt < 63744 := own_cI.mp h24
    have k0 : ¬ (p1 < (97 : Int32)) := fun q => by have z : p1.toInt < 97 := own_cI.mp q; omega
    have k1 : (122 : Int32) < p1 := own_cI.mpr (show 122 < p1.toInt by omega)
    have k2 : ¬ (p1 < (65 : Int32)) := fun q => by have z : p1.toInt < 65 := own_cI.mp q; omega
    have k3 : (90 : Int32) < p1 := own_cI.mpr (show 90 < p1.toInt by omega)
    have k4 : ¬ (p1 = (95 : Int32)) := fun q => by have z : p1.toInt = 95 := congrArg Int32.toInt q; omega
    have k5 : ¬ (p1 < (192 : Int32)) := fun q => by have z : p1.toInt < 192 := own_cI.mp q; omega
    have k6 : (214 : Int32) < p1 := own_cI.mpr (show 214 < p1.toInt by omega)
    have k7 : ¬ (p1 < (216 : Int32)) := fun q => by have z : p1.toInt < 216 := own_cI.mp q; omega
    have k8 : (246 : Int32) < p1 := own_cI.mpr (show 246 < p1.toInt by omega)
    have k9 : ¬ (p1 < (248 : Int32)) := fun q => by have z : p1.toInt < 248 := own_cI.mp q; omega
    have k10 : (767 : Int32) < p1 := own_cI.mpr (show 767 < p1.toInt by omega)
    have k11 : ¬ (p1 < (880 : Int32)) := fun q => by have z : p1.toInt < 880 := own_cI.mp q; omega
    have k12 : (893 : Int32) < p1 := own_cI.mpr (show 893 < p1.toInt by omega)
    have k13 : ¬ (p1 < (895 : Int32)) := fun q => by have z : p1.toInt < 895 := own_cI.mp q; omega
    have k14 : (8191 : Int32) < p1 := own_cI.mpr (show 8191 < p1.toInt by omega)
    have k15 : ¬ (p1 < (8204 : Int32)) := fun q => by have z : p1.toInt < 8204 := own_cI.mp q; omega
    have k16 : (8205 : Int32) < p1 := own_cI.mpr (show 8205 < p1.toInt by omega)
    have k17 : ¬ (p1 < (8304 : Int32)) := fun q => by have z : p1.toInt < 8304 := own_cI.mp q; omega
    have k18 : (8591 : Int32) < p1 := own_cI.mpr (show 8591 < p1.toInt by omega)
    have k19 : ¬ (p1 < (11264 : Int32)) := fun q => by have z : p1.toInt < 11264 := own_cI.mp q; omega
    have k20 : (12271 : Int32) < p1 := own_cI.mpr (show 12271 < p1.toInt by omega)
    have k21 : ¬ (p1 < (12289 : Int32)) := fun q => by have z : p1.toInt < 12289 := own_cI.mp q; omega
    have k22 : (55295 : Int32) < p1 := own_cI.mpr (show 55295 < p1.toInt by omega)
    have k23 : p1 < (63744 : Int32) := own_cI.mpr (show p1.toInt < 63744 by omega)
    have k24 : p1 < (65008 : Int32) := own_cI.mpr (show p1.toInt < 65008 by omega)
    have k25 : p1 < (65536 : Int32) := own_cI.mpr (show p1.toInt < 65536 by omega)
    have e1 : own_f1 p1 = (0 : Int32) := by
      simp only [own_f1, own_f1_12, own_f1_24, own_f1_30, own_f1_44, own_f1_58, own_f1_72, own_f1_86, own_f1_100, own_f1_114, own_f1_128, own_f1_142, own_f1_155, own_f1_167, own_f1_179, if_neg k0, if_pos k1, if_neg k2, if_pos k3, if_neg k4, if_neg k5, if_pos k6, if_neg k7, if_pos k8, if_neg k9, if_pos k10, if_neg k11, if_pos k12, if_neg k13, if_pos k14, if_neg k15, if_pos k16, if_neg k17, if_pos k18, if_neg k19, if_pos k20, if_neg k21, if_pos k22, if_pos k23, if_pos k24, if_pos k25]
    have e2 : own_f2 p1 = (0 : Int32) := by
      simp only [own_f2, if_neg h0, if_neg h1, if_neg h2, if_neg h3, if_neg h4, if_neg h5, if_neg h6, if_neg h7, if_neg h8, if_neg h9, if_neg h10, if_neg h11, if_neg h12, if_neg h13, if_neg h14, if_neg h15, if_neg h16, if_neg h17, if_neg h18, if_neg h19, if_neg h20, if_neg h21, if_neg h22, if_neg h23, if_pos h24]
    exact e1.trans e2.symm
  by_cases h25 : p1 < (64976 : Int32)
  · have a : ¬ p1.toInt < 63744 := fun q => h24 (own_cI.mpr q)
    have b : p1.toInt < 64976 := own_cI.mp h25
    have k0 : ¬ (p1 < (97 : Int32)) := fun q => by have z : p1.toInt < 97 := own_cI.mp q; omega
    have k1 : (122 : Int32) < p1 := own_cI.mpr (show 122 < p1.toInt by omega)
    have k2 : ¬ (p1 < (65 : Int32)) := fun q => by have z : p1.toInt < 65 := own_cI.mp q; omega
    have k3 : (90 : Int32) < p1 := own_cI.mpr (show 90 < p1.toInt by omega)
    have k4 : ¬ (p1 = (95 : Int32)) := fun q => by have z : p1.toInt = 95 := congrArg Int32.toInt q; omega
    have k5 : ¬ (p1 < (192 : Int32)) := fun q => by have z : p1.toInt < 192 := own_cI.mp q; omega
    have k6 : (214 : Int32) < p1 := own_cI.mpr (show 214 < p1.toInt by omega)
    have k7 : ¬ (p1 < (216 : Int32)) := fun q => by have z : p1.toInt < 216 := own_cI.mp q; omega
    have k8 : (246 : Int32) < p1 := own_cI.mpr (show 246 < p1.toInt by omega)
    have k9 : ¬ (p1 < (248 : Int32)) := fun q => by have z : p1.toInt < 248 := own_cI.mp q; omega
    have k10 : (767 : Int32) < p1 := own_cI.mpr (show 767 < p1.toInt by omega)
    have k11 : ¬ (p1 < (880 : Int32)) := fun q => by have z : p1.toInt < 880 := own_cI.mp q; omega
    have k12 : (893 : Int32) < p1 := own_cI.mpr (show 893 < p1.toInt by omega)
    have k13 : ¬ (p1 < (895 : Int32)) := fun q => by have z : p1.toInt < 895 := own_cI.mp q; omega
    have k14 : (8191 : Int32) < p1 := own_cI.mpr (show 8191 < p1.toInt by omega)
    have k15 : ¬ (p1 < (8204 : Int32)) := fun q => by have z : p1.toInt < 8204 := own_cI.mp q; omega
    have k16 : (8205 : Int32) < p1 := own_cI.mpr (show 8205 < p1.toInt by omega)
    have k17 : ¬ (p1 < (8304 : Int32)) := fun q => by have z : p1.toInt < 8304 := own_cI.mp q; omega
    have k18 : (8591 : Int32) < p1 := own_cI.mpr (show 8591 < p1.toInt by omega)
    have k19 : ¬ (p1 < (11264 : Int32)) := fun q => by have z : p1.toInt < 11264 := own_cI.mp q; omega
    have k20 : (12271 : Int32) < p1 := own_cI.mpr (show 12271 < p1.toInt by omega)
    have k21 : ¬ (p1 < (12289 : Int32)) := fun q => by have z : p1.toInt < 12289 := own_cI.mp q; omega
    have k22 : (55295 : Int32) < p1 := own_cI.mpr (show 55295 < p1.toInt by omega)
    have k23 : ¬ (p1 < (63744 : Int32)) := fun q => by have z : p1.toInt < 63744 := own_cI.mp q; omega
    have k24 : ¬ ((64975 : Int32) < p1) := fun q => by have z : 64975 < p1.toInt := own_cI.mp q; omega
    have e1 : own_f1 p1 = (1 : Int32) := by
      simp only [own_f1, own_f1_12, own_f1_24, own_f1_30, own_f1_44, own_f1_58, own_f1_72, own_f1_86, own_f1_100, own_f1_114, own_f1_128, own_f1_142, own_f1_155, if_neg k0, if_pos k1, if_neg k2, if_pos k3, if_neg k4, if_neg k5, if_pos k6, if_neg k7, if_pos k8, if_neg k9, if_pos k10, if_neg k11, if_pos k12, if_neg k13, if_pos k14, if_neg k15, if_pos k16, if_neg k17, if_pos k18, if_neg k19, if_pos k20, if_neg k21, if_pos k22, if_neg k23, if_neg k24]
    have e2 : own_f2 p1 = (1 : Int32) := by
      simp only [own_f2, if_neg h0, if_neg h1, if_neg h2, if_neg h3, if_neg h4, if_neg h5, if_neg h6, if_neg h7, if_neg h8, if_neg h9, if_neg h10, if_neg h11, if_neg h12, if_neg h13, if_neg h14, if_neg h15, if_neg h16, if_neg h17, if_neg h18, if_neg h19, if_neg h20, if_neg h21, if_neg h22, if_neg h23, if_neg h24, if_pos h25]
    exact e1.trans e2.symm
  by_cases h26 : p1 < (65008 : Int32)
  · have a : ¬ p1.toInt < 64976 := fun q => h25 (own_cI.mpr q)
    have b : p1.toInt < 65008 := own_cI.mp h26
    have k0 : ¬ (p1 < (97 : Int32)) := fun q => by have z : p1.toInt < 97 := own_cI.mp q; omega
    have k1 : (122 : Int32) < p1 := own_cI.mpr (show 122 < p1.toInt by omega)
    have k2 : ¬ (p1 < (65 : Int32)) := fun q => by have z : p1.toInt < 65 := own_cI.mp q; omega
    have k3 : (90 : Int32) < p1 := own_cI.mpr (show 90 < p1.toInt by omega)
    have k4 : ¬ (p1 = (95 : Int32)) := fun q => by have z : p1.toInt = 95 := congrArg Int32.toInt q; omega
    have k5 : ¬ (p1 < (192 : Int32)) := fun q => by have z : p1.toInt < 192 := own_cI.mp q; omega
    have k6 : (214 : Int32) < p1 := own_cI.mpr (show 214 < p1.toInt by omega)
    have k7 : ¬ (p1 < (216 : Int32)) := fun q => by have z : p1.toInt < 216 := own_cI.mp q; omega
    have k8 : (246 : Int32) < p1 := own_cI.mpr (show 246 < p1.toInt by omega)
    have k9 : ¬ (p1 < (248 : Int32)) := fun q => by have z : p1.toInt < 248 := own_cI.mp q; omega
    have k10 : (767 : Int32) < p1 := own_cI.mpr (show 767 < p1.toInt by omega)
    have k11 : ¬ (p1 < (880 : Int32)) := fun q => by have z : p1.toInt < 880 := own_cI.mp q; omega
    have k12 : (893 : Int32) < p1 := own_cI.mpr (show 893 < p1.toInt by omega)
    have k13 : ¬ (p1 < (895 : Int32)) := fun q => by have z : p1.toInt < 895 := own_cI.mp q; omega
    have k14 : (8191 : Int32) < p1 := own_cI.mpr (show 8191 < p1.toInt by omega)
    have k15 : ¬ (p1 < (8204 : Int32)) := fun q => by have z : p1.toInt < 8204 := own_cI.mp q; omega
    have k16 : (8205 : Int32) < p1 := own_cI.mpr (show 8205 < p1.toInt by omega)
    have k17 : ¬ (p1 < (8304 : Int32)) := fun q => by have z : p1.toInt < 8304 := own_cI.mp q; omega
    have k18 : (8591 : Int32) < p1 := own_cI.mpr (show 8591 < p1.toInt by omega)
    have k19 : ¬ (p1 < (11264 : Int32)) := fun q => by have z : p1.toInt < 11264 := own_cI.mp q; omega
    have k20 : (12271 : Int32) < p1 := own_cI.mpr (show 12271 < p1.toInt by omega)
    have k21 : ¬ (p1 < (12289 : Int32)) := fun q => by have z : p1.toInt < 12289 := own_cI.mp q; omega
    have k22 : (55295 : Int32) < p1 := own_cI.mpr (show 55295 < p1.toInt by omega)
    have k23 : ¬ (p1 < (63744 : Int32)) := fun q => by have z : p1.toInt < 63744 := own_cI.mp q; omega
    have k24 : (64975 : Int32) < p1 := own_cI.mpr (show 64975 < p1.toInt by omega)
    have k25 : p1 < (65008 : Int32) := own_cI.mpr (show p1.toInt < 65008 by omega)
    have k26 : p1 < (65536 : Int32) := own_cI.mpr (show p1.toInt < 65536 by omega)
    have e1 : own_f1 p1 = (0 : Int32) := by
      simp only [own_f1, own_f1_12, own_f1_24, own_f1_30, own_f1_44, own_f1_58, own_f1_72, own_f1_86, own_f1_100, own_f1_114, own_f1_128, own_f1_142, own_f1_155, own_f1_167, own_f1_179, if_neg k0, if_pos k1, if_neg k2, if_pos k3, if_neg k4, if_neg k5, if_pos k6, if_neg k7, if_pos k8, if_neg k9, if_pos k10, if_neg k11, if_pos k12, if_neg k13, if_pos k14, if_neg k15, if_pos k16, if_neg k17, if_pos k18, if_neg k19, if_pos k20, if_neg k21, if_pos k22, if_neg k23, if_pos k24, if_pos k25, if_pos k26]
    have e2 : own_f2 p1 = (0 : Int32) := by
      simp only [own_f2, if_neg h0, if_neg h1, if_neg h2, if_neg h3, if_neg h4, if_neg h5, if_neg h6, if_neg h7, if_neg h8, if_neg h9, if_neg h10, if_neg h11, if_neg h12, if_neg h13, if_neg h14, if_neg h15, if_neg h16, if_neg h17, if_neg h18, if_neg h19, if_neg h20, if_neg h21, if_neg h22, if_neg h23, if_neg h24, if_neg h25, if_pos h26]
    exact e1.trans e2.symm
  by_cases h27 : p1 < (65534 : Int32)
  · have a : ¬ p1.toInt < 65008 := fun q => h26 (own_cI.mpr q)
    have b : p1.toInt < 65534 := own_cI.mp h27
    have k0 : ¬ (p1 < (97 : Int32)) := fun q => by have z : p1.toInt < 97 := own_cI.mp q; omega
    have k1 : (122 : Int32) < p1 := own_cI.mpr (show 122 < p1.toInt by omega)
    have k2 : ¬ (p1 < (65 : Int32)) := fun q => by have z : p1.toInt < 65 := own_cI.mp q; omega
    have k3 : (90 : Int32) < p1 := own_cI.mpr (show 90 < p1.toInt by omega)
    have k4 : ¬ (p1 = (95 : Int32)) := fun q => by have z : p1.toInt = 95 := congrArg Int32.toInt q; omega
    have k5 : ¬ (p1 < (192 : Int32)) := fun q => by have z : p1.toInt < 192 := own_cI.mp q; omega
    have k6 : (214 : Int32) < p1 := own_cI.mpr (show 214 < p1.toInt by omega)
    have k7 : ¬ (p1 < (216 : Int32)) := fun q => by have z : p1.toInt < 216 := own_cI.mp q; omega
    have k8 : (246 : Int32) < p1 := own_cI.mpr (show 246 < p1.toInt by omega)
    have k9 : ¬ (p1 < (248 : Int32)) := fun q => by have z : p1.toInt < 248 := own_cI.mp q; omega
    have k10 : (767 : Int32) < p1 := own_cI.mpr (show 767 < p1.toInt by omega)
    have k11 : ¬ (p1 < (880 : Int32)) := fun q => by have z : p1.toInt < 880 := own_cI.mp q; omega
    have k12 : (893 : Int32) < p1 := own_cI.mpr (show 893 < p1.toInt by omega)
    have k13 : ¬ (p1 < (895 : Int32)) := fun q => by have z : p1.toInt < 895 := own_cI.mp q; omega
    have k14 : (8191 : Int32) < p1 := own_cI.mpr (show 8191 < p1.toInt by omega)
    have k15 : ¬ (p1 < (8204 : Int32)) := fun q => by have z : p1.toInt < 8204 := own_cI.mp q; omega
    have k16 : (8205 : Int32) < p1 := own_cI.mpr (show 8205 < p1.toInt by omega)
    have k17 : ¬ (p1 < (8304 : Int32)) := fun q => by have z : p1.toInt < 8304 := own_cI.mp q; omega
    have k18 : (8591 : Int32) < p1 := own_cI.mpr (show 8591 < p1.toInt by omega)
    have k19 : ¬ (p1 < (11264 : Int32)) := fun q => by have z : p1.toInt < 11264 := own_cI.mp q; omega
    have k20 : (12271 : Int32) < p1 := own_cI.mpr (show 12271 < p1.toInt by omega)
    have k21 : ¬ (p1 < (12289 : Int32)) := fun q => by have z : p1.toInt < 12289 := own_cI.mp q; omega
    have k22 : (55295 : Int32) < p1 := own_cI.mpr (show 55295 < p1.toInt by omega)
    have k23 : ¬ (p1 < (63744 : Int32)) := fun q => by have z : p1.toInt < 63744 := own_cI.mp q; omega
    have k24 : (64975 : Int32) < p1 := own_cI.mpr (show 64975 < p1.toInt by omega)
    have k25 : ¬ (p1 < (65008 : Int32)) := fun q => by have z : p1.toInt < 65008 := own_cI.mp q; omega
    have k26 : ¬ ((65533 : Int32) < p1) := fun q => by have z : 65533 < p1.toInt := own_cI.mp q; omega
    have e1 : own_f1 p1 = (1 : Int32) := by
      simp only [own_f1, own_f1_12, own_f1_24, own_f1_30, own_f1_44, own_f1_58, own_f1_72, own_f1_86, own_f1_100, own_f1_114, own_f1_128, own_f1_142, own_f1_155, own_f1_167, if_neg k0, if_pos k1, if_neg k2, if_pos k3, if_neg k4, if_neg k5, if_pos k6, if_neg k7, if_pos k8, if_neg k9, if_pos k10, if_neg k11, if_pos k12, if_neg k13, if_pos k14, if_neg k15, if_pos k16, if_neg k17, if_pos k18, if_neg k19, if_pos k20, if_neg k21, if_pos k22, if_neg k23, if_pos k24, if_neg k25, if_neg k26]
    have e2 : own_f2 p1 = (1 : Int32) := by
      simp only [own_f2, if_neg h0, if_neg h1, if_neg h2, if_neg h3, if_neg h4, if_neg h5, if_neg h6, if_neg h7, if_neg h8, if_neg h9, if_neg h10, if_neg h11, if_neg h12, if_neg h13, if_neg h14, if_neg h15, if_neg h16, if_neg h17, if_neg h18, if_neg h19, if_neg h20, if_neg h21, if_neg h22, if_neg h23, if_neg h24, if_neg h25, if_neg h26, if_pos h27]
    exact e1.trans e2.symm
  by_cases h28 : p1 < (65536 : Int32)
  · have a : ¬ p1.toInt < 65534 := fun q => h27 (own_cI.mpr q)
    have b : p1.toInt < 65536 := own_cI.mp h28
    have k0 : ¬ (p1 < (97 : Int32)) := fun q => by have z : p1.toInt < 97 := own_cI.mp q; omega
    have k1 : (122 : Int32) < p1 := own_cI.mpr (show 122 < p1.toInt by omega)
    have k2 : ¬ (p1 < (65 : Int32)) := fun q => by have z : p1.toInt < 65 := own_cI.mp q; omega
    have k3 : (90 : Int32) < p1 := own_cI.mpr (show 90 < p1.toInt by omega)
    have k4 : ¬ (p1 = (95 : Int32)) := fun q => by have z : p1.toInt = 95 := congrArg Int32.toInt q; omega
    have k5 : ¬ (p1 < (192 : Int32)) := fun q => by have z : p1.toInt < 192 := own_cI.mp q; omega
    have k6 : (214 : Int32) < p1 := own_cI.mpr (show 214 < p1.toInt by omega)
    have k7 : ¬ (p1 < (216 : Int32)) := fun q => by have z : p1.toInt < 216 := own_cI.mp q; omega
    have k8 : (246 : Int32) < p1 := own_cI.mpr (show 246 < p1.toInt by omega)
    have k9 : ¬ (p1 < (248 : Int32)) := fun q => by have z : p1.toInt < 248 := own_cI.mp q; omega
    have k10 : (767 : Int32) < p1 := own_cI.mpr (show 767 < p1.toInt by omega)
    have k11 : ¬ (p1 < (880 : Int32)) := fun q => by have z : p1.toInt < 880 := own_cI.mp q; omega
    have k12 : (893 : Int32) < p1 := own_cI.mpr (show 893 < p1.toInt by omega)
    have k13 : ¬ (p1 < (895 : Int32)) := fun q => by have z : p1.toInt < 895 := own_cI.mp q; omega
    have k14 : (8191 : Int32) < p1 := own_cI.mpr (show 8191 < p1.toInt by omega)
    have k15 : ¬ (p1 < (8204 : Int32)) := fun q => by have z : p1.toInt < 8204 := own_cI.mp q; omega
    have k16 : (8205 : Int32) < p1 := own_cI.mpr (show 8205 < p1.toInt by omega)
    have k17 : ¬ (p1 < (8304 : Int32)) := fun q => by have z : p1.toInt < 8304 := own_cI.mp q; omega
    have k18 : (8591 : Int32) < p1 := own_cI.mpr (show 8591 < p1.toInt by omega)
    have k19 : ¬ (p1 < (11264 : Int32)) := fun q => by have z : p1.toInt < 11264 := own_cI.mp q; omega
    have k20 : (12271 : Int32) < p1 := own_cI.mpr (show 12271 < p1.toInt by omega)
    have k21 : ¬ (p1 < (12289 : Int32)) := fun q => by have z : p1.toInt < 12289 := own_cI.mp q; omega
    have k22 : (55295 : Int32) < p1 := own_cI.mpr (show 55295 < p1.toInt by omega)
    have k23 : ¬ (p1 < (63744 : Int32)) := fun q => by have z : p1.toInt < 63744 := own_cI.mp q; omega
    have k24 : (64975 : Int32) < p1 := own_cI.mpr (show 64975 < p1.toInt by omega)
    have k25 : ¬ (p1 < (65008 : Int32)) := fun q => by have z : p1.toInt < 65008 := own_cI.mp q; omega
    have k26 : (65533 : Int32) < p1 := own_cI.mpr (show 65533 < p1.toInt by omega)
    have k27 : p1 < (65536 : Int32) := own_cI.mpr (show p1.toInt < 65536 by omega)
    have e1 : own_f1 p1 = (0 : Int32) := by
      simp only [own_f1, own_f1_12, own_f1_24, own_f1_30, own_f1_44, own_f1_58, own_f1_72, own_f1_86, own_f1_100, own_f1_114, own_f1_128, own_f1_142, own_f1_155, own_f1_167, own_f1_179, if_neg k0, if_pos k1, if_neg k2, if_pos k3, if_neg k4, if_neg k5, if_pos k6, if_neg k7, if_pos k8, if_neg k9, if_pos k10, if_neg k11, if_pos k12, if_neg k13, if_pos k14, if_neg k15, if_pos k16, if_neg k17, if_pos k18, if_neg k19, if_pos k20, if_neg k21, if_pos k22, if_neg k23, if_pos k24, if_neg k25, if_pos k26, if_pos k27]
    have e2 : own_f2 p1 = (0 : Int32) := by
      simp only [own_f2, if_neg h0, if_neg h1, if_neg h2, if_neg h3, if_neg h4, if_neg h5, if_neg h6, if_neg h7, if_neg h8, if_neg h9, if_neg h10, if_neg h11, if_neg h12, if_neg h13, if_neg h14, if_neg h15, if_neg h16, if_neg h17, if_neg h18, if_neg h19, if_neg h20, if_neg h21, if_neg h22, if_neg h23, if_neg h24, if_neg h25, if_neg h26, if_neg h27, if_pos h28]
    exact e1.trans e2.symm
  by_cases h29 : p1 < (983040 : Int32)
  · have a : ¬ p1.toInt < 65536 := fun q => h28 (own_cI.mpr q)
    have b : p1.toInt < 983040 := own_cI.mp h29
    have k0 : ¬ (p1 < (97 : Int32)) := fun q => by have z : p1.toInt < 97 := own_cI.mp q; omega
    have k1 : (122 : Int32) < p1 := own_cI.mpr (show 122 < p1.toInt by omega)
    have k2 : ¬ (p1 < (65 : Int32)) := fun q => by have z : p1.toInt < 65 := own_cI.mp q; omega
    have k3 : (90 : Int32) < p1 := own_cI.mpr (show 90 < p1.toInt by omega)
    have k4 : ¬ (p1 = (95 : Int32)) := fun q => by have z : p1.toInt = 95 := congrArg Int32.toInt q; omega
    have k5 : ¬ (p1 < (192 : Int32)) := fun q => by have z : p1.toInt < 192 := own_cI.mp q; omega
    have k6 : (214 : Int32) < p1 := own_cI.mpr (show 214 < p1.toInt by omega)
    have k7 : ¬ (p1 < (216 : Int32)) := fun q => by have z : p1.toInt < 216 := own_cI.mp q; omega
    have k8 : (246 : Int32) < p1 := own_cI.mpr (show 246 < p1.toInt by omega)
    have k9 : ¬ (p1 < (248 : Int32)) := fun q => by have z : p1.toInt < 248 := own_cI.mp q; omega
    have k10 : (767 : Int32) < p1 := own_cI.mpr (show 767 < p1.toInt by omega)
    have k11 : ¬ (p1 < (880 : Int32)) := fun q => by have z : p1.toInt < 880 := own_cI.mp q; omega
    have k12 : (893 : Int32) < p1 := own_cI.mpr (show 893 < p1.toInt by omega)
    have k13 : ¬ (p1 < (895 : Int32)) := fun q => by have z : p1.toInt < 895 := own_cI.mp q; omega
    have k14 : (8191 : Int32) < p1 := own_cI.mpr (show 8191 < p1.toInt by omega)
    have k15 : ¬ (p1 < (8204 : Int32)) := fun q => by have z : p1.toInt < 8204 := own_cI.mp q; omega
    have k16 : (8205 : Int32) < p1 := own_cI.mpr (show 8205 < p1.toInt by omega)
    have k17 : ¬ (p1 < (8304 : Int32)) := fun q => by have z : p1.toInt < 8304 := own_cI.mp q; omega
    have k18 : (8591 : Int32) < p1 := own_cI.mpr (show 8591 < p1.toInt by omega)
    have k19 : ¬ (p1 < (11264 : Int32)) := fun q => by have z : p1.toInt < 11264 := own_cI.mp q; omega
    have k20 : (12271 : Int32) < p1 := own_cI.mpr (show 12271 < p1.toInt by omega)
    have k21 : ¬ (p1 < (12289 : Int32)) := fun q => by have z : p1.toInt < 12289 := own_cI.mp q; omega
    have k22 : (55295 : Int32) < p1 := own_cI.mpr (show 55295 < p1.toInt by omega)
    have k23 : ¬ (p1 < (63744 : Int32)) := fun q => by have z : p1.toInt < 63744 := own_cI.mp q; omega
    have k24 : (64975 : Int32) < p1 := own_cI.mpr (show 64975 < p1.toInt by omega)
    have k25 : ¬ (p1 < (65008 : Int32)) := fun q => by have z : p1.toInt < 65008 := own_cI.mp q; omega
    have k26 : (65533 : Int32) < p1 := own_cI.mpr (show 65533 < p1.toInt by omega)
    have k27 : ¬ (p1 < (65536 : Int32)) := fun q => by have z : p1.toInt < 65536 := own_cI.mp q; omega
    have k28 : ¬ ((983039 : Int32) < p1) := fun q => by have z : 983039 < p1.toInt := own_cI.mp q; omega
    have e1 : own_f1 p1 = (1 : Int32) := by
      simp only [own_f1, own_f1_12, own_f1_24, own_f1_30, own_f1_44, own_f1_58, own_f1_72, own_f1_86, own_f1_100, own_f1_114, own_f1_128, own_f1_142, own_f1_155, own_f1_167, own_f1_179, if_neg k0, if_pos k1, if_neg k2, if_pos k3, if_neg k4, if_neg k5, if_pos k6, if_neg k7, if_pos k8, if_neg k9, if_pos k10, if_neg k11, if_pos k12, if_neg k13, if_pos k14, if_neg k15, if_pos k16, if_neg k17, if_pos k18, if_neg k19, if_pos k20, if_neg k21, if_pos k22, if_neg k23, if_pos k24, if_neg k25, if_pos k26, if_neg k27, if_neg k28]
    have e2 : own_f2 p1 = (1 : Int32) := by
      simp only [own_f2, if_neg h0, if_neg h1, if_neg h2, if_neg h3, if_neg h4, if_neg h5, if_neg h6, if_neg h7, if_neg h8, if_neg h9, if_neg h10, if_neg h11, if_neg h12, if_neg h13, if_neg h14, if_neg h15, if_neg h16, if_neg h17, if_neg h18, if_neg h19, if_neg h20, if_neg h21, if_neg h22, if_neg h23, if_neg h24, if_neg h25, if_neg h26, if_neg h27, if_neg h28, if_pos h29]
    exact e1.trans e2.symm
  have a : ¬ p1.toInt < 983040 := fun q => h29 (own_cI.mpr q)
  have k0 : ¬ (p1 < (97 : Int32)) := fun q => by have z : p1.toInt < 97 := own_cI.mp q; omega
  have k1 : (122 : Int32) < p1 := own_cI.mpr (show 122 < p1.toInt by omega)
  have k2 : ¬ (p1 < (65 : Int32)) := fun q => by have z : p1.toInt < 65 := own_cI.mp q; omega
  have k3 : (90 : Int32) < p1 := own_cI.mpr (show 90 < p1.toInt by omega)
  have k4 : ¬ (p1 = (95 : Int32)) := fun q => by have z : p1.toInt = 95 := congrArg Int32.toInt q; omega
  have k5 : ¬ (p1 < (192 : Int32)) := fun q => by have z : p1.toInt < 192 := own_cI.mp q; omega
  have k6 : (214 : Int32) < p1 := own_cI.mpr (show 214 < p1.toInt by omega)
  have k7 : ¬ (p1 < (216 : Int32)) := fun q => by have z : p1.toInt < 216 := own_cI.mp q; omega
  have k8 : (246 : Int32) < p1 := own_cI.mpr (show 246 < p1.toInt by omega)
  have k9 : ¬ (p1 < (248 : Int32)) := fun q => by have z : p1.toInt < 248 := own_cI.mp q; omega
  have k10 : (767 : Int32) < p1 := own_cI.mpr (show 767 < p1.toInt by omega)
  have k11 : ¬ (p1 < (880 : Int32)) := fun q => by have z : p1.toInt < 880 := own_cI.mp q; omega
  have k12 : (893 : Int32) < p1 := own_cI.mpr (show 893 < p1.toInt by omega)
  have k13 : ¬ (p1 < (895 : Int32)) := fun q => by have z : p1.toInt < 895 := own_cI.mp q; omega
  have k14 : (8191 : Int32) < p1 := own_cI.mpr (show 8191 < p1.toInt by omega)
  have k15 : ¬ (p1 < (8204 : Int32)) := fun q => by have z : p1.toInt < 8204 := own_cI.mp q; omega
  have k16 : (8205 : Int32) < p1 := own_cI.mpr (show 8205 < p1.toInt by omega)
  have k17 : ¬ (p1 < (8304 : Int32)) := fun q => by have z : p1.toInt < 8304 := own_cI.mp q; omega
  have k18 : (8591 : Int32) < p1 := own_cI.mpr (show 8591 < p1.toInt by omega)
  have k19 : ¬ (p1 < (11264 : Int32)) := fun q => by have z : p1.toInt < 11264 := own_cI.mp q; omega
  have k20 : (12271 : Int32) < p1 := own_cI.mpr (show 12271 < p1.toInt by omega)
  have k21 : ¬ (p1 < (12289 : Int32)) := fun q => by have z : p1.toInt < 12289 := own_cI.mp q; omega
  have k22 : (55295 : Int32) < p1 := own_cI.mpr (show 55295 < p1.toInt by omega)
  have k23 : ¬ (p1 < (63744 : Int32)) := fun q => by have z : p1.toInt < 63744 := own_cI.mp q; omega
  have k24 : (64975 : Int32) < p1 := own_cI.mpr (show 64975 < p1.toInt by omega)
  have k25 : ¬ (p1 < (65008 : Int32)) := fun q => by have z : p1.toInt < 65008 := own_cI.mp q; omega
  have k26 : (65533 : Int32) < p1 := own_cI.mpr (show 65533 < p1.toInt by omega)
  have k27 : ¬ (p1 < (65536 : Int32)) := fun q => by have z : p1.toInt < 65536 := own_cI.mp q; omega
  have k28 : (983039 : Int32) < p1 := own_cI.mpr (show 983039 < p1.toInt by omega)
  have e1 : own_f1 p1 = (0 : Int32) := by
    simp only [own_f1, own_f1_12, own_f1_24, own_f1_30, own_f1_44, own_f1_58, own_f1_72, own_f1_86, own_f1_100, own_f1_114, own_f1_128, own_f1_142, own_f1_155, own_f1_167, own_f1_179, if_neg k0, if_pos k1, if_neg k2, if_pos k3, if_neg k4, if_neg k5, if_pos k6, if_neg k7, if_pos k8, if_neg k9, if_pos k10, if_neg k11, if_pos k12, if_neg k13, if_pos k14, if_neg k15, if_pos k16, if_neg k17, if_pos k18, if_neg k19, if_pos k20, if_neg k21, if_pos k22, if_neg k23, if_pos k24, if_neg k25, if_pos k26, if_neg k27, if_pos k28]
  have e2 : own_f2 p1 = (0 : Int32) := by
    simp only [own_f2, if_neg h0, if_neg h1, if_neg h2, if_neg h3, if_neg h4, if_neg h5, if_neg h6, if_neg h7, if_neg h8, if_neg h9, if_neg h10, if_neg h11, if_neg h12, if_neg h13, if_neg h14, if_neg h15, if_neg h16, if_neg h17, if_neg h18, if_neg h19, if_neg h20, if_neg h21, if_neg h22, if_neg h23, if_neg h24, if_neg h25, if_neg h26, if_neg h27, if_neg h28, if_neg h29]
  exact e1.trans e2.symm

theorem own_rem (x : Int32) : own_Inb ((x &&& (2147483647 : Int32)) - ((x &&& (2147483647 : Int32)) / (30 : Int32)) * (30 : Int32)) 30 := by
  have h : ((x &&& 2147483647).toInt) = x.toInt % 2 ^ 31 := Jvm.Kit.i32_mask x 2147483647 (k := 31) (by decide) (by decide)
  generalize (x &&& (2147483647 : Int32)) = y at h
  have e30 : (30 : Int32).toInt = 30 := rfl
  have d := Jvm.Kit.i32_div (x := y) (y := 30) (by rw [e30]; omega)
  rw [e30, Int.tdiv_eq_ediv_of_nonneg (by omega)] at d
  have m := Jvm.Kit.i32_mul (p := y / 30) (q := 30) (by rw [d, e30]; omega) (by rw [d, e30]; omega)
  have s := Jvm.Kit.i32_sub (p := y) (q := y / 30 * 30) (by rw [m, d, e30]; omega) (by rw [m, d, e30]; omega)
  rw [m, d, e30] at s
  refine own_inb ?_ ?_
  · rw [Int32.lt_iff_toInt_lt, s]
    have e0 : (0 : Int32).toInt = 0 := rfl
    omega
  · show Int.toNat _ < 30
    rw [s]; omega
theorem pn_0 : plainName "com/example/same_bytes/samebytes/XmlRulesIsNameStartCharPinLaw" = true := by first | (simp [plainName, overriddenIn]; done) | decide +kernel
theorem pd_0_0 : parseMethodDescriptor "(I)Z" = some ⟨[.int], some .boolean⟩ := by decide +kernel
theorem ef_0 (m : MethodId) (p1 : Int32) (p2 : Int32) (p3 : Int32) : entryFrame m #[(.int p1), (.int p2), (.int p3)] maxLocals = mkF m 0 #[.val (.int p1), .val (.int p2), .val (.int p3), .unset, .unset] [] := by first | (simp [entryFrame, mkF, argsToLocals, Value.category, maxLocals]; done) | rfl
def Q0 (Z : State) (p1 : Int32) (p2 : Int32) (p3 : Int32) (h0 : Heap) (n0 : Nat) (v : Option Value) (h : Heap) (L : List Loc) : Prop := v = some (.int (1 : Int32)) ∧ Fr n0 L
set_option maxRecDepth 65536 in
set_option maxHeartbeats 40000000 in
theorem rm0 (l : Launch) (Z : State) (a0 : Array Value) (hw : ∀ d ∈ tables_1, d.before a0 Z = true) (ws : List Jvm.Cond) (p1 : Int32) (p2 : Int32) (p3 : Int32) (h0 : Heap) (n0 : Nat) (Z0 : n0 ≤ h0.size) :
    MetFree l x (head1 (Jvm.Cond.code x code maxLocals ret :: ws) room_1) (fun a U => a = #[(.int p1), (.int p2), (.int p3)] ∧ Z.Warmed39 U.vm ∧ U.heap = h0) (fun _ _ _ _ _ => True) (fun _ U o U' => ∃ v L, o = .returned v ∧ Q0 Z p1 p2 p3 h0 n0 v U'.heap L ∧ FrameEnd U o U' L room_1.cells room_1.slots) := by
  refine MetFree.of_bodySF (plainFor_of_name pn_0) hisR ?_
  intro p e s m args below meth c s₁ Bd hml0 hP hK
  obtain ⟨rfl, hZ, hh⟩ := hP
  have hx := Bd.exec
  have hby := Bd.bytes
  have hml : c.maxLocals = 5 := hml0
  have hown : s.vm.findClass "com/example/same_bytes/samebytes/XmlRulesIsNameStartCharPinLaw" = some m.cls := findClass_of_methodNamed Bd.named
  have hnm := (name_of_methodNamed Bd.named Bd.method).1
  have X0 : Stand p l e room_1 s m #[(.int p1), (.int p2), (.int p3)] below meth c s₁ [] 0 0 := Stand.of_body Bd
  have e0 : s₁.heap = h0 := by rw [← hh, Bd.state]; rfl
  have N0 := Fr.nil n0
  refine own_start (fun t k => castTop (ef_0 m p1 p2 p3) k) ?_
  show own_G p.tables e below _ (s₁.setTop (mkF m 0 #[.val (.int p1), .val (.int p2), .val (.int p3), .unset, .unset] []))
  refine own_step (fun t k => XS.bipush X0.here hx rfl (hb hby at_0) k) ?_
  show own_G p.tables e below _ (s₁.setTop (mkF m 2 #[.val (.int p1), .val (.int p2), .val (.int p3), .unset, .unset] [(.int (30 : Int32))]))
  obtain ⟨T1, h1, k1, X1, e1, E1, A1, st1⟩ := newP X0 hx hZ (hw _ (List.mem_of_getElem? (i := 0) rfl)) e0 (g := (mkF m 2 #[.val (.int p1), .val (.int p2), .val (.int p3), .unset, .unset] [(.int (30 : Int32))])) rfl (hb hby at_2) rfl (by decide) (cap := 30) (by decide) (by decide) (by decide) (by decide)
  obtain ⟨b1, g1⟩ : ∃ z, z = h0.size := ⟨_, rfl⟩
  have sz1 : h0.size ≤ b1 := Nat.le_trans (Keep.refl h0 []).1 (Nat.le_of_eq g1.symm)
  have ge1 : n0 ≤ b1 := Nat.le_trans Z0 sz1
  have K1 : Keep h0 h1 [] := (Keep.refl h0 []).ext E1
  rw [← g1] at A1 st1
  have c2 : own_Ari Z h1 b1 .int (List.replicate 30 (0 : Int32)) := own_Ari_new (ty := .int) A1 (by decide) rfl
  refine own_step st1 ?_
  show own_G p.tables e below _ (T1.setTop (mkF m 4 #[.val (.int p1), .val (.int p2), .val (.int p3), .unset, .unset] [(.ref b1)]))
  obtain ⟨vq3, hl_vq3, c4⟩ : ∃ z : List Int32, z.length = 30 ∧ own_Ari Z h1 b1 .int z := ⟨_, (by first | rfl | (simp only [List.length_set, List.length_replicate])), c2⟩
  refine own_step (fun t k => XS.dup X1.here hx rfl (hb hby at_4) rfl rfl k) ?_
  show own_G p.tables e below _ (T1.setTop (mkF m 5 #[.val (.int p1), .val (.int p2), .val (.int p3), .unset, .unset] [(.ref b1), (.ref b1)]))
  refine own_step (fun t k => XS.iconst X1.here hx rfl (hb hby at_5) k) ?_
  show own_G p.tables e below _ (T1.setTop (mkF m 6 #[.val (.int p1), .val (.int p2), .val (.int p3), .unset, .unset] [(.int (0 : Int32)), (.ref b1), (.ref b1)]))
  refine own_step (fun t k => XS.bipush X1.here hx rfl (hb hby at_6) k) ?_
  show own_G p.tables e below _ (T1.setTop (mkF m 8 #[.val (.int p1), .val (.int p2), .val (.int p3), .unset, .unset] [(.int (65 : Int32)), (.int (0 : Int32)), (.ref b1), (.ref b1)]))
  obtain ⟨T5, h5, X5, e5, W5, c5, st5⟩ := own_iastore X1 hx hZ e1 c4 (own_inb (by decide) (by rw [hl_vq3]; decide)) (g := (mkF m 8 #[.val (.int p1), .val (.int p2), .val (.int p3), .unset, .unset] [(.int (65 : Int32)), (.int (0 : Int32)), (.ref b1), (.ref b1)])) rfl rfl (hb hby at_8)
  have N5 := Fr.snoc X5 N0 ge1
  have c6 : own_Ari Z h5 b1 .int (vq3.set 0 (65 : Int32)) := c5
  have K5 : Keep h0 h5 [] := K1.wr W5 (Or.inr sz1)
  refine own_step st5 ?_
  clear A1 E1 K1 W5 X1 c2 c4 c5 e1 g1 st1 st5
  show own_G p.tables e below _ (T5.setTop (mkF m 9 #[.val (.int p1), .val (.int p2), .val (.int p3), .unset, .unset] [(.ref b1)]))
  obtain ⟨vq8, hl_vq8, c9⟩ : ∃ z : List Int32, z.length = 30 ∧ own_Ari Z h5 b1 .int z := ⟨_, (by first | rfl | (simp only [List.length_set, List.length_replicate, hl_vq3])), c6⟩
  refine own_step (fun t k => XS.dup X5.here hx rfl (hb hby at_9) rfl rfl k) ?_
  show own_G p.tables e below _ (T5.setTop (mkF m 10 #[.val (.int p1), .val (.int p2), .val (.int p3), .unset, .unset] [(.ref b1), (.ref b1)]))
  refine own_step (fun t k => XS.iconst X5.here hx rfl (hb hby at_10) k) ?_
  show own_G p.tables e below _ (T5.setTop (mkF m 11 #[.val (.int p1), .val (.int p2), .val (.int p3), .unset, .unset] [(.int (1 : Int32)), (.ref b1), (.ref b1)]))
  refine own_step (fun t k => XS.bipush X5.here hx rfl (hb hby at_11) k) ?_
  show own_G p.tables e below _ (T5.setTop (mkF m 13 #[.val (.int p1), .val (.int p2), .val (.int p3), .unset, .unset] [(.int (91 : Int32)), (.int (1 : Int32)), (.ref b1), (.ref b1)]))
  obtain ⟨T10, h10, X10, e10, W10, c10, st10⟩ := own_iastore X5 hx hZ e5 c9 (own_inb (by decide) (by rw [hl_vq8]; decide)) (g := (mkF m 13 #[.val (.int p1), .val (.int p2), .val (.int p3), .unset, .unset] [(.int (91 : Int32)), (.int (1 : Int32)), (.ref b1), (.ref b1)])) rfl rfl (hb hby at_13)
  have N10 := Fr.snoc X10 N5 ge1
  have c11 : own_Ari Z h10 b1 .int (vq8.set 1 (91 : Int32)) := c10
  have K10 : Keep h0 h10 [] := K5.wr W10 (Or.inr sz1)
  refine own_step st10 ?_
  show own_G p.tables e below _ (T10.setTop (mkF m 14 #[.val (.int p1), .val (.int p2), .val (.int p3), .unset, .unset] [(.ref b1)]))
  obtain ⟨vq13, hl_vq13, c14⟩ : ∃ z : List Int32, z.length = 30 ∧ own_Ari Z h10 b1 .int z := ⟨_, (by first | rfl | (simp only [List.length_set, List.length_replicate, hl_vq8])), c11⟩
  refine own_step (fun t k => XS.dup X10.here hx rfl (hb hby at_14) rfl rfl k) ?_
  clear K5 N5 W10 X5 c10 c11 c6 c9 e5 st10
  show own_G p.tables e below _ (T10.setTop (mkF m 15 #[.val (.int p1), .val (.int p2), .val (.int p3), .unset, .unset] [(.ref b1), (.ref b1)]))
  refine own_step (fun t k => XS.iconst X10.here hx rfl (hb hby at_15) k) ?_
  show own_G p.tables e below _ (T10.setTop (mkF m 16 #[.val (.int p1), .val (.int p2), .val (.int p3), .unset, .unset] [(.int (2 : Int32)), (.ref b1), (.ref b1)]))
  refine own_step (fun t k => XS.bipush X10.here hx rfl (hb hby at_16) k) ?_
  show own_G p.tables e below _ (T10.setTop (mkF m 18 #[.val (.int p1), .val (.int p2), .val (.int p3), .unset, .unset] [(.int (95 : Int32)), (.int (2 : Int32)), (.ref b1), (.ref b1)]))
  obtain ⟨T15, h15, X15, e15, W15, c15, st15⟩ := own_iastore X10 hx hZ e10 c14 (own_inb (by decide) (by rw [hl_vq13]; decide)) (g := (mkF m 18 #[.val (.int p1), .val (.int p2), .val (.int p3), .unset, .unset] [(.int (95 : Int32)), (.int (2 : Int32)), (.ref b1), (.ref b1)])) rfl rfl (hb hby at_18)
  have N15 := Fr.snoc X15 N10 ge1
  have c16 : own_Ari Z h15 b1 .int (vq13.set 2 (95 : Int32)) := c15
  have K15 : Keep h0 h15 [] := K10.wr W15 (Or.inr sz1)
  refine own_step st15 ?_
  show own_G p.tables e below _ (T15.setTop (mkF m 19 #[.val (.int p1), .val (.int p2), .val (.int p3), .unset, .unset] [(.ref b1)]))
  obtain ⟨vq18, hl_vq18, c19⟩ : ∃ z : List Int32, z.length = 30 ∧ own_Ari Z h15 b1 .int z := ⟨_, (by first | rfl | (simp only [List.length_set, List.length_replicate, hl_vq13])), c16⟩
  refine own_step (fun t k => XS.dup X15.here hx rfl (hb hby at_19) rfl rfl k) ?_
  show own_G p.tables e below _ (T15.setTop (mkF m 20 #[.val (.int p1), .val (.int p2), .val (.int p3), .unset, .unset] [(.ref b1), (.ref b1)]))
  refine own_step (fun t k => XS.iconst X15.here hx rfl (hb hby at_20) k) ?_
  show own_G p.tables e below _ (T15.setTop (mkF m 21 #[.val (.int p1), .val (.int p2), .val (.int p3), .unset, .unset] [(.int (3 : Int32)), (.ref b1), (.ref b1)]))
  refine own_step (fun t k => XS.bipush X15.here hx rfl (hb hby at_21) k) ?_
  show own_G p.tables e below _ (T15.setTop (mkF m 23 #[.val (.int p1), .val (.int p2), .val (.int p3), .unset, .unset] [(.int (96 : Int32)), (.int (3 : Int32)), (.ref b1), (.ref b1)]))
  obtain ⟨T20, h20, X20, e20, W20, c20, st20⟩ := own_iastore X15 hx hZ e15 c19 (own_inb (by decide) (by rw [hl_vq18]; decide)) (g := (mkF m 23 #[.val (.int p1), .val (.int p2), .val (.int p3), .unset, .unset] [(.int (96 : Int32)), (.int (3 : Int32)), (.ref b1), (.ref b1)])) rfl rfl (hb hby at_23)
  have N20 := Fr.snoc X20 N15 ge1
  have c21 : own_Ari Z h20 b1 .int (vq18.set 3 (96 : Int32)) := c20
  have K20 : Keep h0 h20 [] := K15.wr W20 (Or.inr sz1)
  refine own_step st20 ?_
  clear K10 K15 N10 N15 W15 W20 X10 X15 c14 c15 c16 c19 c20 e10 e15 st15 st20
  show own_G p.tables e below _ (T20.setTop (mkF m 24 #[.val (.int p1), .val (.int p2), .val (.int p3), .unset, .unset] [(.ref b1)]))
  obtain ⟨vq23, hl_vq23, c24⟩ : ∃ z : List Int32, z.length = 30 ∧ own_Ari Z h20 b1 .int z := ⟨_, (by first | rfl | (simp only [List.length_set, List.length_replicate, hl_vq18])), c21⟩
  refine own_step (fun t k => XS.dup X20.here hx rfl (hb hby at_24) rfl rfl k) ?_
  show own_G p.tables e below _ (T20.setTop (mkF m 25 #[.val (.int p1), .val (.int p2), .val (.int p3), .unset, .unset] [(.ref b1), (.ref b1)]))
  refine own_step (fun t k => XS.iconst X20.here hx rfl (hb hby at_25) k) ?_
  show own_G p.tables e below _ (T20.setTop (mkF m 26 #[.val (.int p1), .val (.int p2), .val (.int p3), .unset, .unset] [(.int (4 : Int32)), (.ref b1), (.ref b1)]))
  refine own_step (fun t k => XS.bipush X20.here hx rfl (hb hby at_26) k) ?_
  show own_G p.tables e below _ (T20.setTop (mkF m 28 #[.val (.int p1), .val (.int p2), .val (.int p3), .unset, .unset] [(.int (97 : Int32)), (.int (4 : Int32)), (.ref b1), (.ref b1)]))
  obtain ⟨T25, h25, X25, e25, W25, c25, st25⟩ := own_iastore X20 hx hZ e20 c24 (own_inb (by decide) (by rw [hl_vq23]; decide)) (g := (mkF m 28 #[.val (.int p1), .val (.int p2), .val (.int p3), .unset, .unset] [(.int (97 : Int32)), (.int (4 : Int32)), (.ref b1), (.ref b1)])) rfl rfl (hb hby at_28)
  have N25 := Fr.snoc X25 N20 ge1
  have c26 : own_Ari Z h25 b1 .int (vq23.set 4 (97 : Int32)) := c25
  have K25 : Keep h0 h25 [] := K20.wr W25 (Or.inr sz1)
  refine own_step st25 ?_
  show own_G p.tables e below _ (T25.setTop (mkF m 29 #[.val (.int p1), .val (.int p2), .val (.int p3), .unset, .unset] [(.ref b1)]))
  obtain ⟨vq28, hl_vq28, c29⟩ : ∃ z : List Int32, z.length = 30 ∧ own_Ari Z h25 b1 .int z := ⟨_, (by first | rfl | (simp only [List.length_set, List.length_replicate, hl_vq23])), c26⟩
  refine own_step (fun t k => XS.dup X25.here hx rfl (hb hby at_29) rfl rfl k) ?_
  clear K20 N20 W25 X20 c21 c24 c25 c26 e20 st25
  show own_G p.tables e below _ (T25.setTop (mkF m 30 #[.val (.int p1), .val (.int p2), .val (.int p3), .unset, .unset] [(.ref b1), (.ref b1)]))
  refine own_step (fun t k => XS.iconst X25.here hx rfl (hb hby at_30) k) ?_
  show own_G p.tables e below _ (T25.setTop (mkF m 31 #[.val (.int p1), .val (.int p2), .val (.int p3), .unset, .unset] [(.int (5 : Int32)), (.ref b1), (.ref b1)]))
  refine own_step (fun t k => XS.bipush X25.here hx rfl (hb hby at_31) k) ?_
  show own_G p.tables e below _ (T25.setTop (mkF m 33 #[.val (.int p1), .val (.int p2), .val (.int p3), .unset, .unset] [(.int (123 : Int32)), (.int (5 : Int32)), (.ref b1), (.ref b1)]))
  obtain ⟨T30, h30, X30, e30, W30, c30, st30⟩ := own_iastore X25 hx hZ e25 c29 (own_inb (by decide) (by rw [hl_vq28]; decide)) (g := (mkF m 33 #[.val (.int p1), .val (.int p2), .val (.int p3), .unset, .unset] [(.int (123 : Int32)), (.int (5 : Int32)), (.ref b1), (.ref b1)])) rfl rfl (hb hby at_33)
  have N30 := Fr.snoc X30 N25 ge1
  have c31 : own_Ari Z h30 b1 .int (vq28.set 5 (123 : Int32)) := c30
  have K30 : Keep h0 h30 [] := K25.wr W30 (Or.inr sz1)
  refine own_step st30 ?_
  show own_G p.tables e below _ (T30.setTop (mkF m 34 #[.val (.int p1), .val (.int p2), .val (.int p3), .unset, .unset] [(.ref b1)]))
  obtain ⟨vq33, hl_vq33, c34⟩ : ∃ z : List Int32, z.length = 30 ∧ own_Ari Z h30 b1 .int z := ⟨_, (by first | rfl | (simp only [List.length_set, List.length_replicate, hl_vq28])), c31⟩
  refine own_step (fun t k => XS.dup X30.here hx rfl (hb hby at_34) rfl rfl k) ?_
  show own_G p.tables e below _ (T30.setTop (mkF m 35 #[.val (.int p1), .val (.int p2), .val (.int p3), .unset, .unset] [(.ref b1), (.ref b1)]))
  refine own_step (fun t k => XS.bipush X30.here hx rfl (hb hby at_35) k) ?_
  show own_G p.tables e below _ (T30.setTop (mkF m 37 #[.val (.int p1), .val (.int p2), .val (.int p3), .unset, .unset] [(.int (6 : Int32)), (.ref b1), (.ref b1)]))
  refine own_step (fun t k => XS.sipush X30.here hx rfl (hb hby at_37) k) ?_
  show own_G p.tables e below _ (T30.setTop (mkF m 40 #[.val (.int p1), .val (.int p2), .val (.int p3), .unset, .unset] [(.int (192 : Int32)), (.int (6 : Int32)), (.ref b1), (.ref b1)]))
  obtain ⟨T35, h35, X35, e35, W35, c35, st35⟩ := own_iastore X30 hx hZ e30 c34 (own_inb (by decide) (by rw [hl_vq33]; decide)) (g := (mkF m 40 #[.val (.int p1), .val (.int p2), .val (.int p3), .unset, .unset] [(.int (192 : Int32)), (.int (6 : Int32)), (.ref b1), (.ref b1)])) rfl rfl (hb hby at_40)
  have N35 := Fr.snoc X35 N30 ge1
  have c36 : own_Ari Z h35 b1 .int (vq33.set 6 (192 : Int32)) := c35
  have K35 : Keep h0 h35 [] := K30.wr W35 (Or.inr sz1)
  refine own_step st35 ?_
  clear K25 K30 N25 N30 W30 W35 X25 X30 c29 c30 c31 c34 c35 e25 e30 st30 st35
  show own_G p.tables e below _ (T35.setTop (mkF m 41 #[.val (.int p1), .val (.int p2), .val (.int p3), .unset, .unset] [(.ref b1)]))
  obtain ⟨vq38, hl_vq38, c39⟩ : ∃ z : List Int32, z.length = 30 ∧ own_Ari Z h35 b1 .int z := ⟨_, (by first | rfl | (simp only [List.length_set, List.length_replicate, hl_vq33])), c36⟩
  refine own_step (fun t k => XS.dup X35.here hx rfl (hb hby at_41) rfl rfl k) ?_
  show own_G p.tables e below _ (T35.setTop (mkF m 42 #[.val (.int p1), .val (.int p2), .val (.int p3), .unset, .unset] [(.ref b1), (.ref b1)]))
  refine own_step (fun t k => XS.bipush X35.here hx rfl (hb hby at_42) k) ?_
  show own_G p.tables e below _ (T35.setTop (mkF m 44 #[.val (.int p1), .val (.int p2), .val (.int p3), .unset, .unset] [(.int (7 : Int32)), (.ref b1), (.ref b1)]))
  refine own_step (fun t k => XS.sipush X35.here hx rfl (hb hby at_44) k) ?_
  show own_G p.tables e below _ (T35.setTop (mkF m 47 #[.val (.int p1), .val (.int p2), .val (.int p3), .unset, .unset] [(.int (215 : Int32)), (.int (7 : Int32)), (.ref b1), (.ref b1)]))
  obtain ⟨T40, h40, X40, e40, W40, c40, st40⟩ := own_iastore X35 hx hZ e35 c39 (own_inb (by decide) (by rw [hl_vq38]; decide)) (g := (mkF m 47 #[.val (.int p1), .val (.int p2), .val (.int p3), .unset, .unset] [(.int (215 : Int32)), (.int (7 : Int32)), (.ref b1), (.ref b1)])) rfl rfl (hb hby at_47)
  have N40 := Fr.snoc X40 N35 ge1
  have c41 : own_Ari Z h40 b1 .int (vq38.set 7 (215 : Int32)) := c40
  have K40 : Keep h0 h40 [] := K35.wr W40 (Or.inr sz1)
  refine own_step st40 ?_
  show own_G p.tables e below _ (T40.setTop (mkF m 48 #[.val (.int p1), .val (.int p2), .val (.int p3), .unset, .unset] [(.ref b1)]))
  obtain ⟨vq43, hl_vq43, c44⟩ : ∃ z : List Int32, z.length = 30 ∧ own_Ari Z h40 b1 .int z := ⟨_, (by first | rfl | (simp only [List.length_set, List.length_replicate, hl_vq38])), c41⟩
  refine own_step (fun t k => XS.dup X40.here hx rfl (hb hby at_48) rfl rfl k) ?_
  clear K35 N35 W40 X35 c36 c39 c40 c41 e35 st40
  show own_G p.tables e below _ (T40.setTop (mkF m 49 #[.val (.int p1), .val (.int p2), .val (.int p3), .unset, .unset] [(.ref b1), (.ref b1)]))
  refine own_step (fun t k => XS.bipush X40.here hx rfl (hb hby at_49) k) ?_
  show own_G p.tables e below _ (T40.setTop (mkF m 51 #[.val (.int p1), .val (.int p2), .val (.int p3), .unset, .unset] [(.int (8 : Int32)), (.ref b1), (.ref b1)]))
  refine own_step (fun t k => XS.sipush X40.here hx rfl (hb hby at_51) k) ?_
  show own_G p.tables e below _ (T40.setTop (mkF m 54 #[.val (.int p1), .val (.int p2), .val (.int p3), .unset, .unset] [(.int (216 : Int32)), (.int (8 : Int32)), (.ref b1), (.ref b1)]))
  obtain ⟨T45, h45, X45, e45, W45, c45, st45⟩ := own_iastore X40 hx hZ e40 c44 (own_inb (by decide) (by rw [hl_vq43]; decide)) (g := (mkF m 54 #[.val (.int p1), .val (.int p2), .val (.int p3), .unset, .unset] [(.int (216 : Int32)), (.int (8 : Int32)), (.ref b1), (.ref b1)])) rfl rfl (hb hby at_54)
  have N45 := Fr.snoc X45 N40 ge1
  have c46 : own_Ari Z h45 b1 .int (vq43.set 8 (216 : Int32)) := c45
  have K45 : Keep h0 h45 [] := K40.wr W45 (Or.inr sz1)
  refine own_step st45 ?_
  show own_G p.tables e below _ (T45.setTop (mkF m 55 #[.val (.int p1), .val (.int p2), .val (.int p3), .unset, .unset] [(.ref b1)]))
  obtain ⟨vq48, hl_vq48, c49⟩ : ∃ z : List Int32, z.length = 30 ∧ own_Ari Z h45 b1 .int z := ⟨_, (by first | rfl | (simp only [List.length_set, List.length_replicate, hl_vq43])), c46⟩
  refine own_step (fun t k => XS.dup X45.here hx rfl (hb hby at_55) rfl rfl k) ?_
  show own_G p.tables e below _ (T45.setTop (mkF m 56 #[.val (.int p1), .val (.int p2), .val (.int p3), .unset, .unset] [(.ref b1), (.ref b1)]))
  refine own_step (fun t k => XS.bipush X45.here hx rfl (hb hby at_56) k) ?_
  show own_G p.tables e below _ (T45.setTop (mkF m 58 #[.val (.int p1), .val (.int p2), .val (.int p3), .unset, .unset] [(.int (9 : Int32)), (.ref b1), (.ref b1)]))
  refine own_step (fun t k => XS.sipush X45.here hx rfl (hb hby at_58) k) ?_
  show own_G p.tables e below _ (T45.setTop (mkF m 61 #[.val (.int p1), .val (.int p2), .val (.int p3), .unset, .unset] [(.int (247 : Int32)), (.int (9 : Int32)), (.ref b1), (.ref b1)]))
  obtain ⟨T50, h50, X50, e50, W50, c50, st50⟩ := own_iastore X45 hx hZ e45 c49 (own_inb (by decide) (by rw [hl_vq48]; decide)) (g := (mkF m 61 #[.val (.int p1), .val (.int p2), .val (.int p3), .unset, .unset] [(.int (247 : Int32)), (.int (9 : Int32)), (.ref b1), (.ref b1)])) rfl rfl (hb hby at_61)
  have N50 := Fr.snoc X50 N45 ge1
  have c51 : own_Ari Z h50 b1 .int (vq48.set 9 (247 : Int32)) := c50
  have K50 : Keep h0 h50 [] := K45.wr W50 (Or.inr sz1)
  refine own_step st50 ?_
  clear K40 K45 N40 N45 W45 W50 X40 X45 c44 c45 c46 c49 c50 e40 e45 st45 st50
  show own_G p.tables e below _ (T50.setTop (mkF m 62 #[.val (.int p1), .val (.int p2), .val (.int p3), .unset, .unset] [(.ref b1)]))
  obtain ⟨vq53, hl_vq53, c54⟩ : ∃ z : List Int32, z.length = 30 ∧ own_Ari Z h50 b1 .int z := ⟨_, (by first | rfl | (simp only [List.length_set, List.length_replicate, hl_vq48])), c51⟩
  refine own_step (fun t k => XS.dup X50.here hx rfl (hb hby at_62) rfl rfl k) ?_
  show own_G p.tables e below _ (T50.setTop (mkF m 63 #[.val (.int p1), .val (.int p2), .val (.int p3), .unset, .unset] [(.ref b1), (.ref b1)]))
  refine own_step (fun t k => XS.bipush X50.here hx rfl (hb hby at_63) k) ?_
  show own_G p.tables e below _ (T50.setTop (mkF m 65 #[.val (.int p1), .val (.int p2), .val (.int p3), .unset, .unset] [(.int (10 : Int32)), (.ref b1), (.ref b1)]))
  refine own_step (fun t k => XS.sipush X50.here hx rfl (hb hby at_65) k) ?_
  show own_G p.tables e below _ (T50.setTop (mkF m 68 #[.val (.int p1), .val (.int p2), .val (.int p3), .unset, .unset] [(.int (248 : Int32)), (.int (10 : Int32)), (.ref b1), (.ref b1)]))
  obtain ⟨T55, h55, X55, e55, W55, c55, st55⟩ := own_iastore X50 hx hZ e50 c54 (own_inb (by decide) (by rw [hl_vq53]; decide)) (g := (mkF m 68 #[.val (.int p1), .val (.int p2), .val (.int p3), .unset, .unset] [(.int (248 : Int32)), (.int (10 : Int32)), (.ref b1), (.ref b1)])) rfl rfl (hb hby at_68)
  have N55 := Fr.snoc X55 N50 ge1
  have c56 : own_Ari Z h55 b1 .int (vq53.set 10 (248 : Int32)) := c55
  have K55 : Keep h0 h55 [] := K50.wr W55 (Or.inr sz1)
  refine own_step st55 ?_
  show own_G p.tables e below _ (T55.setTop (mkF m 69 #[.val (.int p1), .val (.int p2), .val (.int p3), .unset, .unset] [(.ref b1)]))
  obtain ⟨vq58, hl_vq58, c59⟩ : ∃ z : List Int32, z.length = 30 ∧ own_Ari Z h55 b1 .int z := ⟨_, (by first | rfl | (simp only [List.length_set, List.length_replicate, hl_vq53])), c56⟩
  refine own_step (fun t k => XS.dup X55.here hx rfl (hb hby at_69) rfl rfl k) ?_
  clear K50 N50 W55 X50 c51 c54 c55 c56 e50 st55
  show own_G p.tables e below _ (T55.setTop (mkF m 70 #[.val (.int p1), .val (.int p2), .val (.int p3), .unset, .unset] [(.ref b1), (.ref b1)]))
  refine own_step (fun t k => XS.bipush X55.here hx rfl (hb hby at_70) k) ?_
  show own_G p.tables e below _ (T55.setTop (mkF m 72 #[.val (.int p1), .val (.int p2), .val (.int p3), .unset, .unset] [(.int (11 : Int32)), (.ref b1), (.ref b1)]))
  refine own_step (fun t k => XS.sipush X55.here hx rfl (hb hby at_72) k) ?_
  show own_G p.tables e below _ (T55.setTop (mkF m 75 #[.val (.int p1), .val (.int p2), .val (.int p3), .unset, .unset] [(.int (768 : Int32)), (.int (11 : Int32)), (.ref b1), (.ref b1)]))
  obtain ⟨T60, h60, X60, e60, W60, c60, st60⟩ := own_iastore X55 hx hZ e55 c59 (own_inb (by decide) (by rw [hl_vq58]; decide)) (g := (mkF m 75 #[.val (.int p1), .val (.int p2), .val (.int p3), .unset, .unset] [(.int (768 : Int32)), (.int (11 : Int32)), (.ref b1), (.ref b1)])) rfl rfl (hb hby at_75)
  have N60 := Fr.snoc X60 N55 ge1
  have c61 : own_Ari Z h60 b1 .int (vq58.set 11 (768 : Int32)) := c60
  have K60 : Keep h0 h60 [] := K55.wr W60 (Or.inr sz1)
  refine own_step st60 ?_
  show own_G p.tables e below _ (T60.setTop (mkF m 76 #[.val (.int p1), .val (.int p2), .val (.int p3), .unset, .unset] [(.ref b1)]))
  obtain ⟨vq63, hl_vq63, c64⟩ : ∃ z : List Int32, z.length = 30 ∧ own_Ari Z h60 b1 .int z := ⟨_, (by first | rfl | (simp only [List.length_set, List.length_replicate, hl_vq58])), c61⟩
  refine own_step (fun t k => XS.dup X60.here hx rfl (hb hby at_76) rfl rfl k) ?_
  show own_G p.tables e below _ (T60.setTop (mkF m 77 #[.val (.int p1), .val (.int p2), .val (.int p3), .unset, .unset] [(.ref b1), (.ref b1)]))
  refine own_step (fun t k => XS.bipush X60.here hx rfl (hb hby at_77) k) ?_
  show own_G p.tables e below _ (T60.setTop (mkF m 79 #[.val (.int p1), .val (.int p2), .val (.int p3), .unset, .unset] [(.int (12 : Int32)), (.ref b1), (.ref b1)]))
  refine own_step (fun t k => XS.sipush X60.here hx rfl (hb hby at_79) k) ?_
  show own_G p.tables e below _ (T60.setTop (mkF m 82 #[.val (.int p1), .val (.int p2), .val (.int p3), .unset, .unset] [(.int (880 : Int32)), (.int (12 : Int32)), (.ref b1), (.ref b1)]))
  obtain ⟨T65, h65, X65, e65, W65, c65, st65⟩ := own_iastore X60 hx hZ e60 c64 (own_inb (by decide) (by rw [hl_vq63]; decide)) (g := (mkF m 82 #[.val (.int p1), .val (.int p2), .val (.int p3), .unset, .unset] [(.int (880 : Int32)), (.int (12 : Int32)), (.ref b1), (.ref b1)])) rfl rfl (hb hby at_82)
  have N65 := Fr.snoc X65 N60 ge1
  have c66 : own_Ari Z h65 b1 .int (vq63.set 12 (880 : Int32)) := c65
  have K65 : Keep h0 h65 [] := K60.wr W65 (Or.inr sz1)
  refine own_step st65 ?_
  clear K55 K60 N55 N60 W60 W65 X55 X60 c59 c60 c61 c64 c65 e55 e60 st60 st65
  show own_G p.tables e below _ (T65.setTop (mkF m 83 #[.val (.int p1), .val (.int p2), .val (.int p3), .unset, .unset] [(.ref b1)]))
  obtain ⟨vq68, hl_vq68, c69⟩ : ∃ z : List Int32, z.length = 30 ∧ own_Ari Z h65 b1 .int z := ⟨_, (by first | rfl | (simp only [List.length_set, List.length_replicate, hl_vq63])), c66⟩
  refine own_step (fun t k => XS.dup X65.here hx rfl (hb hby at_83) rfl rfl k) ?_
  show own_G p.tables e below _ (T65.setTop (mkF m 84 #[.val (.int p1), .val (.int p2), .val (.int p3), .unset, .unset] [(.ref b1), (.ref b1)]))
  refine own_step (fun t k => XS.bipush X65.here hx rfl (hb hby at_84) k) ?_
  show own_G p.tables e below _ (T65.setTop (mkF m 86 #[.val (.int p1), .val (.int p2), .val (.int p3), .unset, .unset] [(.int (13 : Int32)), (.ref b1), (.ref b1)]))
  refine own_step (fun t k => XS.sipush X65.here hx rfl (hb hby at_86) k) ?_
  show own_G p.tables e below _ (T65.setTop (mkF m 89 #[.val (.int p1), .val (.int p2), .val (.int p3), .unset, .unset] [(.int (894 : Int32)), (.int (13 : Int32)), (.ref b1), (.ref b1)]))
  obtain ⟨T70, h70, X70, e70, W70, c70, st70⟩ := own_iastore X65 hx hZ e65 c69 (own_inb (by decide) (by rw [hl_vq68]; decide)) (g := (mkF m 89 #[.val (.int p1), .val (.int p2), .val (.int p3), .unset, .unset] [(.int (894 : Int32)), (.int (13 : Int32)), (.ref b1), (.ref b1)])) rfl rfl (hb hby at_89)
  have N70 := Fr.snoc X70 N65 ge1
  have c71 : own_Ari Z h70 b1 .int (vq68.set 13 (894 : Int32)) := c70
  have K70 : Keep h0 h70 [] := K65.wr W70 (Or.inr sz1)
  refine own_step st70 ?_
  show own_G p.tables e below _ (T70.setTop (mkF m 90 #[.val (.int p1), .val (.int p2), .val (.int p3), .unset, .unset] [(.ref b1)]))
  obtain ⟨vq73, hl_vq73, c74⟩ : ∃ z : List Int32, z.length = 30 ∧ own_Ari Z h70 b1 .int z := ⟨_, (by first | rfl | (simp only [List.length_set, List.length_replicate, hl_vq68])), c71⟩
  refine own_step (fun t k => XS.dup X70.here hx rfl (hb hby at_90) rfl rfl k) ?_
  clear K65 N65 W70 X65 c66 c69 c70 c71 e65 st70
  show own_G p.tables e below _ (T70.setTop (mkF m 91 #[.val (.int p1), .val (.int p2), .val (.int p3), .unset, .unset] [(.ref b1), (.ref b1)]))
  refine own_step (fun t k => XS.bipush X70.here hx rfl (hb hby at_91) k) ?_
  show own_G p.tables e below _ (T70.setTop (mkF m 93 #[.val (.int p1), .val (.int p2), .val (.int p3), .unset, .unset] [(.int (14 : Int32)), (.ref b1), (.ref b1)]))
  refine own_step (fun t k => XS.sipush X70.here hx rfl (hb hby at_93) k) ?_
  show own_G p.tables e below _ (T70.setTop (mkF m 96 #[.val (.int p1), .val (.int p2), .val (.int p3), .unset, .unset] [(.int (895 : Int32)), (.int (14 : Int32)), (.ref b1), (.ref b1)]))
  obtain ⟨T75, h75, X75, e75, W75, c75, st75⟩ := own_iastore X70 hx hZ e70 c74 (own_inb (by decide) (by rw [hl_vq73]; decide)) (g := (mkF m 96 #[.val (.int p1), .val (.int p2), .val (.int p3), .unset, .unset] [(.int (895 : Int32)), (.int (14 : Int32)), (.ref b1), (.ref b1)])) rfl rfl (hb hby at_96)
  have N75 := Fr.snoc X75 N70 ge1
  have c76 : own_Ari Z h75 b1 .int (vq73.set 14 (895 : Int32)) := c75
  have K75 : Keep h0 h75 [] := K70.wr W75 (Or.inr sz1)
  refine own_step st75 ?_
  show own_G p.tables e below _ (T75.setTop (mkF m 97 #[.val (.int p1), .val (.int p2), .val (.int p3), .unset, .unset] [(.ref b1)]))
  obtain ⟨vq78, hl_vq78, c79⟩ : ∃ z : List Int32, z.length = 30 ∧ own_Ari Z h75 b1 .int z := ⟨_, (by first | rfl | (simp only [List.length_set, List.length_replicate, hl_vq73])), c76⟩
  refine own_step (fun t k => XS.dup X75.here hx rfl (hb hby at_97) rfl rfl k) ?_
  show own_G p.tables e below _ (T75.setTop (mkF m 98 #[.val (.int p1), .val (.int p2), .val (.int p3), .unset, .unset] [(.ref b1), (.ref b1)]))
  refine own_step (fun t k => XS.bipush X75.here hx rfl (hb hby at_98) k) ?_
  show own_G p.tables e below _ (T75.setTop (mkF m 100 #[.val (.int p1), .val (.int p2), .val (.int p3), .unset, .unset] [(.int (15 : Int32)), (.ref b1), (.ref b1)]))
  refine own_step (fun t k => XS.sipush X75.here hx rfl (hb hby at_100) k) ?_
  show own_G p.tables e below _ (T75.setTop (mkF m 103 #[.val (.int p1), .val (.int p2), .val (.int p3), .unset, .unset] [(.int (8192 : Int32)), (.int (15 : Int32)), (.ref b1), (.ref b1)]))
  obtain ⟨T80, h80, X80, e80, W80, c80, st80⟩ := own_iastore X75 hx hZ e75 c79 (own_inb (by decide) (by rw [hl_vq78]; decide)) (g := (mkF m 103 #[.val (.int p1), .val (.int p2), .val (.int p3), .unset, .unset] [(.int (8192 : Int32)), (.int (15 : Int32)), (.ref b1), (.ref b1)])) rfl rfl (hb hby at_103)
  have N80 := Fr.snoc X80 N75 ge1
  have c81 : own_Ari Z h80 b1 .int (vq78.set 15 (8192 : Int32)) := c80
  have K80 : Keep h0 h80 [] := K75.wr W80 (Or.inr sz1)
  refine own_step st80 ?_
  clear K70 K75 N70 N75 W75 W80 X70 X75 c74 c75 c76 c79 c80 e70 e75 st75 st80
  show own_G p.tables e below _ (T80.setTop (mkF m 104 #[.val (.int p1), .val (.int p2), .val (.int p3), .unset, .unset] [(.ref b1)]))
  obtain ⟨vq83, hl_vq83, c84⟩ : ∃ z : List Int32, z.length = 30 ∧ own_Ari Z h80 b1 .int z := ⟨_, (by first | rfl | (simp only [List.length_set, List.length_replicate, hl_vq78])), c81⟩
  refine own_step (fun t k => XS.dup X80.here hx rfl (hb hby at_104) rfl rfl k) ?_
  show own_G p.tables e below _ (T80.setTop (mkF m 105 #[.val (.int p1), .val (.int p2), .val (.int p3), .unset, .unset] [(.ref b1), (.ref b1)]))
  refine own_step (fun t k => XS.bipush X80.here hx rfl (hb hby at_105) k) ?_
  show own_G p.tables e below _ (T80.setTop (mkF m 107 #[.val (.int p1), .val (.int p2), .val (.int p3), .unset, .unset] [(.int (16 : Int32)), (.ref b1), (.ref b1)]))
  refine own_step (fun t k => XS.sipush X80.here hx rfl (hb hby at_107) k) ?_
  show own_G p.tables e below _ (T80.setTop (mkF m 110 #[.val (.int p1), .val (.int p2), .val (.int p3), .unset, .unset] [(.int (8204 : Int32)), (.int (16 : Int32)), (.ref b1), (.ref b1)]))
  obtain ⟨T85, h85, X85, e85, W85, c85, st85⟩ := own_iastore X80 hx hZ e80 c84 (own_inb (by decide) (by rw [hl_vq83]; decide)) (g := (mkF m 110 #[.val (.int p1), .val (.int p2), .val (.int p3), .unset, .unset] [(.int (8204 : Int32)), (.int (16 : Int32)), (.ref b1), (.ref b1)])) rfl rfl (hb hby at_110)
  have N85 := Fr.snoc X85 N80 ge1
  have c86 : own_Ari Z h85 b1 .int (vq83.set 16 (8204 : Int32)) := c85
  have K85 : Keep h0 h85 [] := K80.wr W85 (Or.inr sz1)
  refine own_step st85 ?_
  show own_G p.tables e below _ (T85.setTop (mkF m 111 #[.val (.int p1), .val (.int p2), .val (.int p3), .unset, .unset] [(.ref b1)]))
  obtain ⟨vq88, hl_vq88, c89⟩ : ∃ z : List Int32, z.length = 30 ∧ own_Ari Z h85 b1 .int z := ⟨_, (by first | rfl | (simp only [List.length_set, List.length_replicate, hl_vq83])), c86⟩
  refine own_step (fun t k => XS.dup X85.here hx rfl (hb hby at_111) rfl rfl k) ?_
  clear K80 N80 W85 X80 c81 c84 c85 c86 e80 st85
  show own_G p.tables e below _ (T85.setTop (mkF m 112 #[.val (.int p1), .val (.int p2), .val (.int p3), .unset, .unset] [(.ref b1), (.ref b1)]))
  refine own_step (fun t k => XS.bipush X85.here hx rfl (hb hby at_112) k) ?_
  show own_G p.tables e below _ (T85.setTop (mkF m 114 #[.val (.int p1), .val (.int p2), .val (.int p3), .unset, .unset] [(.int (17 : Int32)), (.ref b1), (.ref b1)]))
  refine own_step (fun t k => XS.sipush X85.here hx rfl (hb hby at_114) k) ?_
  show own_G p.tables e below _ (T85.setTop (mkF m 117 #[.val (.int p1), .val (.int p2), .val (.int p3), .unset, .unset] [(.int (8206 : Int32)), (.int (17 : Int32)), (.ref b1), (.ref b1)]))
  obtain ⟨T90, h90, X90, e90, W90, c90, st90⟩ := own_iastore X85 hx hZ e85 c89 (own_inb (by decide) (by rw [hl_vq88]; decide)) (g := (mkF m 117 #[.val (.int p1), .val (.int p2), .val (.int p3), .unset, .unset] [(.int (8206 : Int32)), (.int (17 : Int32)), (.ref b1), (.ref b1)])) rfl rfl (hb hby at_117)
  have N90 := Fr.snoc X90 N85 ge1
  have c91 : own_Ari Z h90 b1 .int (vq88.set 17 (8206 : Int32)) := c90
  have K90 : Keep h0 h90 [] := K85.wr W90 (Or.inr sz1)
  refine own_step st90 ?_
  show own_G p.tables e below _ (T90.setTop (mkF m 118 #[.val (.int p1), .val (.int p2), .val (.int p3), .unset, .unset] [(.ref b1)]))
  obtain ⟨vq93, hl_vq93, c94⟩ : ∃ z : List Int32, z.length = 30 ∧ own_Ari Z h90 b1 .int z := ⟨_, (by first | rfl | (simp only [List.length_set, List.length_replicate, hl_vq88])), c91⟩
  refine own_step (fun t k => XS.dup X90.here hx rfl (hb hby at_118) rfl rfl k) ?_
  show own_G p.tables e below _ (T90.setTop (mkF m 119 #[.val (.int p1), .val (.int p2), .val (.int p3), .unset, .unset] [(.ref b1), (.ref b1)]))
  refine own_step (fun t k => XS.bipush X90.here hx rfl (hb hby at_119) k) ?_
  show own_G p.tables e below _ (T90.setTop (mkF m 121 #[.val (.int p1), .val (.int p2), .val (.int p3), .unset, .unset] [(.int (18 : Int32)), (.ref b1), (.ref b1)]))
  refine own_step (fun t k => XS.sipush X90.here hx rfl (hb hby at_121) k) ?_
  show own_G p.tables e below _ (T90.setTop (mkF m 124 #[.val (.int p1), .val (.int p2), .val (.int p3), .unset, .unset] [(.int (8304 : Int32)), (.int (18 : Int32)), (.ref b1), (.ref b1)]))
  obtain ⟨T95, h95, X95, e95, W95, c95, st95⟩ := own_iastore X90 hx hZ e90 c94 (own_inb (by decide) (by rw [hl_vq93]; decide)) (g := (mkF m 124 #[.val (.int p1), .val (.int p2), .val (.int p3), .unset, .unset] [(.int (8304 : Int32)), (.int (18 : Int32)), (.ref b1), (.ref b1)])) rfl rfl (hb hby at_124)
  have N95 := Fr.snoc X95 N90 ge1
  have c96 : own_Ari Z h95 b1 .int (vq93.set 18 (8304 : Int32)) := c95
  have K95 : Keep h0 h95 [] := K90.wr W95 (Or.inr sz1)
  refine own_step st95 ?_
  clear K85 K90 N85 N90 W90 W95 X85 X90 c89 c90 c91 c94 c95 e85 e90 st90 st95
  show own_G p.tables e below _ (T95.setTop (mkF m 125 #[.val (.int p1), .val (.int p2), .val (.int p3), .unset, .unset] [(.ref b1)]))
  obtain ⟨vq98, hl_vq98, c99⟩ : ∃ z : List Int32, z.length = 30 ∧ own_Ari Z h95 b1 .int z := ⟨_, (by first | rfl | (simp only [List.length_set, List.length_replicate, hl_vq93])), c96⟩
  refine own_step (fun t k => XS.dup X95.here hx rfl (hb hby at_125) rfl rfl k) ?_
  show own_G p.tables e below _ (T95.setTop (mkF m 126 #[.val (.int p1), .val (.int p2), .val (.int p3), .unset, .unset] [(.ref b1), (.ref b1)]))
  refine own_step (fun t k => XS.bipush X95.here hx rfl (hb hby at_126) k) ?_
  show own_G p.tables e below _ (T95.setTop (mkF m 128 #[.val (.int p1), .val (.int p2), .val (.int p3), .unset, .unset] [(.int (19 : Int32)), (.ref b1), (.ref b1)]))
  refine own_step (fun t k => XS.sipush X95.here hx rfl (hb hby at_128) k) ?_
  show own_G p.tables e below _ (T95.setTop (mkF m 131 #[.val (.int p1), .val (.int p2), .val (.int p3), .unset, .unset] [(.int (8592 : Int32)), (.int (19 : Int32)), (.ref b1), (.ref b1)]))
  obtain ⟨T100, h100, X100, e100, W100, c100, st100⟩ := own_iastore X95 hx hZ e95 c99 (own_inb (by decide) (by rw [hl_vq98]; decide)) (g := (mkF m 131 #[.val (.int p1), .val (.int p2), .val (.int p3), .unset, .unset] [(.int (8592 : Int32)), (.int (19 : Int32)), (.ref b1), (.ref b1)])) rfl rfl (hb hby at_131)
  have N100 := Fr.snoc X100 N95 ge1
  have c101 : own_Ari Z h100 b1 .int (vq98.set 19 (8592 : Int32)) := c100
  have K100 : Keep h0 h100 [] := K95.wr W100 (Or.inr sz1)
  refine own_step st100 ?_
  show own_G p.tables e below _ (T100.setTop (mkF m 132 #[.val (.int p1), .val (.int p2), .val (.int p3), .unset, .unset] [(.ref b1)]))
  obtain ⟨vq103, hl_vq103, c104⟩ : ∃ z : List Int32, z.length = 30 ∧ own_Ari Z h100 b1 .int z := ⟨_, (by first | rfl | (simp only [List.length_set, List.length_replicate, hl_vq98])), c101⟩
  refine own_step (fun t k => XS.dup X100.here hx rfl (hb hby at_132) rfl rfl k) ?_
  clear K95 N95 W100 X95 c100 c101 c96 c99 e95 st100
  show own_G p.tables e below _ (T100.setTop (mkF m 133 #[.val (.int p1), .val (.int p2), .val (.int p3), .unset, .unset] [(.ref b1), (.ref b1)]))
  refine own_step (fun t k => XS.bipush X100.here hx rfl (hb hby at_133) k) ?_
  show own_G p.tables e below _ (T100.setTop (mkF m 135 #[.val (.int p1), .val (.int p2), .val (.int p3), .unset, .unset] [(.int (20 : Int32)), (.ref b1), (.ref b1)]))
  refine own_step (fun t k => XS.sipush X100.here hx rfl (hb hby at_135) k) ?_
  show own_G p.tables e below _ (T100.setTop (mkF m 138 #[.val (.int p1), .val (.int p2), .val (.int p3), .unset, .unset] [(.int (11264 : Int32)), (.int (20 : Int32)), (.ref b1), (.ref b1)]))
  obtain ⟨T105, h105, X105, e105, W105, c105, st105⟩ := own_iastore X100 hx hZ e100 c104 (own_inb (by decide) (by rw [hl_vq103]; decide)) (g := (mkF m 138 #[.val (.int p1), .val (.int p2), .val (.int p3), .unset, .unset] [(.int (11264 : Int32)), (.int (20 : Int32)), (.ref b1), (.ref b1)])) rfl rfl (hb hby at_138)
  have N105 := Fr.snoc X105 N100 ge1
  have c106 : own_Ari Z h105 b1 .int (vq103.set 20 (11264 : Int32)) := c105
  have K105 : Keep h0 h105 [] := K100.wr W105 (Or.inr sz1)
  refine own_step st105 ?_
  show own_G p.tables e below _ (T105.setTop (mkF m 139 #[.val (.int p1), .val (.int p2), .val (.int p3), .unset, .unset] [(.ref b1)]))
  obtain ⟨vq108, hl_vq108, c109⟩ : ∃ z : List Int32, z.length = 30 ∧ own_Ari Z h105 b1 .int z := ⟨_, (by first | rfl | (simp only [List.length_set, List.length_replicate, hl_vq103])), c106⟩
  refine own_step (fun t k => XS.dup X105.here hx rfl (hb hby at_139) rfl rfl k) ?_
  show own_G p.tables e below _ (T105.setTop (mkF m 140 #[.val (.int p1), .val (.int p2), .val (.int p3), .unset, .unset] [(.ref b1), (.ref b1)]))
  refine own_step (fun t k => XS.bipush X105.here hx rfl (hb hby at_140) k) ?_
  show own_G p.tables e below _ (T105.setTop (mkF m 142 #[.val (.int p1), .val (.int p2), .val (.int p3), .unset, .unset] [(.int (21 : Int32)), (.ref b1), (.ref b1)]))
  refine own_step (fun t k => XS.sipush X105.here hx rfl (hb hby at_142) k) ?_
  show own_G p.tables e below _ (T105.setTop (mkF m 145 #[.val (.int p1), .val (.int p2), .val (.int p3), .unset, .unset] [(.int (12272 : Int32)), (.int (21 : Int32)), (.ref b1), (.ref b1)]))
  obtain ⟨T110, h110, X110, e110, W110, c110, st110⟩ := own_iastore X105 hx hZ e105 c109 (own_inb (by decide) (by rw [hl_vq108]; decide)) (g := (mkF m 145 #[.val (.int p1), .val (.int p2), .val (.int p3), .unset, .unset] [(.int (12272 : Int32)), (.int (21 : Int32)), (.ref b1), (.ref b1)])) rfl rfl (hb hby at_145)
  have N110 := Fr.snoc X110 N105 ge1
  have c111 : own_Ari Z h110 b1 .int (vq108.set 21 (12272 : Int32)) := c110
  have K110 : Keep h0 h110 [] := K105.wr W110 (Or.inr sz1)
  refine own_step st110 ?_
  clear K100 K105 N100 N105 W105 W110 X100 X105 c104 c105 c106 c109 c110 e100 e105 st105 st110
  show own_G p.tables e below _ (T110.setTop (mkF m 146 #[.val (.int p1), .val (.int p2), .val (.int p3), .unset, .unset] [(.ref b1)]))
  obtain ⟨vq113, hl_vq113, c114⟩ : ∃ z : List Int32, z.length = 30 ∧ own_Ari Z h110 b1 .int z := ⟨_, (by first | rfl | (simp only [List.length_set, List.length_replicate, hl_vq108])), c111⟩
  refine own_step (fun t k => XS.dup X110.here hx rfl (hb hby at_146) rfl rfl k) ?_
  show own_G p.tables e below _ (T110.setTop (mkF m 147 #[.val (.int p1), .val (.int p2), .val (.int p3), .unset, .unset] [(.ref b1), (.ref b1)]))
  refine own_step (fun t k => XS.bipush X110.here hx rfl (hb hby at_147) k) ?_
  show own_G p.tables e below _ (T110.setTop (mkF m 149 #[.val (.int p1), .val (.int p2), .val (.int p3), .unset, .unset] [(.int (22 : Int32)), (.ref b1), (.ref b1)]))
  refine own_step (fun t k => XS.sipush X110.here hx rfl (hb hby at_149) k) ?_
  show own_G p.tables e below _ (T110.setTop (mkF m 152 #[.val (.int p1), .val (.int p2), .val (.int p3), .unset, .unset] [(.int (12289 : Int32)), (.int (22 : Int32)), (.ref b1), (.ref b1)]))
  obtain ⟨T115, h115, X115, e115, W115, c115, st115⟩ := own_iastore X110 hx hZ e110 c114 (own_inb (by decide) (by rw [hl_vq113]; decide)) (g := (mkF m 152 #[.val (.int p1), .val (.int p2), .val (.int p3), .unset, .unset] [(.int (12289 : Int32)), (.int (22 : Int32)), (.ref b1), (.ref b1)])) rfl rfl (hb hby at_152)
  have N115 := Fr.snoc X115 N110 ge1
  have c116 : own_Ari Z h115 b1 .int (vq113.set 22 (12289 : Int32)) := c115
  have K115 : Keep h0 h115 [] := K110.wr W115 (Or.inr sz1)
  refine own_step st115 ?_
  show own_G p.tables e below _ (T115.setTop (mkF m 153 #[.val (.int p1), .val (.int p2), .val (.int p3), .unset, .unset] [(.ref b1)]))
  obtain ⟨vq118, hl_vq118, c119⟩ : ∃ z : List Int32, z.length = 30 ∧ own_Ari Z h115 b1 .int z := ⟨_, (by first | rfl | (simp only [List.length_set, List.length_replicate, hl_vq113])), c116⟩
  refine own_step (fun t k => XS.dup X115.here hx rfl (hb hby at_153) rfl rfl k) ?_
  clear K110 N110 W115 X110 c111 c114 c115 c116 e110 st115
  show own_G p.tables e below _ (T115.setTop (mkF m 154 #[.val (.int p1), .val (.int p2), .val (.int p3), .unset, .unset] [(.ref b1), (.ref b1)]))
  refine own_step (fun t k => XS.bipush X115.here hx rfl (hb hby at_154) k) ?_
  show own_G p.tables e below _ (T115.setTop (mkF m 156 #[.val (.int p1), .val (.int p2), .val (.int p3), .unset, .unset] [(.int (23 : Int32)), (.ref b1), (.ref b1)]))
  refine own_step (X115.ldcInt hx hown (mvT hZ (hw _ (List.mem_of_getElem? (i := 1) rfl))) (g := (mkF m 156 #[.val (.int p1), .val (.int p2), .val (.int p3), .unset, .unset] [(.int (23 : Int32)), (.ref b1), (.ref b1)])) rfl (hb hby at_156)) ?_
  show own_G p.tables e below _ (T115.setTop (mkF m 158 #[.val (.int p1), .val (.int p2), .val (.int p3), .unset, .unset] [(.int (55296 : Int32)), (.int (23 : Int32)), (.ref b1), (.ref b1)]))
  obtain ⟨T120, h120, X120, e120, W120, c120, st120⟩ := own_iastore X115 hx hZ e115 c119 (own_inb (by decide) (by rw [hl_vq118]; decide)) (g := (mkF m 158 #[.val (.int p1), .val (.int p2), .val (.int p3), .unset, .unset] [(.int (55296 : Int32)), (.int (23 : Int32)), (.ref b1), (.ref b1)])) rfl rfl (hb hby at_158)
  have N120 := Fr.snoc X120 N115 ge1
  have c121 : own_Ari Z h120 b1 .int (vq118.set 23 (55296 : Int32)) := c120
  have K120 : Keep h0 h120 [] := K115.wr W120 (Or.inr sz1)
  refine own_step st120 ?_
  show own_G p.tables e below _ (T120.setTop (mkF m 159 #[.val (.int p1), .val (.int p2), .val (.int p3), .unset, .unset] [(.ref b1)]))
  obtain ⟨vq123, hl_vq123, c124⟩ : ∃ z : List Int32, z.length = 30 ∧ own_Ari Z h120 b1 .int z := ⟨_, (by first | rfl | (simp only [List.length_set, List.length_replicate, hl_vq118])), c121⟩
  refine own_step (fun t k => XS.dup X120.here hx rfl (hb hby at_159) rfl rfl k) ?_
  show own_G p.tables e below _ (T120.setTop (mkF m 160 #[.val (.int p1), .val (.int p2), .val (.int p3), .unset, .unset] [(.ref b1), (.ref b1)]))
  refine own_step (fun t k => XS.bipush X120.here hx rfl (hb hby at_160) k) ?_
  show own_G p.tables e below _ (T120.setTop (mkF m 162 #[.val (.int p1), .val (.int p2), .val (.int p3), .unset, .unset] [(.int (24 : Int32)), (.ref b1), (.ref b1)]))
  refine own_step (X120.ldcInt hx hown (mvT hZ (hw _ (List.mem_of_getElem? (i := 2) rfl))) (g := (mkF m 162 #[.val (.int p1), .val (.int p2), .val (.int p3), .unset, .unset] [(.int (24 : Int32)), (.ref b1), (.ref b1)])) rfl (hb hby at_162)) ?_
  show own_G p.tables e below _ (T120.setTop (mkF m 164 #[.val (.int p1), .val (.int p2), .val (.int p3), .unset, .unset] [(.int (63744 : Int32)), (.int (24 : Int32)), (.ref b1), (.ref b1)]))
  obtain ⟨T125, h125, X125, e125, W125, c125, st125⟩ := own_iastore X120 hx hZ e120 c124 (own_inb (by decide) (by rw [hl_vq123]; decide)) (g := (mkF m 164 #[.val (.int p1), .val (.int p2), .val (.int p3), .unset, .unset] [(.int (63744 : Int32)), (.int (24 : Int32)), (.ref b1), (.ref b1)])) rfl rfl (hb hby at_164)
  have N125 := Fr.snoc X125 N120 ge1
  have c126 : own_Ari Z h125 b1 .int (vq123.set 24 (63744 : Int32)) := c125
  have K125 : Keep h0 h125 [] := K120.wr W125 (Or.inr sz1)
  refine own_step st125 ?_
  clear K115 K120 N115 N120 W120 W125 X115 X120 c119 c120 c121 c124 c125 e115 e120 st120 st125
  show own_G p.tables e below _ (T125.setTop (mkF m 165 #[.val (.int p1), .val (.int p2), .val (.int p3), .unset, .unset] [(.ref b1)]))
  obtain ⟨vq128, hl_vq128, c129⟩ : ∃ z : List Int32, z.length = 30 ∧ own_Ari Z h125 b1 .int z := ⟨_, (by first | rfl | (simp only [List.length_set, List.length_replicate, hl_vq123])), c126⟩
  refine own_step (fun t k => XS.dup X125.here hx rfl (hb hby at_165) rfl rfl k) ?_
  show own_G p.tables e below _ (T125.setTop (mkF m 166 #[.val (.int p1), .val (.int p2), .val (.int p3), .unset, .unset] [(.ref b1), (.ref b1)]))
  refine own_step (fun t k => XS.bipush X125.here hx rfl (hb hby at_166) k) ?_
  show own_G p.tables e below _ (T125.setTop (mkF m 168 #[.val (.int p1), .val (.int p2), .val (.int p3), .unset, .unset] [(.int (25 : Int32)), (.ref b1), (.ref b1)]))
  refine own_step (X125.ldcInt hx hown (mvT hZ (hw _ (List.mem_of_getElem? (i := 3) rfl))) (g := (mkF m 168 #[.val (.int p1), .val (.int p2), .val (.int p3), .unset, .unset] [(.int (25 : Int32)), (.ref b1), (.ref b1)])) rfl (hb hby at_168)) ?_
  show own_G p.tables e below _ (T125.setTop (mkF m 170 #[.val (.int p1), .val (.int p2), .val (.int p3), .unset, .unset] [(.int (64976 : Int32)), (.int (25 : Int32)), (.ref b1), (.ref b1)]))
  obtain ⟨T130, h130, X130, e130, W130, c130, st130⟩ := own_iastore X125 hx hZ e125 c129 (own_inb (by decide) (by rw [hl_vq128]; decide)) (g := (mkF m 170 #[.val (.int p1), .val (.int p2), .val (.int p3), .unset, .unset] [(.int (64976 : Int32)), (.int (25 : Int32)), (.ref b1), (.ref b1)])) rfl rfl (hb hby at_170)
  have N130 := Fr.snoc X130 N125 ge1
  have c131 : own_Ari Z h130 b1 .int (vq128.set 25 (64976 : Int32)) := c130
  have K130 : Keep h0 h130 [] := K125.wr W130 (Or.inr sz1)
  refine own_step st130 ?_
  show own_G p.tables e below _ (T130.setTop (mkF m 171 #[.val (.int p1), .val (.int p2), .val (.int p3), .unset, .unset] [(.ref b1)]))
  obtain ⟨vq133, hl_vq133, c134⟩ : ∃ z : List Int32, z.length = 30 ∧ own_Ari Z h130 b1 .int z := ⟨_, (by first | rfl | (simp only [List.length_set, List.length_replicate, hl_vq128])), c131⟩
  refine own_step (fun t k => XS.dup X130.here hx rfl (hb hby at_171) rfl rfl k) ?_
  clear K125 N125 W130 X125 c126 c129 c130 c131 e125 st130
  show own_G p.tables e below _ (T130.setTop (mkF m 172 #[.val (.int p1), .val (.int p2), .val (.int p3), .unset, .unset] [(.ref b1), (.ref b1)]))
  refine own_step (fun t k => XS.bipush X130.here hx rfl (hb hby at_172) k) ?_
  show own_G p.tables e below _ (T130.setTop (mkF m 174 #[.val (.int p1), .val (.int p2), .val (.int p3), .unset, .unset] [(.int (26 : Int32)), (.ref b1), (.ref b1)]))
  refine own_step (X130.ldcInt hx hown (mvT hZ (hw _ (List.mem_of_getElem? (i := 4) rfl))) (g := (mkF m 174 #[.val (.int p1), .val (.int p2), .val (.int p3), .unset, .unset] [(.int (26 : Int32)), (.ref b1), (.ref b1)])) rfl (hb hby at_174)) ?_
  show own_G p.tables e below _ (T130.setTop (mkF m 176 #[.val (.int p1), .val (.int p2), .val (.int p3), .unset, .unset] [(.int (65008 : Int32)), (.int (26 : Int32)), (.ref b1), (.ref b1)]))
  obtain ⟨T135, h135, X135, e135, W135, c135, st135⟩ := own_iastore X130 hx hZ e130 c134 (own_inb (by decide) (by rw [hl_vq133]; decide)) (g := (mkF m 176 #[.val (.int p1), .val (.int p2), .val (.int p3), .unset, .unset] [(.int (65008 : Int32)), (.int (26 : Int32)), (.ref b1), (.ref b1)])) rfl rfl (hb hby at_176)
  have N135 := Fr.snoc X135 N130 ge1
  have c136 : own_Ari Z h135 b1 .int (vq133.set 26 (65008 : Int32)) := c135
  have K135 : Keep h0 h135 [] := K130.wr W135 (Or.inr sz1)
  refine own_step st135 ?_
  show own_G p.tables e below _ (T135.setTop (mkF m 177 #[.val (.int p1), .val (.int p2), .val (.int p3), .unset, .unset] [(.ref b1)]))
  obtain ⟨vq138, hl_vq138, c139⟩ : ∃ z : List Int32, z.length = 30 ∧ own_Ari Z h135 b1 .int z := ⟨_, (by first | rfl | (simp only [List.length_set, List.length_replicate, hl_vq133])), c136⟩
  refine own_step (fun t k => XS.dup X135.here hx rfl (hb hby at_177) rfl rfl k) ?_
  show own_G p.tables e below _ (T135.setTop (mkF m 178 #[.val (.int p1), .val (.int p2), .val (.int p3), .unset, .unset] [(.ref b1), (.ref b1)]))
  refine own_step (fun t k => XS.bipush X135.here hx rfl (hb hby at_178) k) ?_
  show own_G p.tables e below _ (T135.setTop (mkF m 180 #[.val (.int p1), .val (.int p2), .val (.int p3), .unset, .unset] [(.int (27 : Int32)), (.ref b1), (.ref b1)]))
  refine own_step (X135.ldcInt hx hown (mvT hZ (hw _ (List.mem_of_getElem? (i := 5) rfl))) (g := (mkF m 180 #[.val (.int p1), .val (.int p2), .val (.int p3), .unset, .unset] [(.int (27 : Int32)), (.ref b1), (.ref b1)])) rfl (hb hby at_180)) ?_
  show own_G p.tables e below _ (T135.setTop (mkF m 182 #[.val (.int p1), .val (.int p2), .val (.int p3), .unset, .unset] [(.int (65534 : Int32)), (.int (27 : Int32)), (.ref b1), (.ref b1)]))
  obtain ⟨T140, h140, X140, e140, W140, c140, st140⟩ := own_iastore X135 hx hZ e135 c139 (own_inb (by decide) (by rw [hl_vq138]; decide)) (g := (mkF m 182 #[.val (.int p1), .val (.int p2), .val (.int p3), .unset, .unset] [(.int (65534 : Int32)), (.int (27 : Int32)), (.ref b1), (.ref b1)])) rfl rfl (hb hby at_182)
  have N140 := Fr.snoc X140 N135 ge1
  have c141 : own_Ari Z h140 b1 .int (vq138.set 27 (65534 : Int32)) := c140
  have K140 : Keep h0 h140 [] := K135.wr W140 (Or.inr sz1)
  refine own_step st140 ?_
  clear K130 K135 N130 N135 W135 W140 X130 X135 c134 c135 c136 c139 c140 e130 e135 st135 st140
  show own_G p.tables e below _ (T140.setTop (mkF m 183 #[.val (.int p1), .val (.int p2), .val (.int p3), .unset, .unset] [(.ref b1)]))
  obtain ⟨vq143, hl_vq143, c144⟩ : ∃ z : List Int32, z.length = 30 ∧ own_Ari Z h140 b1 .int z := ⟨_, (by first | rfl | (simp only [List.length_set, List.length_replicate, hl_vq138])), c141⟩
  refine own_step (fun t k => XS.dup X140.here hx rfl (hb hby at_183) rfl rfl k) ?_
  show own_G p.tables e below _ (T140.setTop (mkF m 184 #[.val (.int p1), .val (.int p2), .val (.int p3), .unset, .unset] [(.ref b1), (.ref b1)]))
  refine own_step (fun t k => XS.bipush X140.here hx rfl (hb hby at_184) k) ?_
  show own_G p.tables e below _ (T140.setTop (mkF m 186 #[.val (.int p1), .val (.int p2), .val (.int p3), .unset, .unset] [(.int (28 : Int32)), (.ref b1), (.ref b1)]))
  refine own_step (X140.ldcInt hx hown (mvT hZ (hw _ (List.mem_of_getElem? (i := 6) rfl))) (g := (mkF m 186 #[.val (.int p1), .val (.int p2), .val (.int p3), .unset, .unset] [(.int (28 : Int32)), (.ref b1), (.ref b1)])) rfl (hb hby at_186)) ?_
  show own_G p.tables e below _ (T140.setTop (mkF m 188 #[.val (.int p1), .val (.int p2), .val (.int p3), .unset, .unset] [(.int (65536 : Int32)), (.int (28 : Int32)), (.ref b1), (.ref b1)]))
  obtain ⟨T145, h145, X145, e145, W145, c145, st145⟩ := own_iastore X140 hx hZ e140 c144 (own_inb (by decide) (by rw [hl_vq143]; decide)) (g := (mkF m 188 #[.val (.int p1), .val (.int p2), .val (.int p3), .unset, .unset] [(.int (65536 : Int32)), (.int (28 : Int32)), (.ref b1), (.ref b1)])) rfl rfl (hb hby at_188)
  have N145 := Fr.snoc X145 N140 ge1
  have c146 : own_Ari Z h145 b1 .int (vq143.set 28 (65536 : Int32)) := c145
  have K145 : Keep h0 h145 [] := K140.wr W145 (Or.inr sz1)
  refine own_step st145 ?_
  show own_G p.tables e below _ (T145.setTop (mkF m 189 #[.val (.int p1), .val (.int p2), .val (.int p3), .unset, .unset] [(.ref b1)]))
  obtain ⟨vq148, hl_vq148, c149⟩ : ∃ z : List Int32, z.length = 30 ∧ own_Ari Z h145 b1 .int z := ⟨_, (by first | rfl | (simp only [List.length_set, List.length_replicate, hl_vq143])), c146⟩
  refine own_step (fun t k => XS.dup X145.here hx rfl (hb hby at_189) rfl rfl k) ?_
  clear K140 N140 W145 X140 c141 c144 c145 c146 e140 st145
  show own_G p.tables e below _ (T145.setTop (mkF m 190 #[.val (.int p1), .val (.int p2), .val (.int p3), .unset, .unset] [(.ref b1), (.ref b1)]))
  refine own_step (fun t k => XS.bipush X145.here hx rfl (hb hby at_190) k) ?_
  show own_G p.tables e below _ (T145.setTop (mkF m 192 #[.val (.int p1), .val (.int p2), .val (.int p3), .unset, .unset] [(.int (29 : Int32)), (.ref b1), (.ref b1)]))
  refine own_step (X145.ldcInt hx hown (mvT hZ (hw _ (List.mem_of_getElem? (i := 7) rfl))) (g := (mkF m 192 #[.val (.int p1), .val (.int p2), .val (.int p3), .unset, .unset] [(.int (29 : Int32)), (.ref b1), (.ref b1)])) rfl (hb hby at_192)) ?_
  show own_G p.tables e below _ (T145.setTop (mkF m 194 #[.val (.int p1), .val (.int p2), .val (.int p3), .unset, .unset] [(.int (983040 : Int32)), (.int (29 : Int32)), (.ref b1), (.ref b1)]))
  obtain ⟨T150, h150, X150, e150, W150, c150, st150⟩ := own_iastore X145 hx hZ e145 c149 (own_inb (by decide) (by rw [hl_vq148]; decide)) (g := (mkF m 194 #[.val (.int p1), .val (.int p2), .val (.int p3), .unset, .unset] [(.int (983040 : Int32)), (.int (29 : Int32)), (.ref b1), (.ref b1)])) rfl rfl (hb hby at_194)
  have N150 := Fr.snoc X150 N145 ge1
  have c151 : own_Ari Z h150 b1 .int (vq148.set 29 (983040 : Int32)) := c150
  have K150 : Keep h0 h150 [] := K145.wr W150 (Or.inr sz1)
  refine own_step st150 ?_
  show own_G p.tables e below _ (T150.setTop (mkF m 195 #[.val (.int p1), .val (.int p2), .val (.int p3), .unset, .unset] [(.ref b1)]))
  obtain ⟨vq153, hl_vq153, c154⟩ : ∃ z : List Int32, z.length = 30 ∧ own_Ari Z h150 b1 .int z := ⟨_, (by first | rfl | (simp only [List.length_set, List.length_replicate, hl_vq148])), c151⟩
  refine own_step (fun t k => XS.astoreN X150.here hx rfl (hb hby at_195) rfl rfl (l' := #[.val (.int p1), .val (.int p2), .val (.int p3), .val (.ref b1), .unset]) rfl k) ?_
  show own_G p.tables e below _ (T150.setTop (mkF m 196 #[.val (.int p1), .val (.int p2), .val (.int p3), .val (.ref b1), .unset] []))
  refine own_step (fun t k => XS.aloadN X150.here hx rfl (hb hby at_196) rfl rfl k) ?_
  show own_G p.tables e below _ (T150.setTop (mkF m 197 #[.val (.int p1), .val (.int p2), .val (.int p3), .val (.ref b1), .unset] [(.ref b1)]))
  refine own_step (fun t k => XS.iloadN X150.here hx rfl (hb hby at_197) rfl k) ?_
  show own_G p.tables e below _ (T150.setTop (mkF m 198 #[.val (.int p1), .val (.int p2), .val (.int p3), .val (.ref b1), .unset] [(.int p2), (.ref b1)]))
  refine own_step (X150.ldcInt hx hown (mvT hZ (hw _ (List.mem_of_getElem? (i := 8) rfl))) (g := (mkF m 198 #[.val (.int p1), .val (.int p2), .val (.int p3), .val (.ref b1), .unset] [(.int p2), (.ref b1)])) rfl (hb hby at_198)) ?_
  show own_G p.tables e below _ (T150.setTop (mkF m 200 #[.val (.int p1), .val (.int p2), .val (.int p3), .val (.ref b1), .unset] [(.int (2147483647 : Int32)), (.int p2), (.ref b1)]))
  refine own_step (fun t k => XS.iand X150.here hx rfl (hb hby at_200) rfl k) ?_
  show own_G p.tables e below _ (T150.setTop (mkF m 201 #[.val (.int p1), .val (.int p2), .val (.int p3), .val (.ref b1), .unset] [(.int (p2 &&& (2147483647 : Int32))), (.ref b1)]))
  refine own_step (fun t k => XS.aloadN X150.here hx rfl (hb hby at_201) rfl rfl k) ?_
  show own_G p.tables e below _ (T150.setTop (mkF m 202 #[.val (.int p1), .val (.int p2), .val (.int p3), .val (.ref b1), .unset] [(.ref b1), (.int (p2 &&& (2147483647 : Int32))), (.ref b1)]))
  refine own_step (own_lenI X150 hx hZ e150 c154 (g := (mkF m 202 #[.val (.int p1), .val (.int p2), .val (.int p3), .val (.ref b1), .unset] [(.ref b1), (.int (p2 &&& (2147483647 : Int32))), (.ref b1)])) rfl rfl (hb hby at_202)) ?_
  show own_G p.tables e below _ (T150.setTop (mkF m 203 #[.val (.int p1), .val (.int p2), .val (.int p3), .val (.ref b1), .unset] [(.int (vq153.length.toInt32)), (.int (p2 &&& (2147483647 : Int32))), (.ref b1)]))
  rw [hl_vq153]
  show own_G p.tables e below _ (T150.setTop (mkF m 203 #[.val (.int p1), .val (.int p2), .val (.int p3), .val (.ref b1), .unset] [(.int (30 : Int32)), (.int (p2 &&& (2147483647 : Int32))), (.ref b1)]))
  refine own_step (fun t k => XS.irem X150.here hx rfl (hb hby at_203) rfl (by decide) k) ?_
  show own_G p.tables e below _ (T150.setTop (mkF m 204 #[.val (.int p1), .val (.int p2), .val (.int p3), .val (.ref b1), .unset] [(.int ((p2 &&& (2147483647 : Int32)) - ((p2 &&& (2147483647 : Int32)) / (30 : Int32)) * (30 : Int32))), (.ref b1)]))
  refine own_step (own_iaload X150 hx hZ e150 c154 (by rw [hl_vq153]; exact own_rem _) (g := (mkF m 204 #[.val (.int p1), .val (.int p2), .val (.int p3), .val (.ref b1), .unset] [(.int ((p2 &&& (2147483647 : Int32)) - ((p2 &&& (2147483647 : Int32)) / (30 : Int32)) * (30 : Int32))), (.ref b1)])) rfl rfl (hb hby at_204)) ?_
  show own_G p.tables e below _ (T150.setTop (mkF m 205 #[.val (.int p1), .val (.int p2), .val (.int p3), .val (.ref b1), .unset] [(.int (vq153.getD ((p2 &&& (2147483647 : Int32)) - ((p2 &&& (2147483647 : Int32)) / (30 : Int32)) * (30 : Int32)).toNatClampNeg 0))]))
  refine own_step (fun t k => XS.iloadN X150.here hx rfl (hb hby at_205) rfl k) ?_
  show own_G p.tables e below _ (T150.setTop (mkF m 206 #[.val (.int p1), .val (.int p2), .val (.int p3), .val (.ref b1), .unset] [(.int p3), (.int (vq153.getD ((p2 &&& (2147483647 : Int32)) - ((p2 &&& (2147483647 : Int32)) / (30 : Int32)) * (30 : Int32)).toNatClampNeg 0))]))
  refine own_step (fun t k => XS.iconst X150.here hx rfl (hb hby at_206) k) ?_
  show own_G p.tables e below _ (T150.setTop (mkF m 207 #[.val (.int p1), .val (.int p2), .val (.int p3), .val (.ref b1), .unset] [(.int (3 : Int32)), (.int p3), (.int (vq153.getD ((p2 &&& (2147483647 : Int32)) - ((p2 &&& (2147483647 : Int32)) / (30 : Int32)) * (30 : Int32)).toNatClampNeg 0))]))
  refine own_step (fun t k => XS.iand X150.here hx rfl (hb hby at_207) rfl k) ?_
  show own_G p.tables e below _ (T150.setTop (mkF m 208 #[.val (.int p1), .val (.int p2), .val (.int p3), .val (.ref b1), .unset] [(.int (p3 &&& (3 : Int32))), (.int (vq153.getD ((p2 &&& (2147483647 : Int32)) - ((p2 &&& (2147483647 : Int32)) / (30 : Int32)) * (30 : Int32)).toNatClampNeg 0))]))
  refine own_step (fun t k => XS.iconst X150.here hx rfl (hb hby at_208) k) ?_
  show own_G p.tables e below _ (T150.setTop (mkF m 209 #[.val (.int p1), .val (.int p2), .val (.int p3), .val (.ref b1), .unset] [(.int (2 : Int32)), (.int (p3 &&& (3 : Int32))), (.int (vq153.getD ((p2 &&& (2147483647 : Int32)) - ((p2 &&& (2147483647 : Int32)) / (30 : Int32)) * (30 : Int32)).toNatClampNeg 0))]))
  refine own_step (fun t k => XS.isub X150.here hx rfl (hb hby at_209) rfl k) ?_
  show own_G p.tables e below _ (T150.setTop (mkF m 210 #[.val (.int p1), .val (.int p2), .val (.int p3), .val (.ref b1), .unset] [(.int ((p3 &&& (3 : Int32)) - (2 : Int32))), (.int (vq153.getD ((p2 &&& (2147483647 : Int32)) - ((p2 &&& (2147483647 : Int32)) / (30 : Int32)) * (30 : Int32)).toNatClampNeg 0))]))
  refine own_step (fun t k => XS.iadd X150.here hx rfl (hb hby at_210) rfl k) ?_
  show own_G p.tables e below _ (T150.setTop (mkF m 211 #[.val (.int p1), .val (.int p2), .val (.int p3), .val (.ref b1), .unset] [(.int ((vq153.getD ((p2 &&& (2147483647 : Int32)) - ((p2 &&& (2147483647 : Int32)) / (30 : Int32)) * (30 : Int32)).toNatClampNeg 0) + ((p3 &&& (3 : Int32)) - (2 : Int32))))]))
  refine own_nm (((vq153.getD ((p2 &&& (2147483647 : Int32)) - ((p2 &&& (2147483647 : Int32)) / (30 : Int32)) * (30 : Int32)).toNatClampNeg 0) + ((p3 &&& (3 : Int32)) - (2 : Int32))) : Int32) (fun xx => T150.setTop (mkF m 211 #[.val (.int p1), .val (.int p2), .val (.int p3), .val (.ref b1), .unset] [(.int xx)])) ?_
  intro xx hd_xx
  show own_G p.tables e below _ (T150.setTop (mkF m 211 #[.val (.int p1), .val (.int p2), .val (.int p3), .val (.ref b1), .unset] [(.int xx)]))
  refine own_step (fun t k => XS.istore X150.here hx rfl (hb hby at_211) rfl (l' := #[.val (.int p1), .val (.int p2), .val (.int p3), .val (.ref b1), .val (.int xx)]) rfl k) ?_
  show own_G p.tables e below _ (T150.setTop (mkF m 213 #[.val (.int p1), .val (.int p2), .val (.int p3), .val (.ref b1), .val (.int xx)] []))
  refine own_step (fun t k => XS.iloadN X150.here hx rfl (hb hby at_213) rfl k) ?_
  show own_G p.tables e below _ (T150.setTop (mkF m 214 #[.val (.int p1), .val (.int p2), .val (.int p3), .val (.ref b1), .val (.int xx)] [(.int p1)]))
  obtain ⟨_, _, ⟨T156, L156, k156, n156⟩, -, X156, ⟨Lc156, hQ156, l156, y156, z156⟩, st156⟩ := Jvm.LawKit.callS X150 hx (y := (⟨"com/example/same_bytes/samebytes/XmlRules", "isNameStartChar", "(I)Z"⟩ : MethodName)) hown (mvT hZ (hw _ (List.mem_of_getElem? (i := 9) rfl))) (mvT hZ (hw _ (List.mem_of_getElem? (i := 10) rfl))) (mvT hZ (hw _ (List.mem_of_getElem? (i := 11) rfl))) (mvT hZ (hw _ (List.mem_of_getElem? (i := 12) rfl))) (by decide) (backOf (W := 0) (rm1 l Z a0 hw [] p1 h150 n0 (Nat.le_trans Z0 K150.1) ) hZ (hw _ (List.mem_of_getElem? (i := 12) rfl)) (hw _ (List.mem_of_getElem? (i := 11) rfl)) (by decide) (by decide)) (g := (mkF m 214 #[.val (.int p1), .val (.int p2), .val (.int p3), .val (.ref b1), .val (.int xx)] [(.int p1)])) rfl (by rw [hml]; rfl) (argsL := [(.int p1)]) (rest := []) (lenOf pd_0_0 rfl) rfl (by show 2 * 0 + _ ≤ _; exact Nat.le_of_eq rfl) (hb hby at_214) (fun _ _ => ⟨rfl, e150, (by decide : 1 + 0 ≤ _), (by decide : 30 + 0 ≤ _)⟩)
  dsimp only [Pt.U, Pt.locs, Pt.cells, Pt.slots] at X156 l156 y156 z156 st156 hQ156
  subst y156 z156
  obtain ⟨rfl, N156q, e156⟩ := hQ156
  have N156 : Fr n0 L156 := by rw [l156]; exact Fr.app N150 N156q
  refine own_step st156 ?_
  clear K145 N145 N150 N156q W150 X145 X150 c149 c150 c151 e145 e150 st150 st156
  show own_G p.tables e below _ (T156.setTop (mkF m 217 #[.val (.int p1), .val (.int p2), .val (.int p3), .val (.ref b1), .val (.int xx)] [(.int (own_f1 p1))]))
  refine own_step (fun t k => XS.iloadN X156.here hx rfl (hb hby at_217) rfl k) ?_
  show own_G p.tables e below _ (T156.setTop (mkF m 218 #[.val (.int p1), .val (.int p2), .val (.int p3), .val (.ref b1), .val (.int xx)] [(.int p1), (.int (own_f1 p1))]))
  obtain ⟨_, _, ⟨T157, L157, k157, n157⟩, -, X157, ⟨Lc157, hQ157, l157, y157, z157⟩, st157⟩ := Jvm.LawKit.callS X156 hx (y := (⟨"com/example/same_bytes/samebytes/XmlRulesIsNameStartCharPinLaw", "ref", "(I)Z"⟩ : MethodName)) hown (mvT hZ (hw _ (List.mem_of_getElem? (i := 16) rfl))) (mvT hZ (hw _ (List.mem_of_getElem? (i := 17) rfl))) (mvT hZ (hw _ (List.mem_of_getElem? (i := 18) rfl))) (mvT hZ (hw _ (List.mem_of_getElem? (i := 19) rfl))) (by decide) (backOf (W := 1) (rm2 l Z a0 hw [] p1 h150 n0 (Nat.le_trans Z0 K150.1) ) hZ (hw _ (List.mem_of_getElem? (i := 19) rfl)) (hw _ (List.mem_of_getElem? (i := 18) rfl)) (by decide) (by decide)) (g := (mkF m 218 #[.val (.int p1), .val (.int p2), .val (.int p3), .val (.ref b1), .val (.int xx)] [(.int p1), (.int (own_f1 p1))])) rfl (by rw [hml]; rfl) (argsL := [(.int p1)]) (rest := [(.int (own_f1 p1))]) (lenOf pd_0_0 rfl) rfl (by show 2 * 0 + _ ≤ _; exact Nat.le_of_eq rfl) (hb hby at_218) (fun _ _ => ⟨rfl, e156, (by decide : 1 + 0 ≤ _), (by decide : 30 + 0 ≤ _)⟩)
  dsimp only [Pt.U, Pt.locs, Pt.cells, Pt.slots] at X157 l157 y157 z157 st157 hQ157
  subst y157 z157
  obtain ⟨rfl, N157q, e157⟩ := hQ157
  have N157 : Fr n0 L157 := by rw [l157]; exact Fr.app N156 N157q
  refine own_step st157 ?_
  show own_G p.tables e below _ (T157.setTop (mkF m 221 #[.val (.int p1), .val (.int p2), .val (.int p3), .val (.ref b1), .val (.int xx)] [(.int (own_f2 p1)), (.int (own_f1 p1))]))
  have hk158 : (own_f1 p1) = (own_f2 p1) := own_eq _
  refine own_step (fun t k => XS.icmpNo X157.here hx rfl (hb hby at_221) rfl ((teq hk158).2) k) ?_
  show own_G p.tables e below _ (T157.setTop (mkF m 224 #[.val (.int p1), .val (.int p2), .val (.int p3), .val (.ref b1), .val (.int xx)] []))
  refine own_step (fun t k => XS.iload X157.here hx rfl (hb hby at_224) rfl k) ?_
  show own_G p.tables e below _ (T157.setTop (mkF m 226 #[.val (.int p1), .val (.int p2), .val (.int p3), .val (.ref b1), .val (.int xx)] [(.int xx)]))
  obtain ⟨_, _, ⟨T159, L159, k159, n159⟩, -, X159, ⟨Lc159, hQ159, l159, y159, z159⟩, st159⟩ := Jvm.LawKit.callS X157 hx (y := (⟨"com/example/same_bytes/samebytes/XmlRules", "isNameStartChar", "(I)Z"⟩ : MethodName)) hown (mvT hZ (hw _ (List.mem_of_getElem? (i := 9) rfl))) (mvT hZ (hw _ (List.mem_of_getElem? (i := 10) rfl))) (mvT hZ (hw _ (List.mem_of_getElem? (i := 11) rfl))) (mvT hZ (hw _ (List.mem_of_getElem? (i := 12) rfl))) (by decide) (backOf (W := 0) (rm1 l Z a0 hw [] xx h150 n0 (Nat.le_trans Z0 K150.1) ) hZ (hw _ (List.mem_of_getElem? (i := 12) rfl)) (hw _ (List.mem_of_getElem? (i := 11) rfl)) (by decide) (by decide)) (g := (mkF m 226 #[.val (.int p1), .val (.int p2), .val (.int p3), .val (.ref b1), .val (.int xx)] [(.int xx)])) rfl (by rw [hml]; rfl) (argsL := [(.int xx)]) (rest := []) (lenOf pd_0_0 rfl) rfl (by show 2 * 0 + _ ≤ _; exact Nat.le_of_eq rfl) (hb hby at_226) (fun _ _ => ⟨rfl, e157, (by decide : 1 + 0 ≤ _), (by decide : 30 + 0 ≤ _)⟩)
  dsimp only [Pt.U, Pt.locs, Pt.cells, Pt.slots] at X159 l159 y159 z159 st159 hQ159
  subst y159 z159
  obtain ⟨rfl, N159q, e159⟩ := hQ159
  have N159 : Fr n0 L159 := by rw [l159]; exact Fr.app N157 N159q
  refine own_step st159 ?_
  clear N156 N157 N157q N159q X156 X157 e156 e157 hk158 st157 st159
  show own_G p.tables e below _ (T159.setTop (mkF m 229 #[.val (.int p1), .val (.int p2), .val (.int p3), .val (.ref b1), .val (.int xx)] [(.int (own_f1 xx))]))
  refine own_step (fun t k => XS.iload X159.here hx rfl (hb hby at_229) rfl k) ?_
  show own_G p.tables e below _ (T159.setTop (mkF m 231 #[.val (.int p1), .val (.int p2), .val (.int p3), .val (.ref b1), .val (.int xx)] [(.int xx), (.int (own_f1 xx))]))
  obtain ⟨_, _, ⟨T160, L160, k160, n160⟩, -, X160, ⟨Lc160, hQ160, l160, y160, z160⟩, st160⟩ := Jvm.LawKit.callS X159 hx (y := (⟨"com/example/same_bytes/samebytes/XmlRulesIsNameStartCharPinLaw", "ref", "(I)Z"⟩ : MethodName)) hown (mvT hZ (hw _ (List.mem_of_getElem? (i := 16) rfl))) (mvT hZ (hw _ (List.mem_of_getElem? (i := 17) rfl))) (mvT hZ (hw _ (List.mem_of_getElem? (i := 18) rfl))) (mvT hZ (hw _ (List.mem_of_getElem? (i := 19) rfl))) (by decide) (backOf (W := 1) (rm2 l Z a0 hw [] xx h150 n0 (Nat.le_trans Z0 K150.1) ) hZ (hw _ (List.mem_of_getElem? (i := 19) rfl)) (hw _ (List.mem_of_getElem? (i := 18) rfl)) (by decide) (by decide)) (g := (mkF m 231 #[.val (.int p1), .val (.int p2), .val (.int p3), .val (.ref b1), .val (.int xx)] [(.int xx), (.int (own_f1 xx))])) rfl (by rw [hml]; rfl) (argsL := [(.int xx)]) (rest := [(.int (own_f1 xx))]) (lenOf pd_0_0 rfl) rfl (by show 2 * 0 + _ ≤ _; exact Nat.le_of_eq rfl) (hb hby at_231) (fun _ _ => ⟨rfl, e159, (by decide : 1 + 0 ≤ _), (by decide : 30 + 0 ≤ _)⟩)
  dsimp only [Pt.U, Pt.locs, Pt.cells, Pt.slots] at X160 l160 y160 z160 st160 hQ160
  subst y160 z160
  obtain ⟨rfl, N160q, e160⟩ := hQ160
  have N160 : Fr n0 L160 := by rw [l160]; exact Fr.app N159 N160q
  refine own_step st160 ?_
  show own_G p.tables e below _ (T160.setTop (mkF m 234 #[.val (.int p1), .val (.int p2), .val (.int p3), .val (.ref b1), .val (.int xx)] [(.int (own_f2 xx)), (.int (own_f1 xx))]))
  have hk161 : (own_f1 xx) = (own_f2 xx) := own_eq _
  refine own_step (fun t k => XS.icmpNo X160.here hx rfl (hb hby at_234) rfl ((teq hk161).2) k) ?_
  show own_G p.tables e below _ (T160.setTop (mkF m 237 #[.val (.int p1), .val (.int p2), .val (.int p3), .val (.ref b1), .val (.int xx)] []))
  refine own_step (fun t k => XS.iconst X160.here hx rfl (hb hby at_237) k) ?_
  show own_G p.tables e below _ (T160.setTop (mkF m 238 #[.val (.int p1), .val (.int p2), .val (.int p3), .val (.ref b1), .val (.int xx)] [(.int (1 : Int32))]))
  refine own_step (fun t k => XS.goto X160.here hx rfl (pc0 := 238) (pc' := 242) rfl (hb hby at_238) (by decide) (by decide) k) ?_
  show own_G p.tables e below _ (T160.setTop (mkF m 242 #[.val (.int p1), .val (.int p2), .val (.int p3), .val (.ref b1), .val (.int xx)] [(.int (1 : Int32))]))
  obtain ⟨fs, hr, hrun, hended, hW, hsame⟩ := X160.leave (v := some (.int (1 : Int32))) (fun h => by rw [Bd.returns] at h; cases h)
  refine own_done (retN X160 hx (t := .boolean) Bd.returns (by simp) (hb hby at_242) hr) hrun hended ⟨_, _, rfl, ?_, ⟨_, rfl⟩, hW, hsame.mono (by decide) (by decide)⟩
  show Q0 Z p1 p2 p3 h0 n0 _ T160.heap _
  rw [e160]
  exact ⟨rfl, N160⟩
set_option maxRecDepth 65536 in
set_option maxHeartbeats 40000000 in
theorem comes_1 {Post : Tables → Env → Array Value → State → Outcome → State → Prop} (hpost : ∀ tb e args s v u, (limb_1_1.after args s (.returned v) u = true ∧ limb_1_2.after args s (.returned v) u = true ∧ True) → FrameEnd s (.returned v) u (Jvm.fieldLocs frame_1_writes args s ++ Jvm.arrayLocs frame_1_arrays args s ++ Jvm.staticLocs frame_1_statics s) 16 128 → Post tb e args s (.returned v) u) :
    ArmFor flags0 classFile x code maxLocals ret World_1 tables_1 room_1 Calls_1 rest_1 Pre_1 Post := by
  intro l hfl _ _ p e ha hc hk s m args below hf hA hF happ hP
  obtain ⟨hcalls, hrest, hpre⟩ := hP
  obtain ⟨-, -, -, hnamed, -, -, -, hat⟩ := (Spec.applies_iff hf).mp happ
  obtain ⟨hg, hn⟩ := and_e (Cond.before_iff.mp (show (Jvm.Cond.and given_1 narrow_1).before args s = true from hpre))
  obtain ⟨g1, g2⟩ := and_e hg
  obtain ⟨g3, g4⟩ := and_e g2
  obtain ⟨g5, g6⟩ := and_e g4
  obtain ⟨w0, w1, w2, rfl⟩ : ∃ w0 w1 w2 : Value, args = #[w0, w1, w2] := by
    have hs : args.size = 3 := by simpa [Cond.value, given_1] using g1
    obtain ⟨L⟩ := args
    match L, hs with
    | [w0, w1, w2], _ => exact ⟨w0, w1, w2, rfl⟩
  have hw := fun d (hd : d ∈ tables_1) => atoms_spec (ws := Jvm.Cond.code x code maxLocals ret :: tables_1) hat d (List.mem_cons_of_mem _ hd)
  obtain ⟨i0, ei0⟩ := is_v g3
  obtain rfl : w0 = (.int i0) := Option.some.inj ei0
  obtain ⟨i1, ei1⟩ := is_v g5
  obtain rfl : w1 = (.int i1) := Option.some.inj ei1
  obtain ⟨i2, ei2⟩ := is_v g6
  obtain rfl : w2 = (.int i2) := Option.some.inj ei2
  obtain ⟨n, o, h1, h2, h3, _, L, rfl, ⟨rfl, N⟩, hq⟩ := rm0 l s _ hw tables_1 i0 i1 i2 s.heap s.heap.size (Nat.le_refl _)  p e ha hc hk s m _ below hf ((Spec.applies_iff_loose hf).mp happ).1 ⟨rfl, State.Warmed39.refl s, rfl⟩ trivial
  refine ⟨n, _, h1, h2, h3, hpost _ _ _ _ _ _ ⟨Cond.after_iff.mpr rfl, Cond.after_iff.mpr (eq_i res_at (Term.int_eval (1)) rfl), trivial⟩ ⟨hq.1, hq.2.1, (hq.2.2.sift fun y hy => Or.inr (N y hy)).mono (by decide) (by decide)⟩⟩
theorem main_1_1 : Claimed_1_1 := comes_1 fun _ _ _ _ _ _ h hF => ⟨h.1, hF⟩
theorem main_1_2 : Claimed_1_2 := comes_1 fun _ _ _ _ _ _ h hF => ⟨h.2.1, hF⟩
end Jvm.Pilot.@@N@@
namespace Jvm.Pilot.@@N@@
open Jvm Jvm.ClassFile Sem Op Lib Jvm.Free Jvm.Stand Jvm.Pilot.@@N@@.Jvm.D
/-! MADE BY PROGRAM (witnessworld.py) out of the Statement's table words and the real class files: 9 classes; the members and pool entries that the words name. The judged class is class 1, her method 1. -/
namespace start1
open Jvm.ClassFile
def u (s : String) : CpInfo := .utf8 (stringToUtf16 s)
/-- a pool by its gaps: so many unusable entries, then the entry; so many at the end -/
def gap : Nat → List CpInfo → List CpInfo
  | 0, r => r
  | n + 1, r => .unusable :: gap n r
def poolList (es : List (Nat × CpInfo)) (last : Nat) : List CpInfo := es.foldr (fun e r => gap e.1 (e.2 :: r)) (gap last [])
def pool (es : List (Nat × CpInfo)) (last : Nat) : Array CpInfo := ⟨poolList es last⟩
def fileOf (pool : Array CpInfo) (this : Nat) (attrs : Array Attribute := #[]) (ms : Array MethodInfo := #[]) (fl : Nat := 33) (sup : Nat := 0) (ifs : Array Nat := #[]) (fds : Array FieldInfo := #[]) : ClassFile where
  minorVersion := 0
  majorVersion := 65
  constantPool := pool
  accessFlags := fl
  thisClass := this
  superClass := sup
  interfaces := ifs
  fields := fds
  methods := ms
  attributes := attrs
def plain (name : String) (sup : Option ClassId) : Class where
  name := name
  kind := .ordinary
  loader := none
  accessFlags := 33
  super := sup
  interfaces := #[]
  cf := none
  fields := #[]
  methods := #[]
  instanceTypes := #[]
  staticTypes := #[]
  resolved := #[]
  callSites := []
  init := .initialized
  statics := none
  mirror := none

def pool0 : Array CpInfo := pool [(5, u "<init>"), (0, u "()V"), (1, .class_ 10), (1, u "java/lang/Object")] 113

def k0m0 : Method := { name := "<init>", desc := "()V", sig := { parameters := [], returnType := none }, accessFlags := 1, code := none }
/-- java/lang/Object -/
def k0 : Class := { plain "java/lang/Object" none with
  accessFlags := 33
  interfaces := #[]
  cf := some (fileOf pool0 8 #[] #[{ accessFlags := 1, nameIndex := 5, descriptorIndex := 6, attributes := #[] }] 33 0 #[] #[])
  fields := #[]
  methods := #[k0m0]
  instanceTypes := #[]
  staticTypes := #[]
  resolved := Array.replicate 124 none
  statics := none }

def pool1 : Array CpInfo := pool [(2, .class_ 4), (1, u "java/lang/Object"), (0, u "<init>"), (0, u "()V"), (0, .integer 55296), (0, .integer 63744), (0, .integer 64976), (0, .integer 65008), (0, .integer 65534), (0, .integer 65536), (0, .integer 983040), (0, .integer 2147483647), (0, .methodref 16 17), (0, .class_ 18), (0, .nameAndType 19 20), (0, u "com/example/same_bytes/samebytes/XmlRules"), (0, u "isNameStartChar"), (0, u "(I)Z"), (0, .methodref 22 23), (0, .class_ 24), (0, .nameAndType 25 20), (0, u "com/example/same_bytes/samebytes/XmlRulesIsNameStartCharPinLaw"), (0, u "ref"), (2, u "law"), (0, u "(III)Z")] 5

def k1m0 : Method := { name := "<init>", desc := "()V", sig := { parameters := [], returnType := none }, accessFlags := 2, code := none }
def k1c1 : Code := { maxStack := 4, maxLocals := 5, code := code, exceptionTable := #[], attributes := #[] }
def k1m1 : Method := { name := "law", desc := "(III)Z", sig := { parameters := [.int, .int, .int], returnType := some .boolean }, accessFlags := 9, code := some k1c1 }
def k1c2 : Code := { maxStack := 2, maxLocals := 1, code := method_3_code, exceptionTable := #[], attributes := #[] }
def k1m2 : Method := { name := "ref", desc := "(I)Z", sig := { parameters := [.int], returnType := some .boolean }, accessFlags := 10, code := some k1c2 }
/-- com/example/same_bytes/samebytes/XmlRulesIsNameStartCharPinLaw -/
def k1 : Class := { plain "com/example/same_bytes/samebytes/XmlRulesIsNameStartCharPinLaw" (some 0) with
  accessFlags := 49
  interfaces := #[]
  cf := some (fileOf pool1 22 #[] #[{ accessFlags := 2, nameIndex := 5, descriptorIndex := 6, attributes := #[] }, { accessFlags := 9, nameIndex := 28, descriptorIndex := 29, attributes := #[] }, { accessFlags := 10, nameIndex := 25, descriptorIndex := 20, attributes := #[] }] 49 2 #[] #[])
  fields := #[]
  methods := #[k1m0, k1m1, k1m2]
  instanceTypes := #[]
  staticTypes := #[]
  resolved := Array.replicate 35 none
  statics := none }

def pool2 : Array CpInfo := pool [(2, .class_ 4), (1, u "java/lang/Object"), (0, u "<init>"), (0, u "()V"), (14, .class_ 23), (1, u "com/example/same_bytes/samebytes/XmlRules"), (1, u "(I)Z"), (50, .class_ 78), (1, u "com/example/same_bytes/samebytes/XmlRules$ColonFree"), (31, u "isNameStartChar"), (12, .integer 55295), (0, .integer 63744), (0, .integer 64975), (0, .integer 65008), (0, .integer 65533), (0, .integer 65536), (0, .integer 983039)] 58

def k2m0 : Method := { name := "<init>", desc := "()V", sig := { parameters := [], returnType := none }, accessFlags := 2, code := none }
def k2c1 : Code := { maxStack := 2, maxLocals := 1, code := prog_179_method_13_code, exceptionTable := #[], attributes := #[] }
def k2m1 : Method := { name := "isNameStartChar", desc := "(I)Z", sig := { parameters := [.int], returnType := some .boolean }, accessFlags := 8, code := some k2c1 }
/-- com/example/same_bytes/samebytes/XmlRules -/
def k2 : Class := { plain "com/example/same_bytes/samebytes/XmlRules" (some 0) with
  accessFlags := 48
  interfaces := #[]
  cf := some (fileOf pool2 21 #[.nestMembers #[76]] #[{ accessFlags := 2, nameIndex := 5, descriptorIndex := 6, attributes := #[] }, { accessFlags := 8, nameIndex := 110, descriptorIndex := 25, attributes := #[] }] 48 2 #[] #[])
  fields := #[]
  methods := #[k2m0, k2m1]
  instanceTypes := #[]
  staticTypes := #[]
  resolved := Array.replicate 188 none
  statics := none }

def pool3 : Array CpInfo := pool [(1, u "java/lang/Cloneable"), (0, .class_ 1), (0, u "java/lang/Object"), (0, .class_ 3)] 3

/-- java/lang/Cloneable -/
def k3 : Class := { plain "java/lang/Cloneable" (some 0) with
  accessFlags := 1537
  interfaces := #[]
  cf := some (fileOf pool3 2 #[] #[] 1537 4 #[] #[])
  fields := #[]
  methods := #[]
  instanceTypes := #[]
  staticTypes := #[]
  resolved := Array.replicate 8 none
  statics := none }

def pool4 : Array CpInfo := pool [(1, u "java/io/Serializable"), (0, .class_ 1), (0, u "java/lang/Object"), (0, .class_ 3)] 3

/-- java/io/Serializable -/
def k4 : Class := { plain "java/io/Serializable" (some 0) with
  accessFlags := 1537
  interfaces := #[]
  cf := some (fileOf pool4 2 #[] #[] 1537 4 #[] #[])
  fields := #[]
  methods := #[]
  instanceTypes := #[]
  staticTypes := #[]
  resolved := Array.replicate 8 none
  statics := none }

/-- the primitive byte -/
def k5 : Class := { plain "byte" none with kind := .primitive 'B', accessFlags := 0x411 }
/-- [B -/
def k6 : Class := { plain "[B" (some 0) with kind := .array 5 .byte, interfaces := #[3, 4], accessFlags := 1041 }

/-- the primitive int -/
def k7 : Class := { plain "int" none with kind := .primitive 'I', accessFlags := 0x411 }
/-- [I -/
def k8 : Class := { plain "[I" (some 0) with kind := .array 7 .int, interfaces := #[3, 4], accessFlags := 1041 }

def heap : Heap := #[]
def classes : Array Class := #[k0, k1, k2, k3, k4, k5, k6, k7, k8]
def interned : List (Array UInt16 × Addr) := []
def slotsUsed : Nat := 0
def theMethod : MethodId := ⟨1, 1⟩
def args0 : Array Value := #[.int 5, .int 7, .int 1]
def aboutOver (below : List Frame) : State where
  vm := { classes := classes, interned := interned.toArray }
  heap := heap
  slotsUsed := slotsUsed
  threads := #[{ frames := .invoking theMethod args0 :: below }]
def below0 : List Frame := [.native { method := ⟨0, 0⟩, args := #[] }]
def about1 : State := aboutOver below0
def p0 : Program := .bare "" "" ""
def e0 : Env := launch0.env 0 0 0
theorem w_frames : about1.frames = Frame.invoking theMethod args0 :: below0 := rfl
set_option maxRecDepth 65536 in
theorem w_args : argsFit about1.vm theMethod args0 = true := by decide +kernel
set_option maxRecDepth 65536 in
theorem w_heap : heapFits about1 = true := by decide +kernel
set_option maxRecDepth 65536 in
theorem w_runnable : about1.curStatus? = some .runnable := by decide +kernel
set_option maxRecDepth 65536 in
theorem w_alone : about1.alone = true := by decide +kernel
set_option maxRecDepth 65536 in
theorem w_named : about1.methodNamed? x = some theMethod := by decide +kernel
set_option maxRecDepth 65536 in
theorem w_hears : about1.hears theMethod below0 = true := by decide +kernel
set_option maxRecDepth 65536 in
theorem w_ripe : about1.ripe theMethod args0 below0 = true := by decide +kernel
theorem w_running : about1.status = .running := rfl
set_option maxRecDepth 65536 in
theorem w_room : about1.hasRoom e0.platform room_1 = true :=
  launch0.hasRoom_least _ room_1 (by decide +kernel) (by decide +kernel) (by decide +kernel) (by decide +kernel) (by decide +kernel) (by decide +kernel)
theorem allAtoms_all (ts : List Jvm.Cond) (a : Array Jvm.Value) (st : Jvm.State) : (allAtoms ts).before a st = ts.all (fun c => c.before a st) := by
  induction ts with
  | nil => rfl
  | cons c t ih =>
    show (Jvm.Cond.and c (allAtoms t)).before a st = _
    rw [Jvm.Cond.before_and, ih, List.all_cons]
def words1 : List Jvm.Cond := Jvm.Cond.code x code maxLocals ret :: tables_1
/-- a 'code' word, met by the world's own term for the bytes: nothing is compared byte by byte -/
theorem code_word {y : MethodName} {bytes : ByteArray} {mx : Nat} {rt : Option FieldType} {a : Array Value} {s : State} {m : MethodId} {meth : Method} {c : Code} (h1 : s.methodNamed? y = some m) (h2 : s.vm.method? m = some meth) (h3 : meth.code = some c) (h4 : c.code = bytes)
    (h5 : (c.maxLocals == mx && c.exceptionTable.isEmpty && decide (c.maxStack ≤ mostOperands) && decide (meth.sig.returnType = rt) && !meth.locks && decide (parseMethodDescriptor y.desc = some meth.sig)) = true) : (Jvm.Cond.code y bytes mx rt).before a s = true := by
  simp only [Bool.and_eq_true, beq_iff_eq, Bool.not_eq_true', decide_eq_true_eq] at h5
  obtain ⟨⟨⟨⟨⟨g1, g2⟩, g3⟩, g4⟩, g5⟩, g6⟩ := h5
  simp [Cond.before, Cond.holds, Cond.value, h1, h2, h3, h4, g1, g2, g3, g4, g5, g6]
def isCode : Jvm.Cond → Bool
  | .code _ _ _ _ => true
  | _ => false
theorem all_split {L : List Jvm.Cond} {P : Jvm.Cond → Bool} (h1 : L.all (fun c => isCode c || P c) = true) (h2 : ∀ c ∈ L.filter isCode, P c = true) : L.all P = true := by
  refine List.all_eq_true.mpr fun c hc => ?_
  have h := List.all_eq_true.mp h1 c hc
  rcases Bool.eq_false_or_eq_true (isCode c) with hi | hi
  · exact h2 c (List.mem_filter.mpr ⟨hc, hi⟩)
  · simpa [hi] using h
set_option maxRecDepth 65536 in
theorem w_c0 : (Jvm.Cond.code x code maxLocals ret).before args0 about1 = true := code_word (m := ⟨1, 1⟩) (meth := k1m1) (c := k1c1) (by decide +kernel) rfl rfl rfl (by decide +kernel)
set_option maxRecDepth 65536 in
theorem w_c1 : (Jvm.Cond.code ({ cls := "com/example/same_bytes/samebytes/XmlRules", name := "isNameStartChar", desc := "(I)Z" } : Jvm.MethodName) prog_179_method_13_code (1 : Nat) (Option.some Jvm.ClassFile.FieldType.boolean)).before args0 about1 = true := code_word (m := ⟨2, 1⟩) (meth := k2m1) (c := k2c1) (by decide +kernel) rfl rfl rfl (by decide +kernel)
set_option maxRecDepth 65536 in
theorem w_c2 : (Jvm.Cond.code ({ cls := "com/example/same_bytes/samebytes/XmlRulesIsNameStartCharPinLaw", name := "ref", desc := "(I)Z" } : Jvm.MethodName) method_3_code (1 : Nat) (Option.some Jvm.ClassFile.FieldType.boolean)).before args0 about1 = true := code_word (m := ⟨1, 2⟩) (meth := k1m2) (c := k1c2) (by decide +kernel) rfl rfl rfl (by decide +kernel)
def codes1 : List Jvm.Cond := [Jvm.Cond.code x code maxLocals ret, Jvm.Cond.code ({ cls := "com/example/same_bytes/samebytes/XmlRules", name := "isNameStartChar", desc := "(I)Z" } : Jvm.MethodName) prog_179_method_13_code (1 : Nat) (Option.some Jvm.ClassFile.FieldType.boolean), Jvm.Cond.code ({ cls := "com/example/same_bytes/samebytes/XmlRulesIsNameStartCharPinLaw", name := "ref", desc := "(I)Z" } : Jvm.MethodName) method_3_code (1 : Nat) (Option.some Jvm.ClassFile.FieldType.boolean)]
set_option maxRecDepth 65536 in
theorem codes_eq : words1.filter isCode = codes1 := rfl
theorem w_codes : ∀ c ∈ words1.filter isCode, c.before args0 about1 = true := by
  rw [codes_eq]
  intro c hc
  simp only [codes1, List.mem_cons, List.not_mem_nil, or_false] at hc
  rcases hc with rfl | rfl | rfl
  · exact w_c0
  · exact w_c1
  · exact w_c2
set_option maxRecDepth 65536 in
theorem w_t1 : (words1.take 24).all (fun c => isCode c || c.before args0 about1) = true := by decide +kernel
set_option maxRecDepth 65536 in
theorem w_t2 : (words1.drop 24).all (fun c => isCode c || c.before args0 about1) = true := by decide +kernel
theorem w_tables : (allAtoms (Jvm.Cond.code x code maxLocals ret :: tables_1)).before args0 about1 = true := by
  rw [allAtoms_all]
  show words1.all (fun c => c.before args0 about1) = true
  refine all_split ?_ w_codes
  rw [← List.take_append_drop 24 words1, List.all_append, w_t1, w_t2]
  rfl
set_option maxRecDepth 65536 in
theorem w_case : (Jvm.Cond.and given_1 narrow_1).before args0 about1 = true := by decide +kernel
theorem w_applies : (headSpec (Jvm.Cond.code x code maxLocals ret :: tables_1) room_1).applies x e0.platform about1 = true :=
  (Spec.applies_iff w_frames).mpr ⟨w_running, w_runnable, w_alone, w_named, w_hears, w_ripe, w_room, w_tables⟩
theorem atStart : AtStart classFile x code maxLocals ret World_1 tables_1 room_1 Calls_1 rest_1 Pre_1 launch0 p0 e0 about1 theMethod args0 below0 :=
  ⟨lists_1, trivial, launch0.admits_env _ _ _, launch0.least_env, fairChoices_fair.cas, fairChoices_fair.clock, w_frames, w_args, w_heap, w_applies, trivial, trivial, w_case⟩
end start1
theorem witness_1 : WitnessClaimed_1 := ⟨start1.p0, start1.e0, start1.about1, start1.theMethod, start1.args0, start1.below0, start1.atStart⟩
end Jvm.Pilot.@@N@@
