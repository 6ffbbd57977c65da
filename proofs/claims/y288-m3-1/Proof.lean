import JvmDerived
import JvmDerived.Pilot.@@N@@Statement
import JvmDerived.Pilot.@@N@@Code
set_option linter.unusedVariables false
set_option linter.unusedSimpArgs false
@@BLOCK:NumsL.lean.txt@@
namespace Jvm.RoadKit
open Sem ClassFile Op Lib Jvm.Stand Jvm.Free Jvm.LawKit
section New
variable {p : Program} {l : Launch} {e : Env} {R : Room} {s : State} {m : MethodId} {args : Array Value} {below : List Frame} {meth : Method} {c : Code} {T : State} {locs : List Loc} {cells slots : Nat}
theorem retI (X : Stand p l e R s m args below meth c T locs cells slots) (hx : p.tables.exec = Jvm.exec) {pc : Nat} {Ls : Array Slot} {z : Int32} {rest : List Value} (hret : meth.sig.returnType = some .int) (hd : decode c.code pc = .ok (.ireturn, 1)) {fs : List Frame}
    (hl : ∀ (f : JFrame) (acts : List Action), f.method = m → f.locked = none → f.entered = [] → (doReturn e (T.setTop f) acts (some (.int z))).1 = T.setFrames fs) : Steps p.tables e below (T.setTop (mkF m pc Ls (.int z :: rest))) (T.setFrames fs) := by
  have hm' : T.vm.method? m = some meth := X.method'
  have hn : narrow .int (.int z) = .int z := rfl
  show Steps p.tables e below (T.setTop { method := m, pc := pc, locals := Ls, stack := _ :: rest, locked := none }) _
  jvm_step X.here [X.here.top, hx, hd, hm', hret, hn]
  first | (intro acts; rw [hl _ acts rfl rfl rfl]) | rw [hl _ _ rfl rfl rfl]
  exact Steps.refl _
theorem own_retJ (X : Stand p l e R s m args below meth c T locs cells slots) (hx : p.tables.exec = Jvm.exec) {pc : Nat} {Ls : Array Slot} {z : Int64} {rest : List Value} (hret : meth.sig.returnType = some .long) (hd : decode c.code pc = .ok (.lreturn, 1)) {fs : List Frame}
    (hl : ∀ (f : JFrame) (acts : List Action), f.method = m → f.locked = none → f.entered = [] → (doReturn e (T.setTop f) acts (some (.long z))).1 = T.setFrames fs) : Steps p.tables e below (T.setTop (mkF m pc Ls (.long z :: rest))) (T.setFrames fs) := by
  have hm' : T.vm.method? m = some meth := X.method'
  show Steps p.tables e below (T.setTop { method := m, pc := pc, locals := Ls, stack := _ :: rest, locked := none }) _
  jvm_step X.here [X.here.top, hx, hd, hm', hret, narrow]
  first | (intro acts; rw [hl _ acts rfl rfl rfl]) | rw [hl _ _ rfl rfl rfl]
  exact Steps.refl _
theorem own_retA (X : Stand p l e R s m args below meth c T locs cells slots) (hx : p.tables.exec = Jvm.exec) {pc : Nat} {Ls : Array Slot} {b : Addr} {t : FieldType} {rest : List Value} (hret : meth.sig.returnType = some t) (ht : t.isReference = true) (hb0 : b = b) (hd : decode c.code pc = .ok (.areturn, 1)) {fs : List Frame}
    (hl : ∀ (f : JFrame) (acts : List Action), f.method = m → f.locked = none → f.entered = [] → (doReturn e (T.setTop f) acts (some (.ref b))).1 = T.setFrames fs) : Steps p.tables e below (T.setTop (mkF m pc Ls (.ref b :: rest))) (T.setFrames fs) := by
  have hm' : T.vm.method? m = some meth := X.method'
  show Steps p.tables e below (T.setTop { method := m, pc := pc, locals := Ls, stack := _ :: rest, locked := none }) _
  jvm_step X.here [X.here.top, hx, hd, hm', hret, Value.isRef, ht]
  first | (intro acts; rw [hl _ acts rfl rfl rfl]) | rw [hl _ _ rfl rfl rfl]
  exact Steps.refl _
end New
/-- a walk's goal at the state A -/
def own_G (tb : Tables) (e : Env) (below : List Frame) (P : Outcome → State → Prop) (A : State) : Prop := ∃ s₂ o, Steps tb e below A s₂ ∧ s₂.status = .running ∧ Ended s₂ below o ∧ P o s₂
section Go
variable {tb : Tables} {e : Env} {below : List Frame} {P : Outcome → State → Prop} {A B : State}
theorem own_step (h : ∀ t, Steps tb e below B t → Steps tb e below A t) (k : own_G tb e below P B) : own_G tb e below P A := by
  obtain ⟨s₂, o, h1, h2⟩ := k
  exact ⟨s₂, o, h _ h1, h2⟩
theorem own_start (h : ∀ t, Steps tb e below B t → Steps tb e below A t) (k : own_G tb e below P B) : ∃ s₂ o, Steps tb e below A s₂ ∧ s₂.status = .running ∧ Ended s₂ below o ∧ P o s₂ := own_step h k
theorem own_done {s₂ : State} {o : Outcome} (h1 : Steps tb e below A s₂) (h2 : s₂.status = .running) (h3 : Ended s₂ below o) (h4 : P o s₂) : own_G tb e below P A := ⟨s₂, o, h1, h2, h3, h4⟩
theorem own_nm {α : Type} (x : α) (F : α → State) (h : ∀ v, v = x → own_G tb e below P (F v)) : own_G tb e below P (F x) := h x rfl
theorem own_gen (h : ∀ P', P' = P → own_G tb e below P' A) : own_G tb e below P A := h P rfl
theorem own_imp (h : own_G tb e below P B → own_G tb e below P A) (k : own_G tb e below P B) : own_G tb e below P A := h k
end Go
/-- an array of ints (bytes, chars, shorts) by its members; a long[] by its members -/
def own_Ari (Z : State) (h : Heap) (a : Addr) (ty : FieldType) (vs : List Int32) : Prop := ∃ c : Cell, Arr Z h a c ty ∧ c.slots.toList = vs.map Value.int ∧ vs.length < 2 ^ 31
def own_Arj (Z : State) (h : Heap) (a : Addr) (vs : List Int64) : Prop := ∃ c : Cell, Arr Z h a c .long ∧ c.slots.toList = vs.map Value.long ∧ vs.length < 2 ^ 31
def own_Inb (j : Int32) (n : Nat) : Prop := ¬ j < 0 ∧ j.toNatClampNeg < n
theorem own_inb {j : Int32} {n : Nat} (h1 : ¬ j < 0) (h2 : j.toNatClampNeg < n) : own_Inb j n := ⟨h1, h2⟩
section ArrFacts
variable {Z : State} {h h' : Heap} {a b : Addr} {ty : FieldType} {vs : List Int32} {us : List Int64} {sl : Nat} {v : Value} {L : List Addr}
theorem own_Ari.lt (F : own_Ari Z h a ty vs) : a < h.size := by obtain ⟨c, A, -⟩ := F; exact A.lt
theorem own_Ari.ext (F : own_Ari Z h a ty vs) (E : Ext h h') : own_Ari Z h' a ty vs := by obtain ⟨c, A, r⟩ := F; exact ⟨c, A.ext E, r⟩
theorem own_Ari.other (F : own_Ari Z h b ty vs) (W : Wr h h' a sl v) (q : b ≠ a) : own_Ari Z h' b ty vs := by obtain ⟨c, A, r⟩ := F; exact ⟨c, A.other W q, r⟩
theorem own_Ari.keep (F : own_Ari Z h a ty vs) (K : Keep h h' L) (q : a ∉ L) : own_Ari Z h' a ty vs := by obtain ⟨c, A, r⟩ := F; exact ⟨c, ⟨K.2.1 a c A.1 q, A.2⟩, r⟩
theorem own_Arj.lt (F : own_Arj Z h a us) : a < h.size := by obtain ⟨c, A, -⟩ := F; exact A.lt
theorem own_Arj.ext (F : own_Arj Z h a us) (E : Ext h h') : own_Arj Z h' a us := by obtain ⟨c, A, r⟩ := F; exact ⟨c, A.ext E, r⟩
theorem own_Arj.other (F : own_Arj Z h b us) (W : Wr h h' a sl v) (q : b ≠ a) : own_Arj Z h' b us := by obtain ⟨c, A, r⟩ := F; exact ⟨c, A.other W q, r⟩
theorem own_Arj.keep (F : own_Arj Z h a us) (K : Keep h h' L) (q : a ∉ L) : own_Arj Z h' a us := by obtain ⟨c, A, r⟩ := F; exact ⟨c, ⟨K.2.1 a c A.1 q, A.2⟩, r⟩
theorem own_Ari_new {cA : ClassId} {n : Int32} (A : Arr Z h b (newA cA ty n) ty) (hn : ¬ n < 0) (hd : defaultValue ty = .int 0) : own_Ari Z h b ty (List.replicate n.toNatClampNeg 0) :=
  ⟨_, A, by simp [newA, hd], by rw [List.length_replicate]; exact (back32 hn).2⟩
theorem own_Arj_new {cA : ClassId} {n : Int32} (A : Arr Z h b (newA cA .long n) .long) (hn : ¬ n < 0) : own_Arj Z h b (List.replicate n.toNatClampNeg 0) :=
  ⟨_, A, by simp [newA, defaultValue], by rw [List.length_replicate]; exact (back32 hn).2⟩
theorem own_szI {c : Cell} (S : c.slots.toList = vs.map Value.int) : c.slots.size = vs.length := by have := congrArg List.length S; simpa using this
theorem own_szJ {c : Cell} (S : c.slots.toList = us.map Value.long) : c.slots.size = us.length := by have := congrArg List.length S; simpa using this
theorem own_atI {c : Cell} {k : Nat} (S : c.slots.toList = vs.map Value.int) (hk : k < vs.length) : c.slots[k]? = some (.int (vs.getD k 0)) := by
  rw [← Array.getElem?_toList, S, List.getElem?_map, List.getD_eq_getElem?_getD, List.getElem?_eq_getElem hk]; rfl
theorem own_atJ {c : Cell} {k : Nat} (S : c.slots.toList = us.map Value.long) (hk : k < us.length) : c.slots[k]? = some (.long (us.getD k 0)) := by
  rw [← Array.getElem?_toList, S, List.getElem?_map, List.getD_eq_getElem?_getD, List.getElem?_eq_getElem hk]; rfl
theorem own_setI {c : Cell} {k : Nat} {x : Int32} (A : Arr Z h a c ty) (S : c.slots.toList = vs.map Value.int) (hl : vs.length < 2 ^ 31) (W : Wr h h' a k (.int x)) : own_Ari Z h' a ty (vs.set k x) :=
  ⟨_, A.same W, by simp [Cell.setSlot, S, List.map_set], by rw [List.length_set]; exact hl⟩
theorem own_setJ {c : Cell} {k : Nat} {x : Int64} (A : Arr Z h a c .long) (S : c.slots.toList = us.map Value.long) (hl : us.length < 2 ^ 31) (W : Wr h h' a k (.long x)) : own_Arj Z h' a (us.set k x) :=
  ⟨_, A.same W, by simp [Cell.setSlot, S, List.map_set], by rw [List.length_set]; exact hl⟩
end ArrFacts
section ArrSteps
variable {p : Program} {l : Launch} {e : Env} {R : Room} {s : State} {m : MethodId} {args : Array Value} {below : List Frame} {meth : Method} {c : Code} {T : State} {locs : List Loc} {cells slots : Nat} {Z : State} {h : Heap} {a : Addr} {vs : List Int32} {us : List Int64} {j : Int32} {g : JFrame} {rest : List Value}
theorem own_iaload (X : Stand p l e R s m args below meth c T locs cells slots) (hx : p.tables.exec = Jvm.exec) (hZ : Z.Warmed39 s.vm) (eT : T.heap = h) (F : own_Ari Z h a .int vs) (q : own_Inb j vs.length) (hg : g.method = m) (hs : g.stack = .int j :: .ref a :: rest) (hd : decode c.code g.pc = .ok (.iaload, 1)) :
    ∀ target, Steps p.tables e below (T.setTop { g with pc := g.pc + 1, stack := .int (vs.getD j.toNatClampNeg 0) :: rest }) target → Steps p.tables e below (T.setTop g) target := by
  obtain ⟨cl, A, S, hl⟩ := F
  have z := own_szI S
  exact X.iaload hx (by rw [eT]; exact A.1) (State.isArrayOf_alike hZ.alike A.2.1) A.2.2 (fun y => y.elim q.1 fun w => by have := q.2; omega) (own_atI S q.2) hg hs hd
theorem own_baload (X : Stand p l e R s m args below meth c T locs cells slots) (hx : p.tables.exec = Jvm.exec) (hZ : Z.Warmed39 s.vm) (eT : T.heap = h) (F : own_Ari Z h a .byte vs) (q : own_Inb j vs.length) (hg : g.method = m) (hs : g.stack = .int j :: .ref a :: rest) (hd : decode c.code g.pc = .ok (.baload, 1)) :
    ∀ target, Steps p.tables e below (T.setTop { g with pc := g.pc + 1, stack := .int (vs.getD j.toNatClampNeg 0) :: rest }) target → Steps p.tables e below (T.setTop g) target := by
  obtain ⟨cl, A, S, hl⟩ := F
  have z := own_szI S
  exact X.baloadBytes hx (by rw [eT]; exact A.1) (State.isArrayOf_alike hZ.alike A.2.1) A.2.2 (fun y => y.elim q.1 fun w => by have := q.2; omega) (own_atI S q.2) hg hs hd
theorem own_laload (X : Stand p l e R s m args below meth c T locs cells slots) (hx : p.tables.exec = Jvm.exec) (hZ : Z.Warmed39 s.vm) (eT : T.heap = h) (F : own_Arj Z h a us) (q : own_Inb j us.length) (hg : g.method = m) (hs : g.stack = .int j :: .ref a :: rest) (hd : decode c.code g.pc = .ok (.laload, 1)) :
    ∀ target, Steps p.tables e below (T.setTop { g with pc := g.pc + 1, stack := .long (us.getD j.toNatClampNeg 0) :: rest }) target → Steps p.tables e below (T.setTop g) target := by
  obtain ⟨cl, A, S, hl⟩ := F
  have z := own_szJ S
  exact X.laload hx (by rw [eT]; exact A.1) (State.isArrayOf_alike hZ.alike A.2.1) A.2.2 (fun y => y.elim q.1 fun w => by have := q.2; omega) (own_atJ S q.2) hg hs hd
theorem own_lenI {ty : FieldType} (X : Stand p l e R s m args below meth c T locs cells slots) (hx : p.tables.exec = Jvm.exec) (hZ : Z.Warmed39 s.vm) (eT : T.heap = h) (F : own_Ari Z h a ty vs) (hg : g.method = m) (hs : g.stack = .ref a :: rest) (hd : decode c.code g.pc = .ok (.arraylength, 1)) :
    ∀ target, Steps p.tables e below (T.setTop { g with pc := g.pc + 1, stack := .int vs.length.toInt32 :: rest }) target → Steps p.tables e below (T.setTop g) target := by
  obtain ⟨cl, A, S, hl⟩ := F
  have z := own_szI S
  have k := X.arraylength hx (by rw [eT]; exact A.1) (State.isArrayOf_alike hZ.alike A.2.1) hg hs hd
  rw [z] at k
  exact k
theorem own_lenJ (X : Stand p l e R s m args below meth c T locs cells slots) (hx : p.tables.exec = Jvm.exec) (hZ : Z.Warmed39 s.vm) (eT : T.heap = h) (F : own_Arj Z h a us) (hg : g.method = m) (hs : g.stack = .ref a :: rest) (hd : decode c.code g.pc = .ok (.arraylength, 1)) :
    ∀ target, Steps p.tables e below (T.setTop { g with pc := g.pc + 1, stack := .int us.length.toInt32 :: rest }) target → Steps p.tables e below (T.setTop g) target := by
  obtain ⟨cl, A, S, hl⟩ := F
  have z := own_szJ S
  have k := X.arraylength hx (by rw [eT]; exact A.1) (State.isArrayOf_alike hZ.alike A.2.1) hg hs hd
  rw [z] at k
  exact k
theorem own_iastore {x : Int32} (X : Stand p l e R s m args below meth c T locs cells slots) (hx : p.tables.exec = Jvm.exec) (hZ : Z.Warmed39 s.vm) (eT : T.heap = h) (F : own_Ari Z h a .int vs) (q : own_Inb j vs.length) (hg : g.method = m) (hs : g.stack = .int x :: .int j :: .ref a :: rest) (hd : decode c.code g.pc = .ok (.iastore, 1)) :
    ∃ T' h', Stand p l e R s m args below meth c T' (locs ++ [⟨a, j.toNatClampNeg⟩]) cells slots ∧ T'.heap = h' ∧ Wr h h' a j.toNatClampNeg (.int x) ∧ own_Ari Z h' a .int (vs.set j.toNatClampNeg x) ∧
      ∀ target, Steps p.tables e below (T'.setTop { g with pc := g.pc + 1, stack := rest }) target → Steps p.tables e below (T.setTop g) target := by
  obtain ⟨cl, A, S, hl⟩ := F
  have z := own_szI S
  obtain ⟨T', h', X', e', W, st⟩ := stI X hx hZ eT A (j := j) (x := x) (fun y => y.elim q.1 fun w => by have := q.2; omega) hg hs hd
  exact ⟨T', h', X', e', W, own_setI A S hl W, st⟩
theorem own_bastore {x : Int32} (X : Stand p l e R s m args below meth c T locs cells slots) (hx : p.tables.exec = Jvm.exec) (hZ : Z.Warmed39 s.vm) (eT : T.heap = h) (F : own_Ari Z h a .byte vs) (q : own_Inb j vs.length) (hg : g.method = m) (hs : g.stack = .int x :: .int j :: .ref a :: rest) (hd : decode c.code g.pc = .ok (.bastore, 1)) :
    ∃ T' h', Stand p l e R s m args below meth c T' (locs ++ [⟨a, j.toNatClampNeg⟩]) cells slots ∧ T'.heap = h' ∧ Wr h h' a j.toNatClampNeg (.int (nar .byte x)) ∧ own_Ari Z h' a .byte (vs.set j.toNatClampNeg (nar .byte x)) ∧
      ∀ target, Steps p.tables e below (T'.setTop { g with pc := g.pc + 1, stack := rest }) target → Steps p.tables e below (T.setTop g) target := by
  obtain ⟨cl, A, S, hl⟩ := F
  have z := own_szI S
  obtain ⟨T', h', X', e', W, st⟩ := stB X hx hZ eT A (j := j) (x := x) (fun y => y.elim q.1 fun w => by have := q.2; omega) hg hs hd
  exact ⟨T', h', X', e', W, own_setI A S hl W, st⟩
theorem own_lastore {x : Int64} (X : Stand p l e R s m args below meth c T locs cells slots) (hx : p.tables.exec = Jvm.exec) (hZ : Z.Warmed39 s.vm) (eT : T.heap = h) (F : own_Arj Z h a us) (q : own_Inb j us.length) (hg : g.method = m) (hs : g.stack = .long x :: .int j :: .ref a :: rest) (hd : decode c.code g.pc = .ok (.lastore, 1)) :
    ∃ T' h', Stand p l e R s m args below meth c T' (locs ++ [⟨a, j.toNatClampNeg⟩]) cells slots ∧ T'.heap = h' ∧ Wr h h' a j.toNatClampNeg (.long x) ∧ own_Arj Z h' a (us.set j.toNatClampNeg x) ∧
      ∀ target, Steps p.tables e below (T'.setTop { g with pc := g.pc + 1, stack := rest }) target → Steps p.tables e below (T.setTop g) target := by
  obtain ⟨cl, A, S, hl⟩ := F
  have z := own_szJ S
  obtain ⟨T', h', X', e', W, st⟩ := stJ X hx hZ eT A (j := j) (x := x) (fun y => y.elim q.1 fun w => by have := q.2; omega) hg hs hd
  exact ⟨T', h', X', e', W, own_setJ A S hl W, st⟩
theorem own_cloneI {a0 : Array Value} {own : String} {index : Nat} (X : Stand p l e R s m args below meth c T locs cells slots) (hx : p.tables.exec = Jvm.exec) (hZ : Z.Warmed39 s.vm) (hown : s.vm.findClass own = some m.cls)
    (w1 : (Cond.methodLink own index ⟨"[I", "clone", "()Ljava/lang/Object;"⟩).before a0 Z = true) (w2 : (Cond.sameMethod "[I" "java/lang/Object" "clone" "()Ljava/lang/Object;").before a0 Z = true) (w3 : (Cond.native ⟨"java/lang/Object", "clone", "()Ljava/lang/Object;"⟩).before a0 Z = true)
    (w4 : (Cond.instanceMethod ⟨"java/lang/Object", "clone", "()Ljava/lang/Object;"⟩).before a0 Z = true) (w5 : (Cond.selects "[I" ⟨"[I", "clone", "()Ljava/lang/Object;"⟩ ⟨"java/lang/Object", "clone", "()Ljava/lang/Object;"⟩).before a0 Z = true) (w6 : (Cond.castable "[I" "java/lang/Cloneable").before a0 Z = true)
    (eT : T.heap = h) (F : own_Ari Z h a .int vs) (E : Exa Z h a "[I") (hg : g.method = m) (hsize : g.locals.size = c.maxLocals) (hs : g.stack = .ref a :: rest) (hd : decode c.code g.pc = .ok (.invokevirtual index, 3))
    (hf : 1 ≤ R.frames) {W cap : Nat} (hW : 2 * g.monitorRoom + (rest.map fun v => v.category).sum ≤ W) (hl : W + 14 ≤ R.locals) (hcap : vs.length ≤ cap) (hc : cells + 1 ≤ R.cells) (hsl : slots + cap ≤ R.slots) :
    ∃ T' h', Stand p l e R s m args below meth c T' locs (cells + 1) (slots + cap) ∧ T'.heap = h' ∧ Ext h h' ∧ own_Ari Z h' h.size .int vs ∧ Exa Z h' h.size "[I" ∧
      ∀ target, Steps p.tables e below (T'.setTop { g with pc := g.pc + 3, stack := .ref h.size :: rest }) target → Steps p.tables e below (T.setTop g) target := by
  obtain ⟨cl, A, S, hl'⟩ := F
  have z := own_szI S
  have FC : FitC Z cl := fitC_of A fun i hi v hv => by
    rw [own_atI S (by omega)] at hv
    cases hv; rfl
  obtain ⟨T', h', X', e', ex, A', E', st⟩ := cloneA X hx hZ hown w1 w2 w3 w4 w5 w6 eT A E FC hg hsize hs hd hf hW hl (by rw [z]; exact hcap) hc hsl
  exact ⟨T', h', X', e', ex, ⟨cloneOf cl, A', S, hl'⟩, E', st⟩
end ArrSteps

end Jvm.RoadKit
namespace Jvm.Pilot.@@N@@
open Jvm Jvm.ClassFile Sem Op Lib Jvm.Free Jvm.Stand Jvm.LawKit Jvm.RoadKit Bundle Jvm.Pilot.@@N@@.Jvm.D


theorem own_remI (x y : Int32) (hx : 0 ≤ x.toInt) (hy : 0 < y.toInt) : (x - (x / y) * y).toInt = x.toInt % y.toInt := by
  have d := Jvm.Kit.i32_div (x := x) (y := y) (by omega)
  rw [Int.tdiv_eq_ediv_of_nonneg hx] at d
  have r := x.toInt_lt
  have k1 : 0 ≤ x.toInt / y.toInt := Int.ediv_nonneg hx (by omega)
  have k2 : x.toInt / y.toInt * y.toInt ≤ x.toInt := Int.ediv_mul_le _ (by omega)
  have k3 : 0 ≤ x.toInt / y.toInt * y.toInt := Int.mul_nonneg k1 (by omega)
  have m := Jvm.Kit.i32_mul (p := x / y) (q := y) (by rw [d]; omega) (by rw [d]; omega)
  have s := Jvm.Kit.i32_sub (p := x) (q := x / y * y) (by rw [m, d]; omega) (by rw [m, d]; omega)
  rw [s, m, d]
  have := Int.emod_add_mul_ediv x.toInt y.toInt
  rw [Int.mul_comm] at this
  omega
theorem own_n5 (r n : Int32) (hn : n = (r &&& (2147483647 : Int32)) - ((r &&& (2147483647 : Int32)) / (5 : Int32)) * (5 : Int32)) : n = 0 ∨ n = 1 ∨ n = 2 ∨ n = 3 ∨ n = 4 := by
  have m : (r &&& (2147483647 : Int32)).toInt = r.toInt % 2 ^ 31 := Jvm.Kit.i32_mask r 2147483647 (k := 31) (by decide) (by decide)
  have e5 : (5 : Int32).toInt = 5 := rfl
  have q := own_remI (r &&& (2147483647 : Int32)) 5 (by omega) (by rw [e5]; omega)
  rw [← hn, e5] at q
  have e : ∀ k : Int32, n.toInt = k.toInt → n = k := fun k q => Int32.toInt_inj.mp q
  have z : n.toInt = 0 ∨ n.toInt = 1 ∨ n.toInt = 2 ∨ n.toInt = 3 ∨ n.toInt = 4 := by omega
  rcases z with z | z | z | z | z
  · exact Or.inl (e 0 z)
  · exact Or.inr (Or.inl (e 1 z))
  · exact Or.inr (Or.inr (Or.inl (e 2 z)))
  · exact Or.inr (Or.inr (Or.inr (Or.inl (e 3 z))))
  · exact Or.inr (Or.inr (Or.inr (Or.inr (e 4 z))))

theorem d1_0 : decode prog_70_method_1_code 0 = .ok (.aload_n 0, 1) := by decide +kernel
theorem d1_1 : decode prog_70_method_1_code 1 = .ok (.invokespecial 1, 3) := by decide +kernel
theorem d1_4 : decode prog_70_method_1_code 4 = .ok (.aload_n 0, 1) := by decide +kernel
theorem d1_5 : decode prog_70_method_1_code 5 = .ok (.bipush 8, 2) := by decide +kernel
theorem d1_7 : decode prog_70_method_1_code 7 = .ok (.newarray .int, 2) := by decide +kernel
theorem d1_9 : decode prog_70_method_1_code 9 = .ok (.putfield 7, 3) := by decide +kernel
theorem d1_12 : decode prog_70_method_1_code 12 = .ok (.return_, 1) := by decide +kernel
theorem pn_1 : plainName "com/example/same_bytes/samebytes/NodeIds" = true := by first | (simp [plainName, overriddenIn]; done) | decide +kernel
theorem ef_1 (m : MethodId) (a1 : Addr) : entryFrame m #[(.ref a1)] 1 = mkF m 0 #[.val (.ref a1)] [] := by first | (simp [entryFrame, mkF, argsToLocals, Value.category]; done) | rfl
def Q1 (Z : State) (a1 : Addr) (u_ids_a1 : Value) (u_size_a1 : Value) (h0 : Heap) (n0 : Nat) (v : Option Value) (h : Heap) (L : List Loc) : Prop := ∃ (x1 : Addr), v = none ∧ Fr n0 L ∧ Keep h0 h [a1] ∧ Fld Z h a1 "com/example/same_bytes/samebytes/NodeIds" "ids" "[I" (.ref x1) ∧ Fld Z h a1 "com/example/same_bytes/samebytes/NodeIds" "size" "I" u_size_a1 ∧ own_Ari Z h x1 .int [(0 : Int32), (0 : Int32), (0 : Int32), (0 : Int32), (0 : Int32), (0 : Int32), (0 : Int32), (0 : Int32)] ∧ h0.size ≤ x1
set_option maxRecDepth 65536 in
set_option maxHeartbeats 40000000 in
theorem rm1 (l : Launch) (Z : State) (a0 : Array Value) (hw : ∀ d ∈ tables_1, d.before a0 Z = true) (ws : List Jvm.Cond) (a1 : Addr) (u_ids_a1 : Value) (u_size_a1 : Value) (h0 : Heap) (n0 : Nat) (Z0 : n0 ≤ h0.size) (fp0 : Exa Z h0 a1 "com/example/same_bytes/samebytes/NodeIds") (fp1 : Fld Z h0 a1 "com/example/same_bytes/samebytes/NodeIds" "ids" "[I" u_ids_a1) (fp2 : Fld Z h0 a1 "com/example/same_bytes/samebytes/NodeIds" "size" "I" u_size_a1) (g_a1 : n0 ≤ a1) :
    MetFree l (⟨"com/example/same_bytes/samebytes/NodeIds", "<init>", "()V"⟩ : MethodName) (head1 (Jvm.Cond.code (⟨"com/example/same_bytes/samebytes/NodeIds", "<init>", "()V"⟩ : MethodName) prog_70_method_1_code 1 none :: ws) ({ frames := 1, cells := 1, slots := 8, locals := 12 } : Room)) (fun a U => a = #[(.ref a1)] ∧ Z.Warmed39 U.vm ∧ U.heap = h0) (fun _ _ _ _ _ => True) (fun _ U o U' => ∃ v L, o = .returned v ∧ Q1 Z a1 u_ids_a1 u_size_a1 h0 n0 v U'.heap L ∧ FrameEnd U o U' L ({ frames := 1, cells := 1, slots := 8, locals := 12 } : Room).cells ({ frames := 1, cells := 1, slots := 8, locals := 12 } : Room).slots) := by
  refine MetFree.of_bodySF (plainFor_of_name pn_1) hisR ?_
  intro p e s m args below meth c s₁ Bd hml0 hP hK
  obtain ⟨rfl, hZ, hh⟩ := hP
  have hx := Bd.exec
  have hby := Bd.bytes
  have hml : c.maxLocals = 1 := hml0
  have hown : s.vm.findClass "com/example/same_bytes/samebytes/NodeIds" = some m.cls := findClass_of_methodNamed Bd.named
  have hnm := (name_of_methodNamed Bd.named Bd.method).1
  have X0 : Stand p l e ({ frames := 1, cells := 1, slots := 8, locals := 12 } : Room) s m #[(.ref a1)] below meth c s₁ [] 0 0 := Stand.of_body Bd
  have e0 : s₁.heap = h0 := by rw [← hh, Bd.state]; rfl
  have N0 := Fr.nil n0
  refine own_start (fun t k => castTop (ef_1 m a1) k) ?_
  show own_G p.tables e below _ (s₁.setTop (mkF m 0 #[.val (.ref a1)] []))
  refine own_step (fun t k => XS.aloadN X0.here hx rfl (hb hby d1_0) rfl rfl k) ?_
  show own_G p.tables e below _ (s₁.setTop (mkF m 1 #[.val (.ref a1)] [(.ref a1)]))
  obtain ⟨T1, X1, e1, st1⟩ := initO X0 hx hZ hown (hw _ (List.mem_of_getElem? (i := 8) rfl)) (hw _ (List.mem_of_getElem? (i := 9) rfl)) (hw _ (List.mem_of_getElem? (i := 10) rfl)) e0 (g := (mkF m 1 #[.val (.ref a1)] [(.ref a1)])) rfl (by rw [hml]; rfl) rfl (hb hby d1_1) (by decide) (W := 0) (by show 2 * 0 + _ ≤ _; exact Nat.le_of_eq rfl) (by decide)
  refine own_step st1 ?_
  show own_G p.tables e below _ (T1.setTop (mkF m 4 #[.val (.ref a1)] []))
  refine own_step (fun t k => XS.aloadN X1.here hx rfl (hb hby d1_4) rfl rfl k) ?_
  show own_G p.tables e below _ (T1.setTop (mkF m 5 #[.val (.ref a1)] [(.ref a1)]))
  refine own_step (fun t k => XS.bipush X1.here hx rfl (hb hby d1_5) k) ?_
  show own_G p.tables e below _ (T1.setTop (mkF m 7 #[.val (.ref a1)] [(.int (8 : Int32)), (.ref a1)]))
  obtain ⟨T2, h2, k2, X2, e2, E2, A2, st2⟩ := newP X1 hx hZ (hw _ (List.mem_of_getElem? (i := 1) rfl)) e1 (g := (mkF m 7 #[.val (.ref a1)] [(.int (8 : Int32)), (.ref a1)])) rfl (hb hby d1_7) rfl (by decide) (cap := 8) (by decide) (by decide) (by decide) (by decide)
  obtain ⟨b2, g2⟩ : ∃ z, z = h0.size := ⟨_, rfl⟩
  have ne3 : a1 ≠ b2 := Nat.ne_of_lt (Nat.lt_of_lt_of_le fp0.lt (Nat.le_of_eq g2.symm))
  have sz2 : h0.size ≤ b2 := Nat.le_trans (Keep.refl h0 [a1]).1 (Nat.le_of_eq g2.symm)
  have ge2 : n0 ≤ b2 := Nat.le_trans Z0 sz2
  have c4 : Exa Z h2 a1 "com/example/same_bytes/samebytes/NodeIds" := fp0.ext E2
  have c5 : Fld Z h2 a1 "com/example/same_bytes/samebytes/NodeIds" "ids" "[I" u_ids_a1 := fp1.ext E2
  have c6 : Fld Z h2 a1 "com/example/same_bytes/samebytes/NodeIds" "size" "I" u_size_a1 := fp2.ext E2
  have K2 : Keep h0 h2 [a1] := (Keep.refl h0 [a1]).ext E2
  rw [← g2] at A2 st2
  have c7 : own_Ari Z h2 b2 .int [(0 : Int32), (0 : Int32), (0 : Int32), (0 : Int32), (0 : Int32), (0 : Int32), (0 : Int32), (0 : Int32)] := own_Ari_new (ty := .int) A2 (by decide) rfl
  refine own_step st2 ?_
  show own_G p.tables e below _ (T2.setTop (mkF m 9 #[.val (.ref a1)] [(.ref b2), (.ref a1)]))
  obtain ⟨T8, h8, X8, e8, W8, st8⟩ := putF X2 hx hZ hown (host := "") (Or.inl (hw _ (List.mem_of_getElem? (i := 11) rfl))) Via.refl e2 c5 c4 (Or.inl (hw _ (List.mem_of_getElem? (i := 12) rfl))) (hw _ (List.mem_of_getElem? (i := 3) rfl)) (ty := (.array .int)) (by decide) rfl rfl (g := (mkF m 9 #[.val (.ref a1)] [(.ref b2), (.ref a1)])) rfl rfl (hb hby d1_9)
  have N8 := Fr.snoc X8 N0 g_a1
  have c9 : Fld Z h8 a1 "com/example/same_bytes/samebytes/NodeIds" "ids" "[I" (.ref b2) := c5.same W8
  have c10 : Exa Z h8 a1 "com/example/same_bytes/samebytes/NodeIds" := c4.wr W8
  have c12 : Fld Z h8 a1 "com/example/same_bytes/samebytes/NodeIds" "size" "I" u_size_a1 := c6.other W8 (Or.inr (slot_ne (Or.inl (hw _ (List.mem_of_getElem? (i := 19) rfl))) (Or.inl (hw _ (List.mem_of_getElem? (i := 12) rfl))) (by decide) (t := .int) (t' := (.array .int)) (by decide) (by decide)))
  have c13 : own_Ari Z h8 b2 .int [(0 : Int32), (0 : Int32), (0 : Int32), (0 : Int32), (0 : Int32), (0 : Int32), (0 : Int32), (0 : Int32)] := c7.other W8 (Ne.symm ne3)
  have K8 : Keep h0 h8 [a1] := K2.wr W8 (Or.inl (List.mem_of_getElem? (i := 0) rfl))
  refine own_step st8 ?_
  show own_G p.tables e below _ (T8.setTop (mkF m 12 #[.val (.ref a1)] []))
  obtain ⟨fs, hr, hrun, hended, hW, hsame⟩ := X8.leave (v := none) (fun _ => rfl)
  refine own_done (X8.returnOut hx Bd.returns (hb hby d1_12) hr) hrun hended ⟨_, _, rfl, ?_, ⟨_, rfl⟩, hW, hsame.mono (by decide) (by decide)⟩
  show Q1 Z a1 u_ids_a1 u_size_a1 h0 n0 _ T8.heap _
  rw [e8]
  exact ⟨b2, rfl, N8, K8, c9, c12, c13, sz2⟩
theorem d3_0 : decode prog_70_method_7_code 0 = .ok (.aload_n 0, 1) := by decide +kernel
theorem d3_1 : decode prog_70_method_7_code 1 = .ok (.getfield 13, 3) := by decide +kernel
theorem d3_4 : decode prog_70_method_7_code 4 = .ok (.aload_n 0, 1) := by decide +kernel
theorem d3_5 : decode prog_70_method_7_code 5 = .ok (.getfield 7, 3) := by decide +kernel
theorem d3_8 : decode prog_70_method_7_code 8 = .ok (.arraylength, 1) := by decide +kernel
theorem d3_9 : decode prog_70_method_7_code 9 = .ok (.if_icmp .ne 20, 3) := by decide +kernel
theorem d3_29 : decode prog_70_method_7_code 29 = .ok (.aload_n 0, 1) := by decide +kernel
theorem d3_30 : decode prog_70_method_7_code 30 = .ok (.getfield 7, 3) := by decide +kernel
theorem d3_33 : decode prog_70_method_7_code 33 = .ok (.aload_n 0, 1) := by decide +kernel
theorem d3_34 : decode prog_70_method_7_code 34 = .ok (.dup, 1) := by decide +kernel
theorem d3_35 : decode prog_70_method_7_code 35 = .ok (.getfield 13, 3) := by decide +kernel
theorem d3_38 : decode prog_70_method_7_code 38 = .ok (.dup_x1, 1) := by decide +kernel
theorem d3_39 : decode prog_70_method_7_code 39 = .ok (.iconst 1, 1) := by decide +kernel
theorem d3_40 : decode prog_70_method_7_code 40 = .ok (.iadd, 1) := by decide +kernel
theorem d3_41 : decode prog_70_method_7_code 41 = .ok (.putfield 13, 3) := by decide +kernel
theorem d3_44 : decode prog_70_method_7_code 44 = .ok (.iload_n 1, 1) := by decide +kernel
theorem d3_45 : decode prog_70_method_7_code 45 = .ok (.iastore, 1) := by decide +kernel
theorem d3_46 : decode prog_70_method_7_code 46 = .ok (.return_, 1) := by decide +kernel
theorem pn_3_s0 : plainName "com/example/same_bytes/samebytes/NodeIds" = true := by first | (simp [plainName, overriddenIn]; done) | decide +kernel
theorem ef_3_s0 (m : MethodId) (a1 : Addr) (p2 : Int32) : entryFrame m #[(.ref a1), (.int p2)] 2 = mkF m 0 #[.val (.ref a1), .val (.int p2)] [] := by first | (simp [entryFrame, mkF, argsToLocals, Value.category]; done) | rfl
def Q3_s0 (Z : State) (a1 : Addr) (p2 : Int32) (u_ids : Addr) (x0 : Int32) (x1 : Int32) (x2 : Int32) (x3 : Int32) (x4 : Int32) (x5 : Int32) (x6 : Int32) (x7 : Int32) (h0 : Heap) (n0 : Nat) (v : Option Value) (h : Heap) (L : List Loc) : Prop := v = none ∧ Fr n0 L ∧ Keep h0 h [a1, u_ids] ∧ Fld Z h a1 "com/example/same_bytes/samebytes/NodeIds" "size" "I" (.int (1 : Int32)) ∧ Fld Z h a1 "com/example/same_bytes/samebytes/NodeIds" "ids" "[I" (.ref u_ids) ∧ own_Ari Z h u_ids .int [p2, x1, x2, x3, x4, x5, x6, x7]
set_option maxRecDepth 65536 in
set_option maxHeartbeats 40000000 in
theorem rm3_s0 (l : Launch) (Z : State) (a0 : Array Value) (hw : ∀ d ∈ tables_1, d.before a0 Z = true) (ws : List Jvm.Cond) (a1 : Addr) (p2 : Int32) (u_ids : Addr) (x0 : Int32) (x1 : Int32) (x2 : Int32) (x3 : Int32) (x4 : Int32) (x5 : Int32) (x6 : Int32) (x7 : Int32) (h0 : Heap) (n0 : Nat) (Z0 : n0 ≤ h0.size) (fp0 : Exa Z h0 a1 "com/example/same_bytes/samebytes/NodeIds") (fp1 : Fld Z h0 a1 "com/example/same_bytes/samebytes/NodeIds" "size" "I" (.int (0 : Int32))) (fp2 : Fld Z h0 a1 "com/example/same_bytes/samebytes/NodeIds" "ids" "[I" (.ref u_ids)) (fp3 : own_Ari Z h0 u_ids .int [x0, x1, x2, x3, x4, x5, x6, x7]) (g_a1 : n0 ≤ a1) (ne_u_ids_a1 : u_ids ≠ a1) (g_u_ids : n0 ≤ u_ids) :
    MetFree l (⟨"com/example/same_bytes/samebytes/NodeIds", "add", "(I)V"⟩ : MethodName) (head1 (Jvm.Cond.code (⟨"com/example/same_bytes/samebytes/NodeIds", "add", "(I)V"⟩ : MethodName) prog_70_method_7_code 2 none :: ws) ({ frames := 0, cells := 0, slots := 0, locals := 0 } : Room)) (fun a U => a = #[(.ref a1), (.int p2)] ∧ Z.Warmed39 U.vm ∧ U.heap = h0) (fun _ _ _ _ _ => True) (fun _ U o U' => ∃ v L, o = .returned v ∧ Q3_s0 Z a1 p2 u_ids x0 x1 x2 x3 x4 x5 x6 x7 h0 n0 v U'.heap L ∧ FrameEnd U o U' L ({ frames := 0, cells := 0, slots := 0, locals := 0 } : Room).cells ({ frames := 0, cells := 0, slots := 0, locals := 0 } : Room).slots) := by
  refine MetFree.of_bodySF (plainFor_of_name pn_3_s0) hisR ?_
  intro p e s m args below meth c s₁ Bd hml0 hP hK
  obtain ⟨rfl, hZ, hh⟩ := hP
  have hx := Bd.exec
  have hby := Bd.bytes
  have hml : c.maxLocals = 2 := hml0
  have hown : s.vm.findClass "com/example/same_bytes/samebytes/NodeIds" = some m.cls := findClass_of_methodNamed Bd.named
  have hnm := (name_of_methodNamed Bd.named Bd.method).1
  have X0 : Stand p l e ({ frames := 0, cells := 0, slots := 0, locals := 0 } : Room) s m #[(.ref a1), (.int p2)] below meth c s₁ [] 0 0 := Stand.of_body Bd
  have e0 : s₁.heap = h0 := by rw [← hh, Bd.state]; rfl
  have N0 := Fr.nil n0
  refine own_start (fun t k => castTop (ef_3_s0 m a1 p2) k) ?_
  show own_G p.tables e below _ (s₁.setTop (mkF m 0 #[.val (.ref a1), .val (.int p2)] []))
  refine own_step (fun t k => XS.aloadN X0.here hx rfl (hb hby d3_0) rfl rfl k) ?_
  show own_G p.tables e below _ (s₁.setTop (mkF m 1 #[.val (.ref a1), .val (.int p2)] [(.ref a1)]))
  obtain ⟨T1, X1, e1, st1⟩ := getF X0 hx hZ hown (host := "") (Or.inl (hw _ (List.mem_of_getElem? (i := 18) rfl))) Via.refl e0 fp1 (g := (mkF m 1 #[.val (.ref a1), .val (.int p2)] [(.ref a1)])) rfl rfl (hb hby d3_1)
  refine own_step st1 ?_
  show own_G p.tables e below _ (T1.setTop (mkF m 4 #[.val (.ref a1), .val (.int p2)] [(.int (0 : Int32))]))
  refine own_step (fun t k => XS.aloadN X1.here hx rfl (hb hby d3_4) rfl rfl k) ?_
  show own_G p.tables e below _ (T1.setTop (mkF m 5 #[.val (.ref a1), .val (.int p2)] [(.ref a1), (.int (0 : Int32))]))
  obtain ⟨T2, X2, e2, st2⟩ := getF X1 hx hZ hown (host := "") (Or.inl (hw _ (List.mem_of_getElem? (i := 11) rfl))) Via.refl e1 fp2 (g := (mkF m 5 #[.val (.ref a1), .val (.int p2)] [(.ref a1), (.int (0 : Int32))])) rfl rfl (hb hby d3_5)
  refine own_step st2 ?_
  show own_G p.tables e below _ (T2.setTop (mkF m 8 #[.val (.ref a1), .val (.int p2)] [(.ref u_ids), (.int (0 : Int32))]))
  refine own_step (own_lenI X2 hx hZ e2 fp3 (g := (mkF m 8 #[.val (.ref a1), .val (.int p2)] [(.ref u_ids), (.int (0 : Int32))])) rfl rfl (hb hby d3_8)) ?_
  show own_G p.tables e below _ (T2.setTop (mkF m 9 #[.val (.ref a1), .val (.int p2)] [(.int (8 : Int32)), (.int (0 : Int32))]))
  have hk3 : ¬ ((0 : Int32) = (8 : Int32)) := (by decide)
  refine own_step (fun t k => XS.icmpYes X2.here hx rfl (pc0 := 9) (pc' := 29) rfl (hb hby d3_9) rfl ((feq hk3).2) (by decide) (by decide) k) ?_
  show own_G p.tables e below _ (T2.setTop (mkF m 29 #[.val (.ref a1), .val (.int p2)] []))
  refine own_step (fun t k => XS.aloadN X2.here hx rfl (hb hby d3_29) rfl rfl k) ?_
  show own_G p.tables e below _ (T2.setTop (mkF m 30 #[.val (.ref a1), .val (.int p2)] [(.ref a1)]))
  obtain ⟨T4, X4, e4, st4⟩ := getF X2 hx hZ hown (host := "") (Or.inl (hw _ (List.mem_of_getElem? (i := 11) rfl))) Via.refl e2 fp2 (g := (mkF m 30 #[.val (.ref a1), .val (.int p2)] [(.ref a1)])) rfl rfl (hb hby d3_30)
  refine own_step st4 ?_
  show own_G p.tables e below _ (T4.setTop (mkF m 33 #[.val (.ref a1), .val (.int p2)] [(.ref u_ids)]))
  refine own_step (fun t k => XS.aloadN X4.here hx rfl (hb hby d3_33) rfl rfl k) ?_
  show own_G p.tables e below _ (T4.setTop (mkF m 34 #[.val (.ref a1), .val (.int p2)] [(.ref a1), (.ref u_ids)]))
  refine own_step (fun t k => XS.dup X4.here hx rfl (hb hby d3_34) rfl rfl k) ?_
  show own_G p.tables e below _ (T4.setTop (mkF m 35 #[.val (.ref a1), .val (.int p2)] [(.ref a1), (.ref a1), (.ref u_ids)]))
  obtain ⟨T5, X5, e5, st5⟩ := getF X4 hx hZ hown (host := "") (Or.inl (hw _ (List.mem_of_getElem? (i := 18) rfl))) Via.refl e4 fp1 (g := (mkF m 35 #[.val (.ref a1), .val (.int p2)] [(.ref a1), (.ref a1), (.ref u_ids)])) rfl rfl (hb hby d3_35)
  refine own_step st5 ?_
  show own_G p.tables e below _ (T5.setTop (mkF m 38 #[.val (.ref a1), .val (.int p2)] [(.int (0 : Int32)), (.ref a1), (.ref u_ids)]))
  refine own_step (fun t k => XS.dupX1 X5.here hx rfl (hb hby d3_38) rfl rfl rfl k) ?_
  show own_G p.tables e below _ (T5.setTop (mkF m 39 #[.val (.ref a1), .val (.int p2)] [(.int (0 : Int32)), (.ref a1), (.int (0 : Int32)), (.ref u_ids)]))
  refine own_step (fun t k => XS.iconst X5.here hx rfl (hb hby d3_39) k) ?_
  show own_G p.tables e below _ (T5.setTop (mkF m 40 #[.val (.ref a1), .val (.int p2)] [(.int (1 : Int32)), (.int (0 : Int32)), (.ref a1), (.int (0 : Int32)), (.ref u_ids)]))
  refine own_step (fun t k => XS.iadd X5.here hx rfl (hb hby d3_40) rfl k) ?_
  show own_G p.tables e below _ (T5.setTop (mkF m 41 #[.val (.ref a1), .val (.int p2)] [(.int (1 : Int32)), (.ref a1), (.int (0 : Int32)), (.ref u_ids)]))
  obtain ⟨T6, h6, X6, e6, W6, st6⟩ := putF X5 hx hZ hown (host := "") (Or.inl (hw _ (List.mem_of_getElem? (i := 18) rfl))) Via.refl e5 fp1 fp0 (Or.inl (hw _ (List.mem_of_getElem? (i := 19) rfl))) (hw _ (List.mem_of_getElem? (i := 3) rfl)) (ty := .int) (by decide) rfl rfl (g := (mkF m 41 #[.val (.ref a1), .val (.int p2)] [(.int (1 : Int32)), (.ref a1), (.int (0 : Int32)), (.ref u_ids)])) rfl rfl (hb hby d3_41)
  have N6 := Fr.snoc X6 N0 g_a1
  have c7 : Fld Z h6 a1 "com/example/same_bytes/samebytes/NodeIds" "size" "I" (.int (1 : Int32)) := fp1.same W6
  have c8 : Exa Z h6 a1 "com/example/same_bytes/samebytes/NodeIds" := fp0.wr W6
  have c10 : Fld Z h6 a1 "com/example/same_bytes/samebytes/NodeIds" "ids" "[I" (.ref u_ids) := fp2.other W6 (Or.inr (slot_ne (Or.inl (hw _ (List.mem_of_getElem? (i := 12) rfl))) (Or.inl (hw _ (List.mem_of_getElem? (i := 19) rfl))) (by decide) (t := (.array .int)) (t' := .int) (by decide) (by decide)))
  have c11 : own_Ari Z h6 u_ids .int [x0, x1, x2, x3, x4, x5, x6, x7] := fp3.other W6 ne_u_ids_a1
  have K6 : Keep h0 h6 [a1, u_ids] := (Keep.refl h0 [a1, u_ids]).wr W6 (Or.inl (List.mem_of_getElem? (i := 0) rfl))
  refine own_step st6 ?_
  show own_G p.tables e below _ (T6.setTop (mkF m 44 #[.val (.ref a1), .val (.int p2)] [(.int (0 : Int32)), (.ref u_ids)]))
  refine own_step (fun t k => XS.iloadN X6.here hx rfl (hb hby d3_44) rfl k) ?_
  show own_G p.tables e below _ (T6.setTop (mkF m 45 #[.val (.ref a1), .val (.int p2)] [(.int p2), (.int (0 : Int32)), (.ref u_ids)]))
  obtain ⟨T12, h12, X12, e12, W12, c12, st12⟩ := own_iastore X6 hx hZ e6 c11 (own_inb (by decide) (Nat.le_of_ble_eq_true rfl)) (g := (mkF m 45 #[.val (.ref a1), .val (.int p2)] [(.int p2), (.int (0 : Int32)), (.ref u_ids)])) rfl rfl (hb hby d3_45)
  have N12 := Fr.snoc X12 N6 g_u_ids
  have c13 : own_Ari Z h12 u_ids .int [p2, x1, x2, x3, x4, x5, x6, x7] := c12
  have c14 : Exa Z h12 a1 "com/example/same_bytes/samebytes/NodeIds" := c8.wr W12
  have c15 : Fld Z h12 a1 "com/example/same_bytes/samebytes/NodeIds" "size" "I" (.int (1 : Int32)) := c7.other W12 (Or.inl (Ne.symm ne_u_ids_a1))
  have c16 : Fld Z h12 a1 "com/example/same_bytes/samebytes/NodeIds" "ids" "[I" (.ref u_ids) := c10.other W12 (Or.inl (Ne.symm ne_u_ids_a1))
  have K12 : Keep h0 h12 [a1, u_ids] := K6.wr W12 (Or.inl (List.mem_of_getElem? (i := 1) rfl))
  refine own_step st12 ?_
  show own_G p.tables e below _ (T12.setTop (mkF m 46 #[.val (.ref a1), .val (.int p2)] []))
  obtain ⟨fs, hr, hrun, hended, hW, hsame⟩ := X12.leave (v := none) (fun _ => rfl)
  refine own_done (X12.returnOut hx Bd.returns (hb hby d3_46) hr) hrun hended ⟨_, _, rfl, ?_, ⟨_, rfl⟩, hW, hsame.mono (by decide) (by decide)⟩
  show Q3_s0 Z a1 p2 u_ids x0 x1 x2 x3 x4 x5 x6 x7 h0 n0 _ T12.heap _
  rw [e12]
  exact ⟨rfl, N12, K12, c15, c16, c13⟩
theorem pn_3_s1 : plainName "com/example/same_bytes/samebytes/NodeIds" = true := by first | (simp [plainName, overriddenIn]; done) | decide +kernel
theorem ef_3_s1 (m : MethodId) (a1 : Addr) (p2 : Int32) : entryFrame m #[(.ref a1), (.int p2)] 2 = mkF m 0 #[.val (.ref a1), .val (.int p2)] [] := by first | (simp [entryFrame, mkF, argsToLocals, Value.category]; done) | rfl
def Q3_s1 (Z : State) (a1 : Addr) (p2 : Int32) (u_ids : Addr) (x0 : Int32) (x1 : Int32) (x2 : Int32) (x3 : Int32) (x4 : Int32) (x5 : Int32) (x6 : Int32) (x7 : Int32) (h0 : Heap) (n0 : Nat) (v : Option Value) (h : Heap) (L : List Loc) : Prop := v = none ∧ Fr n0 L ∧ Keep h0 h [a1, u_ids] ∧ Fld Z h a1 "com/example/same_bytes/samebytes/NodeIds" "size" "I" (.int (2 : Int32)) ∧ Fld Z h a1 "com/example/same_bytes/samebytes/NodeIds" "ids" "[I" (.ref u_ids) ∧ own_Ari Z h u_ids .int [x0, p2, x2, x3, x4, x5, x6, x7]
set_option maxRecDepth 65536 in
set_option maxHeartbeats 40000000 in
theorem rm3_s1 (l : Launch) (Z : State) (a0 : Array Value) (hw : ∀ d ∈ tables_1, d.before a0 Z = true) (ws : List Jvm.Cond) (a1 : Addr) (p2 : Int32) (u_ids : Addr) (x0 : Int32) (x1 : Int32) (x2 : Int32) (x3 : Int32) (x4 : Int32) (x5 : Int32) (x6 : Int32) (x7 : Int32) (h0 : Heap) (n0 : Nat) (Z0 : n0 ≤ h0.size) (fp0 : Exa Z h0 a1 "com/example/same_bytes/samebytes/NodeIds") (fp1 : Fld Z h0 a1 "com/example/same_bytes/samebytes/NodeIds" "size" "I" (.int (1 : Int32))) (fp2 : Fld Z h0 a1 "com/example/same_bytes/samebytes/NodeIds" "ids" "[I" (.ref u_ids)) (fp3 : own_Ari Z h0 u_ids .int [x0, x1, x2, x3, x4, x5, x6, x7]) (g_a1 : n0 ≤ a1) (ne_u_ids_a1 : u_ids ≠ a1) (g_u_ids : n0 ≤ u_ids) :
    MetFree l (⟨"com/example/same_bytes/samebytes/NodeIds", "add", "(I)V"⟩ : MethodName) (head1 (Jvm.Cond.code (⟨"com/example/same_bytes/samebytes/NodeIds", "add", "(I)V"⟩ : MethodName) prog_70_method_7_code 2 none :: ws) ({ frames := 0, cells := 0, slots := 0, locals := 0 } : Room)) (fun a U => a = #[(.ref a1), (.int p2)] ∧ Z.Warmed39 U.vm ∧ U.heap = h0) (fun _ _ _ _ _ => True) (fun _ U o U' => ∃ v L, o = .returned v ∧ Q3_s1 Z a1 p2 u_ids x0 x1 x2 x3 x4 x5 x6 x7 h0 n0 v U'.heap L ∧ FrameEnd U o U' L ({ frames := 0, cells := 0, slots := 0, locals := 0 } : Room).cells ({ frames := 0, cells := 0, slots := 0, locals := 0 } : Room).slots) := by
  refine MetFree.of_bodySF (plainFor_of_name pn_3_s1) hisR ?_
  intro p e s m args below meth c s₁ Bd hml0 hP hK
  obtain ⟨rfl, hZ, hh⟩ := hP
  have hx := Bd.exec
  have hby := Bd.bytes
  have hml : c.maxLocals = 2 := hml0
  have hown : s.vm.findClass "com/example/same_bytes/samebytes/NodeIds" = some m.cls := findClass_of_methodNamed Bd.named
  have hnm := (name_of_methodNamed Bd.named Bd.method).1
  have X0 : Stand p l e ({ frames := 0, cells := 0, slots := 0, locals := 0 } : Room) s m #[(.ref a1), (.int p2)] below meth c s₁ [] 0 0 := Stand.of_body Bd
  have e0 : s₁.heap = h0 := by rw [← hh, Bd.state]; rfl
  have N0 := Fr.nil n0
  refine own_start (fun t k => castTop (ef_3_s1 m a1 p2) k) ?_
  show own_G p.tables e below _ (s₁.setTop (mkF m 0 #[.val (.ref a1), .val (.int p2)] []))
  refine own_step (fun t k => XS.aloadN X0.here hx rfl (hb hby d3_0) rfl rfl k) ?_
  show own_G p.tables e below _ (s₁.setTop (mkF m 1 #[.val (.ref a1), .val (.int p2)] [(.ref a1)]))
  obtain ⟨T1, X1, e1, st1⟩ := getF X0 hx hZ hown (host := "") (Or.inl (hw _ (List.mem_of_getElem? (i := 18) rfl))) Via.refl e0 fp1 (g := (mkF m 1 #[.val (.ref a1), .val (.int p2)] [(.ref a1)])) rfl rfl (hb hby d3_1)
  refine own_step st1 ?_
  show own_G p.tables e below _ (T1.setTop (mkF m 4 #[.val (.ref a1), .val (.int p2)] [(.int (1 : Int32))]))
  refine own_step (fun t k => XS.aloadN X1.here hx rfl (hb hby d3_4) rfl rfl k) ?_
  show own_G p.tables e below _ (T1.setTop (mkF m 5 #[.val (.ref a1), .val (.int p2)] [(.ref a1), (.int (1 : Int32))]))
  obtain ⟨T2, X2, e2, st2⟩ := getF X1 hx hZ hown (host := "") (Or.inl (hw _ (List.mem_of_getElem? (i := 11) rfl))) Via.refl e1 fp2 (g := (mkF m 5 #[.val (.ref a1), .val (.int p2)] [(.ref a1), (.int (1 : Int32))])) rfl rfl (hb hby d3_5)
  refine own_step st2 ?_
  show own_G p.tables e below _ (T2.setTop (mkF m 8 #[.val (.ref a1), .val (.int p2)] [(.ref u_ids), (.int (1 : Int32))]))
  refine own_step (own_lenI X2 hx hZ e2 fp3 (g := (mkF m 8 #[.val (.ref a1), .val (.int p2)] [(.ref u_ids), (.int (1 : Int32))])) rfl rfl (hb hby d3_8)) ?_
  show own_G p.tables e below _ (T2.setTop (mkF m 9 #[.val (.ref a1), .val (.int p2)] [(.int (8 : Int32)), (.int (1 : Int32))]))
  have hk3 : ¬ ((1 : Int32) = (8 : Int32)) := (by decide)
  refine own_step (fun t k => XS.icmpYes X2.here hx rfl (pc0 := 9) (pc' := 29) rfl (hb hby d3_9) rfl ((feq hk3).2) (by decide) (by decide) k) ?_
  show own_G p.tables e below _ (T2.setTop (mkF m 29 #[.val (.ref a1), .val (.int p2)] []))
  refine own_step (fun t k => XS.aloadN X2.here hx rfl (hb hby d3_29) rfl rfl k) ?_
  show own_G p.tables e below _ (T2.setTop (mkF m 30 #[.val (.ref a1), .val (.int p2)] [(.ref a1)]))
  obtain ⟨T4, X4, e4, st4⟩ := getF X2 hx hZ hown (host := "") (Or.inl (hw _ (List.mem_of_getElem? (i := 11) rfl))) Via.refl e2 fp2 (g := (mkF m 30 #[.val (.ref a1), .val (.int p2)] [(.ref a1)])) rfl rfl (hb hby d3_30)
  refine own_step st4 ?_
  show own_G p.tables e below _ (T4.setTop (mkF m 33 #[.val (.ref a1), .val (.int p2)] [(.ref u_ids)]))
  refine own_step (fun t k => XS.aloadN X4.here hx rfl (hb hby d3_33) rfl rfl k) ?_
  show own_G p.tables e below _ (T4.setTop (mkF m 34 #[.val (.ref a1), .val (.int p2)] [(.ref a1), (.ref u_ids)]))
  refine own_step (fun t k => XS.dup X4.here hx rfl (hb hby d3_34) rfl rfl k) ?_
  show own_G p.tables e below _ (T4.setTop (mkF m 35 #[.val (.ref a1), .val (.int p2)] [(.ref a1), (.ref a1), (.ref u_ids)]))
  obtain ⟨T5, X5, e5, st5⟩ := getF X4 hx hZ hown (host := "") (Or.inl (hw _ (List.mem_of_getElem? (i := 18) rfl))) Via.refl e4 fp1 (g := (mkF m 35 #[.val (.ref a1), .val (.int p2)] [(.ref a1), (.ref a1), (.ref u_ids)])) rfl rfl (hb hby d3_35)
  refine own_step st5 ?_
  show own_G p.tables e below _ (T5.setTop (mkF m 38 #[.val (.ref a1), .val (.int p2)] [(.int (1 : Int32)), (.ref a1), (.ref u_ids)]))
  refine own_step (fun t k => XS.dupX1 X5.here hx rfl (hb hby d3_38) rfl rfl rfl k) ?_
  show own_G p.tables e below _ (T5.setTop (mkF m 39 #[.val (.ref a1), .val (.int p2)] [(.int (1 : Int32)), (.ref a1), (.int (1 : Int32)), (.ref u_ids)]))
  refine own_step (fun t k => XS.iconst X5.here hx rfl (hb hby d3_39) k) ?_
  show own_G p.tables e below _ (T5.setTop (mkF m 40 #[.val (.ref a1), .val (.int p2)] [(.int (1 : Int32)), (.int (1 : Int32)), (.ref a1), (.int (1 : Int32)), (.ref u_ids)]))
  refine own_step (fun t k => XS.iadd X5.here hx rfl (hb hby d3_40) rfl k) ?_
  show own_G p.tables e below _ (T5.setTop (mkF m 41 #[.val (.ref a1), .val (.int p2)] [(.int (2 : Int32)), (.ref a1), (.int (1 : Int32)), (.ref u_ids)]))
  obtain ⟨T6, h6, X6, e6, W6, st6⟩ := putF X5 hx hZ hown (host := "") (Or.inl (hw _ (List.mem_of_getElem? (i := 18) rfl))) Via.refl e5 fp1 fp0 (Or.inl (hw _ (List.mem_of_getElem? (i := 19) rfl))) (hw _ (List.mem_of_getElem? (i := 3) rfl)) (ty := .int) (by decide) rfl rfl (g := (mkF m 41 #[.val (.ref a1), .val (.int p2)] [(.int (2 : Int32)), (.ref a1), (.int (1 : Int32)), (.ref u_ids)])) rfl rfl (hb hby d3_41)
  have N6 := Fr.snoc X6 N0 g_a1
  have c7 : Fld Z h6 a1 "com/example/same_bytes/samebytes/NodeIds" "size" "I" (.int (2 : Int32)) := fp1.same W6
  have c8 : Exa Z h6 a1 "com/example/same_bytes/samebytes/NodeIds" := fp0.wr W6
  have c10 : Fld Z h6 a1 "com/example/same_bytes/samebytes/NodeIds" "ids" "[I" (.ref u_ids) := fp2.other W6 (Or.inr (slot_ne (Or.inl (hw _ (List.mem_of_getElem? (i := 12) rfl))) (Or.inl (hw _ (List.mem_of_getElem? (i := 19) rfl))) (by decide) (t := (.array .int)) (t' := .int) (by decide) (by decide)))
  have c11 : own_Ari Z h6 u_ids .int [x0, x1, x2, x3, x4, x5, x6, x7] := fp3.other W6 ne_u_ids_a1
  have K6 : Keep h0 h6 [a1, u_ids] := (Keep.refl h0 [a1, u_ids]).wr W6 (Or.inl (List.mem_of_getElem? (i := 0) rfl))
  refine own_step st6 ?_
  show own_G p.tables e below _ (T6.setTop (mkF m 44 #[.val (.ref a1), .val (.int p2)] [(.int (1 : Int32)), (.ref u_ids)]))
  refine own_step (fun t k => XS.iloadN X6.here hx rfl (hb hby d3_44) rfl k) ?_
  show own_G p.tables e below _ (T6.setTop (mkF m 45 #[.val (.ref a1), .val (.int p2)] [(.int p2), (.int (1 : Int32)), (.ref u_ids)]))
  obtain ⟨T12, h12, X12, e12, W12, c12, st12⟩ := own_iastore X6 hx hZ e6 c11 (own_inb (by decide) (Nat.le_of_ble_eq_true rfl)) (g := (mkF m 45 #[.val (.ref a1), .val (.int p2)] [(.int p2), (.int (1 : Int32)), (.ref u_ids)])) rfl rfl (hb hby d3_45)
  have N12 := Fr.snoc X12 N6 g_u_ids
  have c13 : own_Ari Z h12 u_ids .int [x0, p2, x2, x3, x4, x5, x6, x7] := c12
  have c14 : Exa Z h12 a1 "com/example/same_bytes/samebytes/NodeIds" := c8.wr W12
  have c15 : Fld Z h12 a1 "com/example/same_bytes/samebytes/NodeIds" "size" "I" (.int (2 : Int32)) := c7.other W12 (Or.inl (Ne.symm ne_u_ids_a1))
  have c16 : Fld Z h12 a1 "com/example/same_bytes/samebytes/NodeIds" "ids" "[I" (.ref u_ids) := c10.other W12 (Or.inl (Ne.symm ne_u_ids_a1))
  have K12 : Keep h0 h12 [a1, u_ids] := K6.wr W12 (Or.inl (List.mem_of_getElem? (i := 1) rfl))
  refine own_step st12 ?_
  show own_G p.tables e below _ (T12.setTop (mkF m 46 #[.val (.ref a1), .val (.int p2)] []))
  obtain ⟨fs, hr, hrun, hended, hW, hsame⟩ := X12.leave (v := none) (fun _ => rfl)
  refine own_done (X12.returnOut hx Bd.returns (hb hby d3_46) hr) hrun hended ⟨_, _, rfl, ?_, ⟨_, rfl⟩, hW, hsame.mono (by decide) (by decide)⟩
  show Q3_s1 Z a1 p2 u_ids x0 x1 x2 x3 x4 x5 x6 x7 h0 n0 _ T12.heap _
  rw [e12]
  exact ⟨rfl, N12, K12, c15, c16, c13⟩
theorem pn_3_s2 : plainName "com/example/same_bytes/samebytes/NodeIds" = true := by first | (simp [plainName, overriddenIn]; done) | decide +kernel
theorem ef_3_s2 (m : MethodId) (a1 : Addr) (p2 : Int32) : entryFrame m #[(.ref a1), (.int p2)] 2 = mkF m 0 #[.val (.ref a1), .val (.int p2)] [] := by first | (simp [entryFrame, mkF, argsToLocals, Value.category]; done) | rfl
def Q3_s2 (Z : State) (a1 : Addr) (p2 : Int32) (u_ids : Addr) (x0 : Int32) (x1 : Int32) (x2 : Int32) (x3 : Int32) (x4 : Int32) (x5 : Int32) (x6 : Int32) (x7 : Int32) (h0 : Heap) (n0 : Nat) (v : Option Value) (h : Heap) (L : List Loc) : Prop := v = none ∧ Fr n0 L ∧ Keep h0 h [a1, u_ids] ∧ Fld Z h a1 "com/example/same_bytes/samebytes/NodeIds" "size" "I" (.int (3 : Int32)) ∧ Fld Z h a1 "com/example/same_bytes/samebytes/NodeIds" "ids" "[I" (.ref u_ids) ∧ own_Ari Z h u_ids .int [x0, x1, p2, x3, x4, x5, x6, x7]
set_option maxRecDepth 65536 in
set_option maxHeartbeats 40000000 in
theorem rm3_s2 (l : Launch) (Z : State) (a0 : Array Value) (hw : ∀ d ∈ tables_1, d.before a0 Z = true) (ws : List Jvm.Cond) (a1 : Addr) (p2 : Int32) (u_ids : Addr) (x0 : Int32) (x1 : Int32) (x2 : Int32) (x3 : Int32) (x4 : Int32) (x5 : Int32) (x6 : Int32) (x7 : Int32) (h0 : Heap) (n0 : Nat) (Z0 : n0 ≤ h0.size) (fp0 : Exa Z h0 a1 "com/example/same_bytes/samebytes/NodeIds") (fp1 : Fld Z h0 a1 "com/example/same_bytes/samebytes/NodeIds" "size" "I" (.int (2 : Int32))) (fp2 : Fld Z h0 a1 "com/example/same_bytes/samebytes/NodeIds" "ids" "[I" (.ref u_ids)) (fp3 : own_Ari Z h0 u_ids .int [x0, x1, x2, x3, x4, x5, x6, x7]) (g_a1 : n0 ≤ a1) (ne_u_ids_a1 : u_ids ≠ a1) (g_u_ids : n0 ≤ u_ids) :
    MetFree l (⟨"com/example/same_bytes/samebytes/NodeIds", "add", "(I)V"⟩ : MethodName) (head1 (Jvm.Cond.code (⟨"com/example/same_bytes/samebytes/NodeIds", "add", "(I)V"⟩ : MethodName) prog_70_method_7_code 2 none :: ws) ({ frames := 0, cells := 0, slots := 0, locals := 0 } : Room)) (fun a U => a = #[(.ref a1), (.int p2)] ∧ Z.Warmed39 U.vm ∧ U.heap = h0) (fun _ _ _ _ _ => True) (fun _ U o U' => ∃ v L, o = .returned v ∧ Q3_s2 Z a1 p2 u_ids x0 x1 x2 x3 x4 x5 x6 x7 h0 n0 v U'.heap L ∧ FrameEnd U o U' L ({ frames := 0, cells := 0, slots := 0, locals := 0 } : Room).cells ({ frames := 0, cells := 0, slots := 0, locals := 0 } : Room).slots) := by
  refine MetFree.of_bodySF (plainFor_of_name pn_3_s2) hisR ?_
  intro p e s m args below meth c s₁ Bd hml0 hP hK
  obtain ⟨rfl, hZ, hh⟩ := hP
  have hx := Bd.exec
  have hby := Bd.bytes
  have hml : c.maxLocals = 2 := hml0
  have hown : s.vm.findClass "com/example/same_bytes/samebytes/NodeIds" = some m.cls := findClass_of_methodNamed Bd.named
  have hnm := (name_of_methodNamed Bd.named Bd.method).1
  have X0 : Stand p l e ({ frames := 0, cells := 0, slots := 0, locals := 0 } : Room) s m #[(.ref a1), (.int p2)] below meth c s₁ [] 0 0 := Stand.of_body Bd
  have e0 : s₁.heap = h0 := by rw [← hh, Bd.state]; rfl
  have N0 := Fr.nil n0
  refine own_start (fun t k => castTop (ef_3_s2 m a1 p2) k) ?_
  show own_G p.tables e below _ (s₁.setTop (mkF m 0 #[.val (.ref a1), .val (.int p2)] []))
  refine own_step (fun t k => XS.aloadN X0.here hx rfl (hb hby d3_0) rfl rfl k) ?_
  show own_G p.tables e below _ (s₁.setTop (mkF m 1 #[.val (.ref a1), .val (.int p2)] [(.ref a1)]))
  obtain ⟨T1, X1, e1, st1⟩ := getF X0 hx hZ hown (host := "") (Or.inl (hw _ (List.mem_of_getElem? (i := 18) rfl))) Via.refl e0 fp1 (g := (mkF m 1 #[.val (.ref a1), .val (.int p2)] [(.ref a1)])) rfl rfl (hb hby d3_1)
  refine own_step st1 ?_
  show own_G p.tables e below _ (T1.setTop (mkF m 4 #[.val (.ref a1), .val (.int p2)] [(.int (2 : Int32))]))
  refine own_step (fun t k => XS.aloadN X1.here hx rfl (hb hby d3_4) rfl rfl k) ?_
  show own_G p.tables e below _ (T1.setTop (mkF m 5 #[.val (.ref a1), .val (.int p2)] [(.ref a1), (.int (2 : Int32))]))
  obtain ⟨T2, X2, e2, st2⟩ := getF X1 hx hZ hown (host := "") (Or.inl (hw _ (List.mem_of_getElem? (i := 11) rfl))) Via.refl e1 fp2 (g := (mkF m 5 #[.val (.ref a1), .val (.int p2)] [(.ref a1), (.int (2 : Int32))])) rfl rfl (hb hby d3_5)
  refine own_step st2 ?_
  show own_G p.tables e below _ (T2.setTop (mkF m 8 #[.val (.ref a1), .val (.int p2)] [(.ref u_ids), (.int (2 : Int32))]))
  refine own_step (own_lenI X2 hx hZ e2 fp3 (g := (mkF m 8 #[.val (.ref a1), .val (.int p2)] [(.ref u_ids), (.int (2 : Int32))])) rfl rfl (hb hby d3_8)) ?_
  show own_G p.tables e below _ (T2.setTop (mkF m 9 #[.val (.ref a1), .val (.int p2)] [(.int (8 : Int32)), (.int (2 : Int32))]))
  have hk3 : ¬ ((2 : Int32) = (8 : Int32)) := (by decide)
  refine own_step (fun t k => XS.icmpYes X2.here hx rfl (pc0 := 9) (pc' := 29) rfl (hb hby d3_9) rfl ((feq hk3).2) (by decide) (by decide) k) ?_
  show own_G p.tables e below _ (T2.setTop (mkF m 29 #[.val (.ref a1), .val (.int p2)] []))
  refine own_step (fun t k => XS.aloadN X2.here hx rfl (hb hby d3_29) rfl rfl k) ?_
  show own_G p.tables e below _ (T2.setTop (mkF m 30 #[.val (.ref a1), .val (.int p2)] [(.ref a1)]))
  obtain ⟨T4, X4, e4, st4⟩ := getF X2 hx hZ hown (host := "") (Or.inl (hw _ (List.mem_of_getElem? (i := 11) rfl))) Via.refl e2 fp2 (g := (mkF m 30 #[.val (.ref a1), .val (.int p2)] [(.ref a1)])) rfl rfl (hb hby d3_30)
  refine own_step st4 ?_
  show own_G p.tables e below _ (T4.setTop (mkF m 33 #[.val (.ref a1), .val (.int p2)] [(.ref u_ids)]))
  refine own_step (fun t k => XS.aloadN X4.here hx rfl (hb hby d3_33) rfl rfl k) ?_
  show own_G p.tables e below _ (T4.setTop (mkF m 34 #[.val (.ref a1), .val (.int p2)] [(.ref a1), (.ref u_ids)]))
  refine own_step (fun t k => XS.dup X4.here hx rfl (hb hby d3_34) rfl rfl k) ?_
  show own_G p.tables e below _ (T4.setTop (mkF m 35 #[.val (.ref a1), .val (.int p2)] [(.ref a1), (.ref a1), (.ref u_ids)]))
  obtain ⟨T5, X5, e5, st5⟩ := getF X4 hx hZ hown (host := "") (Or.inl (hw _ (List.mem_of_getElem? (i := 18) rfl))) Via.refl e4 fp1 (g := (mkF m 35 #[.val (.ref a1), .val (.int p2)] [(.ref a1), (.ref a1), (.ref u_ids)])) rfl rfl (hb hby d3_35)
  refine own_step st5 ?_
  show own_G p.tables e below _ (T5.setTop (mkF m 38 #[.val (.ref a1), .val (.int p2)] [(.int (2 : Int32)), (.ref a1), (.ref u_ids)]))
  refine own_step (fun t k => XS.dupX1 X5.here hx rfl (hb hby d3_38) rfl rfl rfl k) ?_
  show own_G p.tables e below _ (T5.setTop (mkF m 39 #[.val (.ref a1), .val (.int p2)] [(.int (2 : Int32)), (.ref a1), (.int (2 : Int32)), (.ref u_ids)]))
  refine own_step (fun t k => XS.iconst X5.here hx rfl (hb hby d3_39) k) ?_
  show own_G p.tables e below _ (T5.setTop (mkF m 40 #[.val (.ref a1), .val (.int p2)] [(.int (1 : Int32)), (.int (2 : Int32)), (.ref a1), (.int (2 : Int32)), (.ref u_ids)]))
  refine own_step (fun t k => XS.iadd X5.here hx rfl (hb hby d3_40) rfl k) ?_
  show own_G p.tables e below _ (T5.setTop (mkF m 41 #[.val (.ref a1), .val (.int p2)] [(.int (3 : Int32)), (.ref a1), (.int (2 : Int32)), (.ref u_ids)]))
  obtain ⟨T6, h6, X6, e6, W6, st6⟩ := putF X5 hx hZ hown (host := "") (Or.inl (hw _ (List.mem_of_getElem? (i := 18) rfl))) Via.refl e5 fp1 fp0 (Or.inl (hw _ (List.mem_of_getElem? (i := 19) rfl))) (hw _ (List.mem_of_getElem? (i := 3) rfl)) (ty := .int) (by decide) rfl rfl (g := (mkF m 41 #[.val (.ref a1), .val (.int p2)] [(.int (3 : Int32)), (.ref a1), (.int (2 : Int32)), (.ref u_ids)])) rfl rfl (hb hby d3_41)
  have N6 := Fr.snoc X6 N0 g_a1
  have c7 : Fld Z h6 a1 "com/example/same_bytes/samebytes/NodeIds" "size" "I" (.int (3 : Int32)) := fp1.same W6
  have c8 : Exa Z h6 a1 "com/example/same_bytes/samebytes/NodeIds" := fp0.wr W6
  have c10 : Fld Z h6 a1 "com/example/same_bytes/samebytes/NodeIds" "ids" "[I" (.ref u_ids) := fp2.other W6 (Or.inr (slot_ne (Or.inl (hw _ (List.mem_of_getElem? (i := 12) rfl))) (Or.inl (hw _ (List.mem_of_getElem? (i := 19) rfl))) (by decide) (t := (.array .int)) (t' := .int) (by decide) (by decide)))
  have c11 : own_Ari Z h6 u_ids .int [x0, x1, x2, x3, x4, x5, x6, x7] := fp3.other W6 ne_u_ids_a1
  have K6 : Keep h0 h6 [a1, u_ids] := (Keep.refl h0 [a1, u_ids]).wr W6 (Or.inl (List.mem_of_getElem? (i := 0) rfl))
  refine own_step st6 ?_
  show own_G p.tables e below _ (T6.setTop (mkF m 44 #[.val (.ref a1), .val (.int p2)] [(.int (2 : Int32)), (.ref u_ids)]))
  refine own_step (fun t k => XS.iloadN X6.here hx rfl (hb hby d3_44) rfl k) ?_
  show own_G p.tables e below _ (T6.setTop (mkF m 45 #[.val (.ref a1), .val (.int p2)] [(.int p2), (.int (2 : Int32)), (.ref u_ids)]))
  obtain ⟨T12, h12, X12, e12, W12, c12, st12⟩ := own_iastore X6 hx hZ e6 c11 (own_inb (by decide) (Nat.le_of_ble_eq_true rfl)) (g := (mkF m 45 #[.val (.ref a1), .val (.int p2)] [(.int p2), (.int (2 : Int32)), (.ref u_ids)])) rfl rfl (hb hby d3_45)
  have N12 := Fr.snoc X12 N6 g_u_ids
  have c13 : own_Ari Z h12 u_ids .int [x0, x1, p2, x3, x4, x5, x6, x7] := c12
  have c14 : Exa Z h12 a1 "com/example/same_bytes/samebytes/NodeIds" := c8.wr W12
  have c15 : Fld Z h12 a1 "com/example/same_bytes/samebytes/NodeIds" "size" "I" (.int (3 : Int32)) := c7.other W12 (Or.inl (Ne.symm ne_u_ids_a1))
  have c16 : Fld Z h12 a1 "com/example/same_bytes/samebytes/NodeIds" "ids" "[I" (.ref u_ids) := c10.other W12 (Or.inl (Ne.symm ne_u_ids_a1))
  have K12 : Keep h0 h12 [a1, u_ids] := K6.wr W12 (Or.inl (List.mem_of_getElem? (i := 1) rfl))
  refine own_step st12 ?_
  show own_G p.tables e below _ (T12.setTop (mkF m 46 #[.val (.ref a1), .val (.int p2)] []))
  obtain ⟨fs, hr, hrun, hended, hW, hsame⟩ := X12.leave (v := none) (fun _ => rfl)
  refine own_done (X12.returnOut hx Bd.returns (hb hby d3_46) hr) hrun hended ⟨_, _, rfl, ?_, ⟨_, rfl⟩, hW, hsame.mono (by decide) (by decide)⟩
  show Q3_s2 Z a1 p2 u_ids x0 x1 x2 x3 x4 x5 x6 x7 h0 n0 _ T12.heap _
  rw [e12]
  exact ⟨rfl, N12, K12, c15, c16, c13⟩
theorem pn_3_s3 : plainName "com/example/same_bytes/samebytes/NodeIds" = true := by first | (simp [plainName, overriddenIn]; done) | decide +kernel
theorem ef_3_s3 (m : MethodId) (a1 : Addr) (p2 : Int32) : entryFrame m #[(.ref a1), (.int p2)] 2 = mkF m 0 #[.val (.ref a1), .val (.int p2)] [] := by first | (simp [entryFrame, mkF, argsToLocals, Value.category]; done) | rfl
def Q3_s3 (Z : State) (a1 : Addr) (p2 : Int32) (u_ids : Addr) (x0 : Int32) (x1 : Int32) (x2 : Int32) (x3 : Int32) (x4 : Int32) (x5 : Int32) (x6 : Int32) (x7 : Int32) (h0 : Heap) (n0 : Nat) (v : Option Value) (h : Heap) (L : List Loc) : Prop := v = none ∧ Fr n0 L ∧ Keep h0 h [a1, u_ids] ∧ Fld Z h a1 "com/example/same_bytes/samebytes/NodeIds" "size" "I" (.int (4 : Int32)) ∧ Fld Z h a1 "com/example/same_bytes/samebytes/NodeIds" "ids" "[I" (.ref u_ids) ∧ own_Ari Z h u_ids .int [x0, x1, x2, p2, x4, x5, x6, x7]
set_option maxRecDepth 65536 in
set_option maxHeartbeats 40000000 in
theorem rm3_s3 (l : Launch) (Z : State) (a0 : Array Value) (hw : ∀ d ∈ tables_1, d.before a0 Z = true) (ws : List Jvm.Cond) (a1 : Addr) (p2 : Int32) (u_ids : Addr) (x0 : Int32) (x1 : Int32) (x2 : Int32) (x3 : Int32) (x4 : Int32) (x5 : Int32) (x6 : Int32) (x7 : Int32) (h0 : Heap) (n0 : Nat) (Z0 : n0 ≤ h0.size) (fp0 : Exa Z h0 a1 "com/example/same_bytes/samebytes/NodeIds") (fp1 : Fld Z h0 a1 "com/example/same_bytes/samebytes/NodeIds" "size" "I" (.int (3 : Int32))) (fp2 : Fld Z h0 a1 "com/example/same_bytes/samebytes/NodeIds" "ids" "[I" (.ref u_ids)) (fp3 : own_Ari Z h0 u_ids .int [x0, x1, x2, x3, x4, x5, x6, x7]) (g_a1 : n0 ≤ a1) (ne_u_ids_a1 : u_ids ≠ a1) (g_u_ids : n0 ≤ u_ids) :
    MetFree l (⟨"com/example/same_bytes/samebytes/NodeIds", "add", "(I)V"⟩ : MethodName) (head1 (Jvm.Cond.code (⟨"com/example/same_bytes/samebytes/NodeIds", "add", "(I)V"⟩ : MethodName) prog_70_method_7_code 2 none :: ws) ({ frames := 0, cells := 0, slots := 0, locals := 0 } : Room)) (fun a U => a = #[(.ref a1), (.int p2)] ∧ Z.Warmed39 U.vm ∧ U.heap = h0) (fun _ _ _ _ _ => True) (fun _ U o U' => ∃ v L, o = .returned v ∧ Q3_s3 Z a1 p2 u_ids x0 x1 x2 x3 x4 x5 x6 x7 h0 n0 v U'.heap L ∧ FrameEnd U o U' L ({ frames := 0, cells := 0, slots := 0, locals := 0 } : Room).cells ({ frames := 0, cells := 0, slots := 0, locals := 0 } : Room).slots) := by
  refine MetFree.of_bodySF (plainFor_of_name pn_3_s3) hisR ?_
  intro p e s m args below meth c s₁ Bd hml0 hP hK
  obtain ⟨rfl, hZ, hh⟩ := hP
  have hx := Bd.exec
  have hby := Bd.bytes
  have hml : c.maxLocals = 2 := hml0
  have hown : s.vm.findClass "com/example/same_bytes/samebytes/NodeIds" = some m.cls := findClass_of_methodNamed Bd.named
  have hnm := (name_of_methodNamed Bd.named Bd.method).1
  have X0 : Stand p l e ({ frames := 0, cells := 0, slots := 0, locals := 0 } : Room) s m #[(.ref a1), (.int p2)] below meth c s₁ [] 0 0 := Stand.of_body Bd
  have e0 : s₁.heap = h0 := by rw [← hh, Bd.state]; rfl
  have N0 := Fr.nil n0
  refine own_start (fun t k => castTop (ef_3_s3 m a1 p2) k) ?_
  show own_G p.tables e below _ (s₁.setTop (mkF m 0 #[.val (.ref a1), .val (.int p2)] []))
  refine own_step (fun t k => XS.aloadN X0.here hx rfl (hb hby d3_0) rfl rfl k) ?_
  show own_G p.tables e below _ (s₁.setTop (mkF m 1 #[.val (.ref a1), .val (.int p2)] [(.ref a1)]))
  obtain ⟨T1, X1, e1, st1⟩ := getF X0 hx hZ hown (host := "") (Or.inl (hw _ (List.mem_of_getElem? (i := 18) rfl))) Via.refl e0 fp1 (g := (mkF m 1 #[.val (.ref a1), .val (.int p2)] [(.ref a1)])) rfl rfl (hb hby d3_1)
  refine own_step st1 ?_
  show own_G p.tables e below _ (T1.setTop (mkF m 4 #[.val (.ref a1), .val (.int p2)] [(.int (3 : Int32))]))
  refine own_step (fun t k => XS.aloadN X1.here hx rfl (hb hby d3_4) rfl rfl k) ?_
  show own_G p.tables e below _ (T1.setTop (mkF m 5 #[.val (.ref a1), .val (.int p2)] [(.ref a1), (.int (3 : Int32))]))
  obtain ⟨T2, X2, e2, st2⟩ := getF X1 hx hZ hown (host := "") (Or.inl (hw _ (List.mem_of_getElem? (i := 11) rfl))) Via.refl e1 fp2 (g := (mkF m 5 #[.val (.ref a1), .val (.int p2)] [(.ref a1), (.int (3 : Int32))])) rfl rfl (hb hby d3_5)
  refine own_step st2 ?_
  show own_G p.tables e below _ (T2.setTop (mkF m 8 #[.val (.ref a1), .val (.int p2)] [(.ref u_ids), (.int (3 : Int32))]))
  refine own_step (own_lenI X2 hx hZ e2 fp3 (g := (mkF m 8 #[.val (.ref a1), .val (.int p2)] [(.ref u_ids), (.int (3 : Int32))])) rfl rfl (hb hby d3_8)) ?_
  show own_G p.tables e below _ (T2.setTop (mkF m 9 #[.val (.ref a1), .val (.int p2)] [(.int (8 : Int32)), (.int (3 : Int32))]))
  have hk3 : ¬ ((3 : Int32) = (8 : Int32)) := (by decide)
  refine own_step (fun t k => XS.icmpYes X2.here hx rfl (pc0 := 9) (pc' := 29) rfl (hb hby d3_9) rfl ((feq hk3).2) (by decide) (by decide) k) ?_
  show own_G p.tables e below _ (T2.setTop (mkF m 29 #[.val (.ref a1), .val (.int p2)] []))
  refine own_step (fun t k => XS.aloadN X2.here hx rfl (hb hby d3_29) rfl rfl k) ?_
  show own_G p.tables e below _ (T2.setTop (mkF m 30 #[.val (.ref a1), .val (.int p2)] [(.ref a1)]))
  obtain ⟨T4, X4, e4, st4⟩ := getF X2 hx hZ hown (host := "") (Or.inl (hw _ (List.mem_of_getElem? (i := 11) rfl))) Via.refl e2 fp2 (g := (mkF m 30 #[.val (.ref a1), .val (.int p2)] [(.ref a1)])) rfl rfl (hb hby d3_30)
  refine own_step st4 ?_
  show own_G p.tables e below _ (T4.setTop (mkF m 33 #[.val (.ref a1), .val (.int p2)] [(.ref u_ids)]))
  refine own_step (fun t k => XS.aloadN X4.here hx rfl (hb hby d3_33) rfl rfl k) ?_
  show own_G p.tables e below _ (T4.setTop (mkF m 34 #[.val (.ref a1), .val (.int p2)] [(.ref a1), (.ref u_ids)]))
  refine own_step (fun t k => XS.dup X4.here hx rfl (hb hby d3_34) rfl rfl k) ?_
  show own_G p.tables e below _ (T4.setTop (mkF m 35 #[.val (.ref a1), .val (.int p2)] [(.ref a1), (.ref a1), (.ref u_ids)]))
  obtain ⟨T5, X5, e5, st5⟩ := getF X4 hx hZ hown (host := "") (Or.inl (hw _ (List.mem_of_getElem? (i := 18) rfl))) Via.refl e4 fp1 (g := (mkF m 35 #[.val (.ref a1), .val (.int p2)] [(.ref a1), (.ref a1), (.ref u_ids)])) rfl rfl (hb hby d3_35)
  refine own_step st5 ?_
  show own_G p.tables e below _ (T5.setTop (mkF m 38 #[.val (.ref a1), .val (.int p2)] [(.int (3 : Int32)), (.ref a1), (.ref u_ids)]))
  refine own_step (fun t k => XS.dupX1 X5.here hx rfl (hb hby d3_38) rfl rfl rfl k) ?_
  show own_G p.tables e below _ (T5.setTop (mkF m 39 #[.val (.ref a1), .val (.int p2)] [(.int (3 : Int32)), (.ref a1), (.int (3 : Int32)), (.ref u_ids)]))
  refine own_step (fun t k => XS.iconst X5.here hx rfl (hb hby d3_39) k) ?_
  show own_G p.tables e below _ (T5.setTop (mkF m 40 #[.val (.ref a1), .val (.int p2)] [(.int (1 : Int32)), (.int (3 : Int32)), (.ref a1), (.int (3 : Int32)), (.ref u_ids)]))
  refine own_step (fun t k => XS.iadd X5.here hx rfl (hb hby d3_40) rfl k) ?_
  show own_G p.tables e below _ (T5.setTop (mkF m 41 #[.val (.ref a1), .val (.int p2)] [(.int (4 : Int32)), (.ref a1), (.int (3 : Int32)), (.ref u_ids)]))
  obtain ⟨T6, h6, X6, e6, W6, st6⟩ := putF X5 hx hZ hown (host := "") (Or.inl (hw _ (List.mem_of_getElem? (i := 18) rfl))) Via.refl e5 fp1 fp0 (Or.inl (hw _ (List.mem_of_getElem? (i := 19) rfl))) (hw _ (List.mem_of_getElem? (i := 3) rfl)) (ty := .int) (by decide) rfl rfl (g := (mkF m 41 #[.val (.ref a1), .val (.int p2)] [(.int (4 : Int32)), (.ref a1), (.int (3 : Int32)), (.ref u_ids)])) rfl rfl (hb hby d3_41)
  have N6 := Fr.snoc X6 N0 g_a1
  have c7 : Fld Z h6 a1 "com/example/same_bytes/samebytes/NodeIds" "size" "I" (.int (4 : Int32)) := fp1.same W6
  have c8 : Exa Z h6 a1 "com/example/same_bytes/samebytes/NodeIds" := fp0.wr W6
  have c10 : Fld Z h6 a1 "com/example/same_bytes/samebytes/NodeIds" "ids" "[I" (.ref u_ids) := fp2.other W6 (Or.inr (slot_ne (Or.inl (hw _ (List.mem_of_getElem? (i := 12) rfl))) (Or.inl (hw _ (List.mem_of_getElem? (i := 19) rfl))) (by decide) (t := (.array .int)) (t' := .int) (by decide) (by decide)))
  have c11 : own_Ari Z h6 u_ids .int [x0, x1, x2, x3, x4, x5, x6, x7] := fp3.other W6 ne_u_ids_a1
  have K6 : Keep h0 h6 [a1, u_ids] := (Keep.refl h0 [a1, u_ids]).wr W6 (Or.inl (List.mem_of_getElem? (i := 0) rfl))
  refine own_step st6 ?_
  show own_G p.tables e below _ (T6.setTop (mkF m 44 #[.val (.ref a1), .val (.int p2)] [(.int (3 : Int32)), (.ref u_ids)]))
  refine own_step (fun t k => XS.iloadN X6.here hx rfl (hb hby d3_44) rfl k) ?_
  show own_G p.tables e below _ (T6.setTop (mkF m 45 #[.val (.ref a1), .val (.int p2)] [(.int p2), (.int (3 : Int32)), (.ref u_ids)]))
  obtain ⟨T12, h12, X12, e12, W12, c12, st12⟩ := own_iastore X6 hx hZ e6 c11 (own_inb (by decide) (Nat.le_of_ble_eq_true rfl)) (g := (mkF m 45 #[.val (.ref a1), .val (.int p2)] [(.int p2), (.int (3 : Int32)), (.ref u_ids)])) rfl rfl (hb hby d3_45)
  have N12 := Fr.snoc X12 N6 g_u_ids
  have c13 : own_Ari Z h12 u_ids .int [x0, x1, x2, p2, x4, x5, x6, x7] := c12
  have c14 : Exa Z h12 a1 "com/example/same_bytes/samebytes/NodeIds" := c8.wr W12
  have c15 : Fld Z h12 a1 "com/example/same_bytes/samebytes/NodeIds" "size" "I" (.int (4 : Int32)) := c7.other W12 (Or.inl (Ne.symm ne_u_ids_a1))
  have c16 : Fld Z h12 a1 "com/example/same_bytes/samebytes/NodeIds" "ids" "[I" (.ref u_ids) := c10.other W12 (Or.inl (Ne.symm ne_u_ids_a1))
  have K12 : Keep h0 h12 [a1, u_ids] := K6.wr W12 (Or.inl (List.mem_of_getElem? (i := 1) rfl))
  refine own_step st12 ?_
  show own_G p.tables e below _ (T12.setTop (mkF m 46 #[.val (.ref a1), .val (.int p2)] []))
  obtain ⟨fs, hr, hrun, hended, hW, hsame⟩ := X12.leave (v := none) (fun _ => rfl)
  refine own_done (X12.returnOut hx Bd.returns (hb hby d3_46) hr) hrun hended ⟨_, _, rfl, ?_, ⟨_, rfl⟩, hW, hsame.mono (by decide) (by decide)⟩
  show Q3_s3 Z a1 p2 u_ids x0 x1 x2 x3 x4 x5 x6 x7 h0 n0 _ T12.heap _
  rw [e12]
  exact ⟨rfl, N12, K12, c15, c16, c13⟩
theorem d4_0 : decode prog_70_method_9_code 0 = .ok (.aload_n 0, 1) := by decide +kernel
theorem d4_1 : decode prog_70_method_9_code 1 = .ok (.iload_n 1, 1) := by decide +kernel
theorem d4_2 : decode prog_70_method_9_code 2 = .ok (.putfield 13, 3) := by decide +kernel
theorem d4_5 : decode prog_70_method_9_code 5 = .ok (.return_, 1) := by decide +kernel
theorem pn_4 : plainName "com/example/same_bytes/samebytes/NodeIds" = true := by first | (simp [plainName, overriddenIn]; done) | decide +kernel
theorem ef_4 (m : MethodId) (a1 : Addr) (p2 : Int32) : entryFrame m #[(.ref a1), (.int p2)] 2 = mkF m 0 #[.val (.ref a1), .val (.int p2)] [] := by first | (simp [entryFrame, mkF, argsToLocals, Value.category]; done) | rfl
def Q4 (Z : State) (a1 : Addr) (p2 : Int32) (u_ids_a1 : Value) (u_size_a1 : Value) (h0 : Heap) (n0 : Nat) (v : Option Value) (h : Heap) (L : List Loc) : Prop := v = none ∧ Fr n0 L ∧ Keep h0 h [a1] ∧ Fld Z h a1 "com/example/same_bytes/samebytes/NodeIds" "ids" "[I" u_ids_a1 ∧ Fld Z h a1 "com/example/same_bytes/samebytes/NodeIds" "size" "I" (.int p2)
set_option maxRecDepth 65536 in
set_option maxHeartbeats 40000000 in
theorem rm4 (l : Launch) (Z : State) (a0 : Array Value) (hw : ∀ d ∈ tables_1, d.before a0 Z = true) (ws : List Jvm.Cond) (a1 : Addr) (p2 : Int32) (u_ids_a1 : Value) (u_size_a1 : Value) (h0 : Heap) (n0 : Nat) (Z0 : n0 ≤ h0.size) (fp0 : Exa Z h0 a1 "com/example/same_bytes/samebytes/NodeIds") (fp1 : Fld Z h0 a1 "com/example/same_bytes/samebytes/NodeIds" "ids" "[I" u_ids_a1) (fp2 : Fld Z h0 a1 "com/example/same_bytes/samebytes/NodeIds" "size" "I" u_size_a1) (g_a1 : n0 ≤ a1) :
    MetFree l (⟨"com/example/same_bytes/samebytes/NodeIds", "truncate", "(I)V"⟩ : MethodName) (head1 (Jvm.Cond.code (⟨"com/example/same_bytes/samebytes/NodeIds", "truncate", "(I)V"⟩ : MethodName) prog_70_method_9_code 2 none :: ws) ({ frames := 0, cells := 0, slots := 0, locals := 0 } : Room)) (fun a U => a = #[(.ref a1), (.int p2)] ∧ Z.Warmed39 U.vm ∧ U.heap = h0) (fun _ _ _ _ _ => True) (fun _ U o U' => ∃ v L, o = .returned v ∧ Q4 Z a1 p2 u_ids_a1 u_size_a1 h0 n0 v U'.heap L ∧ FrameEnd U o U' L ({ frames := 0, cells := 0, slots := 0, locals := 0 } : Room).cells ({ frames := 0, cells := 0, slots := 0, locals := 0 } : Room).slots) := by
  refine MetFree.of_bodySF (plainFor_of_name pn_4) hisR ?_
  intro p e s m args below meth c s₁ Bd hml0 hP hK
  obtain ⟨rfl, hZ, hh⟩ := hP
  have hx := Bd.exec
  have hby := Bd.bytes
  have hml : c.maxLocals = 2 := hml0
  have hown : s.vm.findClass "com/example/same_bytes/samebytes/NodeIds" = some m.cls := findClass_of_methodNamed Bd.named
  have hnm := (name_of_methodNamed Bd.named Bd.method).1
  have X0 : Stand p l e ({ frames := 0, cells := 0, slots := 0, locals := 0 } : Room) s m #[(.ref a1), (.int p2)] below meth c s₁ [] 0 0 := Stand.of_body Bd
  have e0 : s₁.heap = h0 := by rw [← hh, Bd.state]; rfl
  have N0 := Fr.nil n0
  refine own_start (fun t k => castTop (ef_4 m a1 p2) k) ?_
  show own_G p.tables e below _ (s₁.setTop (mkF m 0 #[.val (.ref a1), .val (.int p2)] []))
  refine own_step (fun t k => XS.aloadN X0.here hx rfl (hb hby d4_0) rfl rfl k) ?_
  show own_G p.tables e below _ (s₁.setTop (mkF m 1 #[.val (.ref a1), .val (.int p2)] [(.ref a1)]))
  refine own_step (fun t k => XS.iloadN X0.here hx rfl (hb hby d4_1) rfl k) ?_
  show own_G p.tables e below _ (s₁.setTop (mkF m 2 #[.val (.ref a1), .val (.int p2)] [(.int p2), (.ref a1)]))
  obtain ⟨T1, h1, X1, e1, W1, st1⟩ := putF X0 hx hZ hown (host := "") (Or.inl (hw _ (List.mem_of_getElem? (i := 18) rfl))) Via.refl e0 fp2 fp0 (Or.inl (hw _ (List.mem_of_getElem? (i := 19) rfl))) (hw _ (List.mem_of_getElem? (i := 3) rfl)) (ty := .int) (by decide) rfl rfl (g := (mkF m 2 #[.val (.ref a1), .val (.int p2)] [(.int p2), (.ref a1)])) rfl rfl (hb hby d4_2)
  have N1 := Fr.snoc X1 N0 g_a1
  have c2 : Fld Z h1 a1 "com/example/same_bytes/samebytes/NodeIds" "size" "I" (.int p2) := fp2.same W1
  have c3 : Exa Z h1 a1 "com/example/same_bytes/samebytes/NodeIds" := fp0.wr W1
  have c4 : Fld Z h1 a1 "com/example/same_bytes/samebytes/NodeIds" "ids" "[I" u_ids_a1 := fp1.other W1 (Or.inr (slot_ne (Or.inl (hw _ (List.mem_of_getElem? (i := 12) rfl))) (Or.inl (hw _ (List.mem_of_getElem? (i := 19) rfl))) (by decide) (t := (.array .int)) (t' := .int) (by decide) (by decide)))
  have K1 : Keep h0 h1 [a1] := (Keep.refl h0 [a1]).wr W1 (Or.inl (List.mem_of_getElem? (i := 0) rfl))
  refine own_step st1 ?_
  show own_G p.tables e below _ (T1.setTop (mkF m 5 #[.val (.ref a1), .val (.int p2)] []))
  obtain ⟨fs, hr, hrun, hended, hW, hsame⟩ := X1.leave (v := none) (fun _ => rfl)
  refine own_done (X1.returnOut hx Bd.returns (hb hby d4_5) hr) hrun hended ⟨_, _, rfl, ?_, ⟨_, rfl⟩, hW, hsame.mono (by decide) (by decide)⟩
  show Q4 Z a1 p2 u_ids_a1 u_size_a1 h0 n0 _ T1.heap _
  rw [e1]
  exact ⟨rfl, N1, K1, c4, c2⟩
theorem d5_0 : decode prog_70_method_12_code 0 = .ok (.iconst 0, 1) := by decide +kernel
theorem d5_1 : decode prog_70_method_12_code 1 = .ok (.istore_n 1, 1) := by decide +kernel
theorem d5_2 : decode prog_70_method_12_code 2 = .ok (.aload_n 0, 1) := by decide +kernel
theorem d5_3 : decode prog_70_method_12_code 3 = .ok (.getfield 13, 3) := by decide +kernel
theorem d5_6 : decode prog_70_method_12_code 6 = .ok (.iconst 1, 1) := by decide +kernel
theorem d5_7 : decode prog_70_method_12_code 7 = .ok (.isub, 1) := by decide +kernel
theorem d5_8 : decode prog_70_method_12_code 8 = .ok (.istore_n 2, 1) := by decide +kernel
theorem d5_9 : decode prog_70_method_12_code 9 = .ok (.iload_n 1, 1) := by decide +kernel
theorem d5_10 : decode prog_70_method_12_code 10 = .ok (.iload_n 2, 1) := by decide +kernel
theorem d5_11 : decode prog_70_method_12_code 11 = .ok (.if_icmp .ge 38, 3) := by decide +kernel
theorem d5_49 : decode prog_70_method_12_code 49 = .ok (.return_, 1) := by decide +kernel
theorem pn_5_s0 : plainName "com/example/same_bytes/samebytes/NodeIds" = true := by first | (simp [plainName, overriddenIn]; done) | decide +kernel
theorem ef_5_s0 (m : MethodId) (a1 : Addr) : entryFrame m #[(.ref a1)] 4 = mkF m 0 #[.val (.ref a1), .unset, .unset, .unset] [] := by first | (simp [entryFrame, mkF, argsToLocals, Value.category]; done) | rfl
def Q5_s0 (Z : State) (a1 : Addr) (u_ids : Addr) (x0 : Int32) (x1 : Int32) (x2 : Int32) (x3 : Int32) (x4 : Int32) (x5 : Int32) (x6 : Int32) (x7 : Int32) (h0 : Heap) (n0 : Nat) (v : Option Value) (h : Heap) (L : List Loc) : Prop := v = none ∧ Fr n0 L ∧ h = h0
set_option maxRecDepth 65536 in
set_option maxHeartbeats 40000000 in
theorem rm5_s0 (l : Launch) (Z : State) (a0 : Array Value) (hw : ∀ d ∈ tables_1, d.before a0 Z = true) (ws : List Jvm.Cond) (a1 : Addr) (u_ids : Addr) (x0 : Int32) (x1 : Int32) (x2 : Int32) (x3 : Int32) (x4 : Int32) (x5 : Int32) (x6 : Int32) (x7 : Int32) (h0 : Heap) (n0 : Nat) (Z0 : n0 ≤ h0.size) (fp0 : Exa Z h0 a1 "com/example/same_bytes/samebytes/NodeIds") (fp1 : Fld Z h0 a1 "com/example/same_bytes/samebytes/NodeIds" "size" "I" (.int (0 : Int32))) (fp2 : Fld Z h0 a1 "com/example/same_bytes/samebytes/NodeIds" "ids" "[I" (.ref u_ids)) (fp3 : own_Ari Z h0 u_ids .int [x0, x1, x2, x3, x4, x5, x6, x7]) :
    MetFree l (⟨"com/example/same_bytes/samebytes/NodeIds", "reverse", "()V"⟩ : MethodName) (head1 (Jvm.Cond.code (⟨"com/example/same_bytes/samebytes/NodeIds", "reverse", "()V"⟩ : MethodName) prog_70_method_12_code 4 none :: ws) ({ frames := 0, cells := 0, slots := 0, locals := 0 } : Room)) (fun a U => a = #[(.ref a1)] ∧ Z.Warmed39 U.vm ∧ U.heap = h0) (fun _ _ _ _ _ => True) (fun _ U o U' => ∃ v L, o = .returned v ∧ Q5_s0 Z a1 u_ids x0 x1 x2 x3 x4 x5 x6 x7 h0 n0 v U'.heap L ∧ FrameEnd U o U' L ({ frames := 0, cells := 0, slots := 0, locals := 0 } : Room).cells ({ frames := 0, cells := 0, slots := 0, locals := 0 } : Room).slots) := by
  refine MetFree.of_bodySF (plainFor_of_name pn_5_s0) hisR ?_
  intro p e s m args below meth c s₁ Bd hml0 hP hK
  obtain ⟨rfl, hZ, hh⟩ := hP
  have hx := Bd.exec
  have hby := Bd.bytes
  have hml : c.maxLocals = 4 := hml0
  have hown : s.vm.findClass "com/example/same_bytes/samebytes/NodeIds" = some m.cls := findClass_of_methodNamed Bd.named
  have hnm := (name_of_methodNamed Bd.named Bd.method).1
  have X0 : Stand p l e ({ frames := 0, cells := 0, slots := 0, locals := 0 } : Room) s m #[(.ref a1)] below meth c s₁ [] 0 0 := Stand.of_body Bd
  have e0 : s₁.heap = h0 := by rw [← hh, Bd.state]; rfl
  have N0 := Fr.nil n0
  refine own_start (fun t k => castTop (ef_5_s0 m a1) k) ?_
  show own_G p.tables e below _ (s₁.setTop (mkF m 0 #[.val (.ref a1), .unset, .unset, .unset] []))
  refine own_step (fun t k => XS.iconst X0.here hx rfl (hb hby d5_0) k) ?_
  show own_G p.tables e below _ (s₁.setTop (mkF m 1 #[.val (.ref a1), .unset, .unset, .unset] [(.int (0 : Int32))]))
  refine own_step (fun t k => XS.istoreN X0.here hx rfl (hb hby d5_1) rfl (l' := #[.val (.ref a1), .val (.int (0 : Int32)), .unset, .unset]) rfl k) ?_
  show own_G p.tables e below _ (s₁.setTop (mkF m 2 #[.val (.ref a1), .val (.int (0 : Int32)), .unset, .unset] []))
  refine own_step (fun t k => XS.aloadN X0.here hx rfl (hb hby d5_2) rfl rfl k) ?_
  show own_G p.tables e below _ (s₁.setTop (mkF m 3 #[.val (.ref a1), .val (.int (0 : Int32)), .unset, .unset] [(.ref a1)]))
  obtain ⟨T1, X1, e1, st1⟩ := getF X0 hx hZ hown (host := "") (Or.inl (hw _ (List.mem_of_getElem? (i := 18) rfl))) Via.refl e0 fp1 (g := (mkF m 3 #[.val (.ref a1), .val (.int (0 : Int32)), .unset, .unset] [(.ref a1)])) rfl rfl (hb hby d5_3)
  refine own_step st1 ?_
  show own_G p.tables e below _ (T1.setTop (mkF m 6 #[.val (.ref a1), .val (.int (0 : Int32)), .unset, .unset] [(.int (0 : Int32))]))
  refine own_step (fun t k => XS.iconst X1.here hx rfl (hb hby d5_6) k) ?_
  show own_G p.tables e below _ (T1.setTop (mkF m 7 #[.val (.ref a1), .val (.int (0 : Int32)), .unset, .unset] [(.int (1 : Int32)), (.int (0 : Int32))]))
  refine own_step (fun t k => XS.isub X1.here hx rfl (hb hby d5_7) rfl k) ?_
  show own_G p.tables e below _ (T1.setTop (mkF m 8 #[.val (.ref a1), .val (.int (0 : Int32)), .unset, .unset] [(.int (-1 : Int32))]))
  refine own_step (fun t k => XS.istoreN X1.here hx rfl (hb hby d5_8) rfl (l' := #[.val (.ref a1), .val (.int (0 : Int32)), .val (.int (-1 : Int32)), .unset]) rfl k) ?_
  show own_G p.tables e below _ (T1.setTop (mkF m 9 #[.val (.ref a1), .val (.int (0 : Int32)), .val (.int (-1 : Int32)), .unset] []))
  refine own_step (fun t k => XS.iloadN X1.here hx rfl (hb hby d5_9) rfl k) ?_
  show own_G p.tables e below _ (T1.setTop (mkF m 10 #[.val (.ref a1), .val (.int (0 : Int32)), .val (.int (-1 : Int32)), .unset] [(.int (0 : Int32))]))
  refine own_step (fun t k => XS.iloadN X1.here hx rfl (hb hby d5_10) rfl k) ?_
  show own_G p.tables e below _ (T1.setTop (mkF m 11 #[.val (.ref a1), .val (.int (0 : Int32)), .val (.int (-1 : Int32)), .unset] [(.int (-1 : Int32)), (.int (0 : Int32))]))
  have hk2 : ¬ ((0 : Int32) < (-1 : Int32)) := (by decide)
  refine own_step (fun t k => XS.icmpYes X1.here hx rfl (pc0 := 11) (pc' := 49) rfl (hb hby d5_11) rfl ((flt hk2).2.1) (by decide) (by decide) k) ?_
  show own_G p.tables e below _ (T1.setTop (mkF m 49 #[.val (.ref a1), .val (.int (0 : Int32)), .val (.int (-1 : Int32)), .unset] []))
  obtain ⟨fs, hr, hrun, hended, hW, hsame⟩ := X1.leave (v := none) (fun _ => rfl)
  refine own_done (X1.returnOut hx Bd.returns (hb hby d5_49) hr) hrun hended ⟨_, _, rfl, ?_, ⟨_, rfl⟩, hW, hsame.mono (by decide) (by decide)⟩
  show Q5_s0 Z a1 u_ids x0 x1 x2 x3 x4 x5 x6 x7 h0 n0 _ T1.heap _
  rw [e1]
  exact ⟨rfl, N0, rfl⟩
theorem d6_0 : decode prog_70_method_4_code 0 = .ok (.aload_n 0, 1) := by decide +kernel
theorem d6_1 : decode prog_70_method_4_code 1 = .ok (.getfield 13, 3) := by decide +kernel
theorem d6_4 : decode prog_70_method_4_code 4 = .ok (.ireturn, 1) := by decide +kernel
theorem pn_6 : plainName "com/example/same_bytes/samebytes/NodeIds" = true := by first | (simp [plainName, overriddenIn]; done) | decide +kernel
theorem ef_6 (m : MethodId) (a1 : Addr) : entryFrame m #[(.ref a1)] 1 = mkF m 0 #[.val (.ref a1)] [] := by first | (simp [entryFrame, mkF, argsToLocals, Value.category]; done) | rfl
def Q6 (Z : State) (a1 : Addr) (u_size_a1 : Int32) (h0 : Heap) (n0 : Nat) (v : Option Value) (h : Heap) (L : List Loc) : Prop := v = some (.int u_size_a1) ∧ Fr n0 L ∧ h = h0
set_option maxRecDepth 65536 in
set_option maxHeartbeats 40000000 in
theorem rm6 (l : Launch) (Z : State) (a0 : Array Value) (hw : ∀ d ∈ tables_1, d.before a0 Z = true) (ws : List Jvm.Cond) (a1 : Addr) (u_size_a1 : Int32) (h0 : Heap) (n0 : Nat) (Z0 : n0 ≤ h0.size) (fp0 : Fld Z h0 a1 "com/example/same_bytes/samebytes/NodeIds" "size" "I" (.int u_size_a1)) :
    MetFree l (⟨"com/example/same_bytes/samebytes/NodeIds", "size", "()I"⟩ : MethodName) (head1 (Jvm.Cond.code (⟨"com/example/same_bytes/samebytes/NodeIds", "size", "()I"⟩ : MethodName) prog_70_method_4_code 1 (some .int) :: ws) ({ frames := 0, cells := 0, slots := 0, locals := 0 } : Room)) (fun a U => a = #[(.ref a1)] ∧ Z.Warmed39 U.vm ∧ U.heap = h0) (fun _ _ _ _ _ => True) (fun _ U o U' => ∃ v L, o = .returned v ∧ Q6 Z a1 u_size_a1 h0 n0 v U'.heap L ∧ FrameEnd U o U' L ({ frames := 0, cells := 0, slots := 0, locals := 0 } : Room).cells ({ frames := 0, cells := 0, slots := 0, locals := 0 } : Room).slots) := by
  refine MetFree.of_bodySF (plainFor_of_name pn_6) hisR ?_
  intro p e s m args below meth c s₁ Bd hml0 hP hK
  obtain ⟨rfl, hZ, hh⟩ := hP
  have hx := Bd.exec
  have hby := Bd.bytes
  have hml : c.maxLocals = 1 := hml0
  have hown : s.vm.findClass "com/example/same_bytes/samebytes/NodeIds" = some m.cls := findClass_of_methodNamed Bd.named
  have hnm := (name_of_methodNamed Bd.named Bd.method).1
  have X0 : Stand p l e ({ frames := 0, cells := 0, slots := 0, locals := 0 } : Room) s m #[(.ref a1)] below meth c s₁ [] 0 0 := Stand.of_body Bd
  have e0 : s₁.heap = h0 := by rw [← hh, Bd.state]; rfl
  have N0 := Fr.nil n0
  refine own_start (fun t k => castTop (ef_6 m a1) k) ?_
  show own_G p.tables e below _ (s₁.setTop (mkF m 0 #[.val (.ref a1)] []))
  refine own_step (fun t k => XS.aloadN X0.here hx rfl (hb hby d6_0) rfl rfl k) ?_
  show own_G p.tables e below _ (s₁.setTop (mkF m 1 #[.val (.ref a1)] [(.ref a1)]))
  obtain ⟨T1, X1, e1, st1⟩ := getF X0 hx hZ hown (host := "") (Or.inl (hw _ (List.mem_of_getElem? (i := 18) rfl))) Via.refl e0 fp0 (g := (mkF m 1 #[.val (.ref a1)] [(.ref a1)])) rfl rfl (hb hby d6_1)
  refine own_step st1 ?_
  show own_G p.tables e below _ (T1.setTop (mkF m 4 #[.val (.ref a1)] [(.int u_size_a1)]))
  obtain ⟨fs, hr, hrun, hended, hW, hsame⟩ := X1.leave (v := some (.int u_size_a1)) (fun h => by rw [Bd.returns] at h; cases h)
  refine own_done (retI X1 hx Bd.returns (hb hby d6_4) hr) hrun hended ⟨_, _, rfl, ?_, ⟨_, rfl⟩, hW, hsame.mono (by decide) (by decide)⟩
  show Q6 Z a1 u_size_a1 h0 n0 _ T1.heap _
  rw [e1]
  exact ⟨congrArg (fun z => some (Value.int z)) (show u_size_a1 = u_size_a1 from rfl), N0, rfl⟩
theorem d7_0 : decode prog_70_method_6_code 0 = .ok (.aload_n 0, 1) := by decide +kernel
theorem d7_1 : decode prog_70_method_6_code 1 = .ok (.getfield 7, 3) := by decide +kernel
theorem d7_4 : decode prog_70_method_6_code 4 = .ok (.iload_n 1, 1) := by decide +kernel
theorem d7_5 : decode prog_70_method_6_code 5 = .ok (.iaload, 1) := by decide +kernel
theorem d7_6 : decode prog_70_method_6_code 6 = .ok (.ireturn, 1) := by decide +kernel
theorem pn_7 : plainName "com/example/same_bytes/samebytes/NodeIds" = true := by first | (simp [plainName, overriddenIn]; done) | decide +kernel
theorem ef_7 (m : MethodId) (a1 : Addr) (p2 : Int32) : entryFrame m #[(.ref a1), (.int p2)] 2 = mkF m 0 #[.val (.ref a1), .val (.int p2)] [] := by first | (simp [entryFrame, mkF, argsToLocals, Value.category]; done) | rfl
def Q7 (Z : State) (a1 : Addr) (p2 : Int32) (u_ids_a1 : Addr) (vs_u_ids_a1 : List Int32) (h0 : Heap) (n0 : Nat) (v : Option Value) (h : Heap) (L : List Loc) : Prop := v = some (.int (vs_u_ids_a1.getD p2.toNatClampNeg 0)) ∧ Fr n0 L ∧ h = h0
set_option maxRecDepth 65536 in
set_option maxHeartbeats 40000000 in
theorem rm7 (l : Launch) (Z : State) (a0 : Array Value) (hw : ∀ d ∈ tables_1, d.before a0 Z = true) (ws : List Jvm.Cond) (a1 : Addr) (p2 : Int32) (u_ids_a1 : Addr) (vs_u_ids_a1 : List Int32) (h0 : Heap) (n0 : Nat) (Z0 : n0 ≤ h0.size) (fp0 : Fld Z h0 a1 "com/example/same_bytes/samebytes/NodeIds" "ids" "[I" (.ref u_ids_a1)) (fp1 : own_Ari Z h0 u_ids_a1 .int vs_u_ids_a1) (hbb : own_Inb p2 vs_u_ids_a1.length) :
    MetFree l (⟨"com/example/same_bytes/samebytes/NodeIds", "get", "(I)I"⟩ : MethodName) (head1 (Jvm.Cond.code (⟨"com/example/same_bytes/samebytes/NodeIds", "get", "(I)I"⟩ : MethodName) prog_70_method_6_code 2 (some .int) :: ws) ({ frames := 0, cells := 0, slots := 0, locals := 0 } : Room)) (fun a U => a = #[(.ref a1), (.int p2)] ∧ Z.Warmed39 U.vm ∧ U.heap = h0) (fun _ _ _ _ _ => True) (fun _ U o U' => ∃ v L, o = .returned v ∧ Q7 Z a1 p2 u_ids_a1 vs_u_ids_a1 h0 n0 v U'.heap L ∧ FrameEnd U o U' L ({ frames := 0, cells := 0, slots := 0, locals := 0 } : Room).cells ({ frames := 0, cells := 0, slots := 0, locals := 0 } : Room).slots) := by
  refine MetFree.of_bodySF (plainFor_of_name pn_7) hisR ?_
  intro p e s m args below meth c s₁ Bd hml0 hP hK
  obtain ⟨rfl, hZ, hh⟩ := hP
  have hx := Bd.exec
  have hby := Bd.bytes
  have hml : c.maxLocals = 2 := hml0
  have hown : s.vm.findClass "com/example/same_bytes/samebytes/NodeIds" = some m.cls := findClass_of_methodNamed Bd.named
  have hnm := (name_of_methodNamed Bd.named Bd.method).1
  have X0 : Stand p l e ({ frames := 0, cells := 0, slots := 0, locals := 0 } : Room) s m #[(.ref a1), (.int p2)] below meth c s₁ [] 0 0 := Stand.of_body Bd
  have e0 : s₁.heap = h0 := by rw [← hh, Bd.state]; rfl
  have N0 := Fr.nil n0
  refine own_start (fun t k => castTop (ef_7 m a1 p2) k) ?_
  show own_G p.tables e below _ (s₁.setTop (mkF m 0 #[.val (.ref a1), .val (.int p2)] []))
  refine own_step (fun t k => XS.aloadN X0.here hx rfl (hb hby d7_0) rfl rfl k) ?_
  show own_G p.tables e below _ (s₁.setTop (mkF m 1 #[.val (.ref a1), .val (.int p2)] [(.ref a1)]))
  obtain ⟨T1, X1, e1, st1⟩ := getF X0 hx hZ hown (host := "") (Or.inl (hw _ (List.mem_of_getElem? (i := 11) rfl))) Via.refl e0 fp0 (g := (mkF m 1 #[.val (.ref a1), .val (.int p2)] [(.ref a1)])) rfl rfl (hb hby d7_1)
  refine own_step st1 ?_
  show own_G p.tables e below _ (T1.setTop (mkF m 4 #[.val (.ref a1), .val (.int p2)] [(.ref u_ids_a1)]))
  refine own_step (fun t k => XS.iloadN X1.here hx rfl (hb hby d7_4) rfl k) ?_
  show own_G p.tables e below _ (T1.setTop (mkF m 5 #[.val (.ref a1), .val (.int p2)] [(.int p2), (.ref u_ids_a1)]))
  refine own_step (own_iaload X1 hx hZ e1 fp1 hbb (g := (mkF m 5 #[.val (.ref a1), .val (.int p2)] [(.int p2), (.ref u_ids_a1)])) rfl rfl (hb hby d7_5)) ?_
  show own_G p.tables e below _ (T1.setTop (mkF m 6 #[.val (.ref a1), .val (.int p2)] [(.int (vs_u_ids_a1.getD p2.toNatClampNeg 0))]))
  obtain ⟨fs, hr, hrun, hended, hW, hsame⟩ := X1.leave (v := some (.int (vs_u_ids_a1.getD p2.toNatClampNeg 0))) (fun h => by rw [Bd.returns] at h; cases h)
  refine own_done (retI X1 hx Bd.returns (hb hby d7_6) hr) hrun hended ⟨_, _, rfl, ?_, ⟨_, rfl⟩, hW, hsame.mono (by decide) (by decide)⟩
  show Q7 Z a1 p2 u_ids_a1 vs_u_ids_a1 h0 n0 _ T1.heap _
  rw [e1]
  exact ⟨congrArg (fun z => some (Value.int z)) (show (vs_u_ids_a1.getD p2.toNatClampNeg 0) = (vs_u_ids_a1.getD p2.toNatClampNeg 0) from rfl), N0, rfl⟩
theorem d8_0 : decode method_3_code 0 = .ok (.iload_n 2, 1) := by decide +kernel
theorem d8_1 : decode method_3_code 1 = .ok (.iload_n 1, 1) := by decide +kernel
theorem d8_2 : decode method_3_code 2 = .ok (.if_icmp .ge 11, 3) := by decide +kernel
theorem d8_13 : decode method_3_code 13 = .ok (.aload_n 0, 1) := by decide +kernel
theorem d8_14 : decode method_3_code 14 = .ok (.iload_n 2, 1) := by decide +kernel
theorem d8_15 : decode method_3_code 15 = .ok (.iaload, 1) := by decide +kernel
theorem d8_16 : decode method_3_code 16 = .ok (.ireturn, 1) := by decide +kernel
theorem pn_8_e0_0 : plainName "com/example/same_bytes/samebytes/NodeIdsReversePinLaw" = true := by first | (simp [plainName, overriddenIn]; done) | decide +kernel
theorem ef_8_e0_0 (m : MethodId) (a1 : Addr) : entryFrame m #[(.ref a1), (.int (0 : Int32)), (.int (0 : Int32))] 3 = mkF m 0 #[.val (.ref a1), .val (.int (0 : Int32)), .val (.int (0 : Int32))] [] := by first | (simp [entryFrame, mkF, argsToLocals, Value.category]; done) | rfl
def Q8_e0_0 (Z : State) (a1 : Addr) (x0 : Int32) (x1 : Int32) (x2 : Int32) (x3 : Int32) (h0 : Heap) (n0 : Nat) (v : Option Value) (h : Heap) (L : List Loc) : Prop := v = some (.int x0) ∧ Fr n0 L ∧ h = h0
set_option maxRecDepth 65536 in
set_option maxHeartbeats 40000000 in
theorem rm8_e0_0 (l : Launch) (Z : State) (a0 : Array Value) (hw : ∀ d ∈ tables_1, d.before a0 Z = true) (ws : List Jvm.Cond) (a1 : Addr) (x0 : Int32) (x1 : Int32) (x2 : Int32) (x3 : Int32) (h0 : Heap) (n0 : Nat) (Z0 : n0 ≤ h0.size) (fp0 : own_Ari Z h0 a1 .int [x0, x1, x2, x3]) :
    MetFree l (⟨"com/example/same_bytes/samebytes/NodeIdsReversePinLaw", "expect", "([III)I"⟩ : MethodName) (head1 (Jvm.Cond.code (⟨"com/example/same_bytes/samebytes/NodeIdsReversePinLaw", "expect", "([III)I"⟩ : MethodName) method_3_code 3 (some .int) :: ws) ({ frames := 0, cells := 0, slots := 0, locals := 0 } : Room)) (fun a U => a = #[(.ref a1), (.int (0 : Int32)), (.int (0 : Int32))] ∧ Z.Warmed39 U.vm ∧ U.heap = h0) (fun _ _ _ _ _ => True) (fun _ U o U' => ∃ v L, o = .returned v ∧ Q8_e0_0 Z a1 x0 x1 x2 x3 h0 n0 v U'.heap L ∧ FrameEnd U o U' L ({ frames := 0, cells := 0, slots := 0, locals := 0 } : Room).cells ({ frames := 0, cells := 0, slots := 0, locals := 0 } : Room).slots) := by
  refine MetFree.of_bodySF (plainFor_of_name pn_8_e0_0) hisR ?_
  intro p e s m args below meth c s₁ Bd hml0 hP hK
  obtain ⟨rfl, hZ, hh⟩ := hP
  have hx := Bd.exec
  have hby := Bd.bytes
  have hml : c.maxLocals = 3 := hml0
  have hown : s.vm.findClass "com/example/same_bytes/samebytes/NodeIdsReversePinLaw" = some m.cls := findClass_of_methodNamed Bd.named
  have hnm := (name_of_methodNamed Bd.named Bd.method).1
  have X0 : Stand p l e ({ frames := 0, cells := 0, slots := 0, locals := 0 } : Room) s m #[(.ref a1), (.int (0 : Int32)), (.int (0 : Int32))] below meth c s₁ [] 0 0 := Stand.of_body Bd
  have e0 : s₁.heap = h0 := by rw [← hh, Bd.state]; rfl
  have N0 := Fr.nil n0
  refine own_start (fun t k => castTop (ef_8_e0_0 m a1) k) ?_
  show own_G p.tables e below _ (s₁.setTop (mkF m 0 #[.val (.ref a1), .val (.int (0 : Int32)), .val (.int (0 : Int32))] []))
  refine own_step (fun t k => XS.iloadN X0.here hx rfl (hb hby d8_0) rfl k) ?_
  show own_G p.tables e below _ (s₁.setTop (mkF m 1 #[.val (.ref a1), .val (.int (0 : Int32)), .val (.int (0 : Int32))] [(.int (0 : Int32))]))
  refine own_step (fun t k => XS.iloadN X0.here hx rfl (hb hby d8_1) rfl k) ?_
  show own_G p.tables e below _ (s₁.setTop (mkF m 2 #[.val (.ref a1), .val (.int (0 : Int32)), .val (.int (0 : Int32))] [(.int (0 : Int32)), (.int (0 : Int32))]))
  have hk1 : ¬ ((0 : Int32) < (0 : Int32)) := (by decide)
  refine own_step (fun t k => XS.icmpYes X0.here hx rfl (pc0 := 2) (pc' := 13) rfl (hb hby d8_2) rfl ((flt hk1).2.1) (by decide) (by decide) k) ?_
  show own_G p.tables e below _ (s₁.setTop (mkF m 13 #[.val (.ref a1), .val (.int (0 : Int32)), .val (.int (0 : Int32))] []))
  refine own_step (fun t k => XS.aloadN X0.here hx rfl (hb hby d8_13) rfl rfl k) ?_
  show own_G p.tables e below _ (s₁.setTop (mkF m 14 #[.val (.ref a1), .val (.int (0 : Int32)), .val (.int (0 : Int32))] [(.ref a1)]))
  refine own_step (fun t k => XS.iloadN X0.here hx rfl (hb hby d8_14) rfl k) ?_
  show own_G p.tables e below _ (s₁.setTop (mkF m 15 #[.val (.ref a1), .val (.int (0 : Int32)), .val (.int (0 : Int32))] [(.int (0 : Int32)), (.ref a1)]))
  refine own_step (own_iaload X0 hx hZ e0 fp0 (own_inb (by decide) (Nat.le_of_ble_eq_true rfl)) (g := (mkF m 15 #[.val (.ref a1), .val (.int (0 : Int32)), .val (.int (0 : Int32))] [(.int (0 : Int32)), (.ref a1)])) rfl rfl (hb hby d8_15)) ?_
  show own_G p.tables e below _ (s₁.setTop (mkF m 16 #[.val (.ref a1), .val (.int (0 : Int32)), .val (.int (0 : Int32))] [(.int x0)]))
  obtain ⟨fs, hr, hrun, hended, hW, hsame⟩ := X0.leave (v := some (.int x0)) (fun h => by rw [Bd.returns] at h; cases h)
  refine own_done (retI X0 hx Bd.returns (hb hby d8_16) hr) hrun hended ⟨_, _, rfl, ?_, ⟨_, rfl⟩, hW, hsame.mono (by decide) (by decide)⟩
  show Q8_e0_0 Z a1 x0 x1 x2 x3 h0 n0 _ s₁.heap _
  rw [e0]
  exact ⟨congrArg (fun z => some (Value.int z)) (show x0 = x0 from rfl), N0, rfl⟩
theorem pn_8_e0_1 : plainName "com/example/same_bytes/samebytes/NodeIdsReversePinLaw" = true := by first | (simp [plainName, overriddenIn]; done) | decide +kernel
theorem ef_8_e0_1 (m : MethodId) (a1 : Addr) : entryFrame m #[(.ref a1), (.int (0 : Int32)), (.int (1 : Int32))] 3 = mkF m 0 #[.val (.ref a1), .val (.int (0 : Int32)), .val (.int (1 : Int32))] [] := by first | (simp [entryFrame, mkF, argsToLocals, Value.category]; done) | rfl
def Q8_e0_1 (Z : State) (a1 : Addr) (x0 : Int32) (x1 : Int32) (x2 : Int32) (x3 : Int32) (h0 : Heap) (n0 : Nat) (v : Option Value) (h : Heap) (L : List Loc) : Prop := v = some (.int x1) ∧ Fr n0 L ∧ h = h0
set_option maxRecDepth 65536 in
set_option maxHeartbeats 40000000 in
theorem rm8_e0_1 (l : Launch) (Z : State) (a0 : Array Value) (hw : ∀ d ∈ tables_1, d.before a0 Z = true) (ws : List Jvm.Cond) (a1 : Addr) (x0 : Int32) (x1 : Int32) (x2 : Int32) (x3 : Int32) (h0 : Heap) (n0 : Nat) (Z0 : n0 ≤ h0.size) (fp0 : own_Ari Z h0 a1 .int [x0, x1, x2, x3]) :
    MetFree l (⟨"com/example/same_bytes/samebytes/NodeIdsReversePinLaw", "expect", "([III)I"⟩ : MethodName) (head1 (Jvm.Cond.code (⟨"com/example/same_bytes/samebytes/NodeIdsReversePinLaw", "expect", "([III)I"⟩ : MethodName) method_3_code 3 (some .int) :: ws) ({ frames := 0, cells := 0, slots := 0, locals := 0 } : Room)) (fun a U => a = #[(.ref a1), (.int (0 : Int32)), (.int (1 : Int32))] ∧ Z.Warmed39 U.vm ∧ U.heap = h0) (fun _ _ _ _ _ => True) (fun _ U o U' => ∃ v L, o = .returned v ∧ Q8_e0_1 Z a1 x0 x1 x2 x3 h0 n0 v U'.heap L ∧ FrameEnd U o U' L ({ frames := 0, cells := 0, slots := 0, locals := 0 } : Room).cells ({ frames := 0, cells := 0, slots := 0, locals := 0 } : Room).slots) := by
  refine MetFree.of_bodySF (plainFor_of_name pn_8_e0_1) hisR ?_
  intro p e s m args below meth c s₁ Bd hml0 hP hK
  obtain ⟨rfl, hZ, hh⟩ := hP
  have hx := Bd.exec
  have hby := Bd.bytes
  have hml : c.maxLocals = 3 := hml0
  have hown : s.vm.findClass "com/example/same_bytes/samebytes/NodeIdsReversePinLaw" = some m.cls := findClass_of_methodNamed Bd.named
  have hnm := (name_of_methodNamed Bd.named Bd.method).1
  have X0 : Stand p l e ({ frames := 0, cells := 0, slots := 0, locals := 0 } : Room) s m #[(.ref a1), (.int (0 : Int32)), (.int (1 : Int32))] below meth c s₁ [] 0 0 := Stand.of_body Bd
  have e0 : s₁.heap = h0 := by rw [← hh, Bd.state]; rfl
  have N0 := Fr.nil n0
  refine own_start (fun t k => castTop (ef_8_e0_1 m a1) k) ?_
  show own_G p.tables e below _ (s₁.setTop (mkF m 0 #[.val (.ref a1), .val (.int (0 : Int32)), .val (.int (1 : Int32))] []))
  refine own_step (fun t k => XS.iloadN X0.here hx rfl (hb hby d8_0) rfl k) ?_
  show own_G p.tables e below _ (s₁.setTop (mkF m 1 #[.val (.ref a1), .val (.int (0 : Int32)), .val (.int (1 : Int32))] [(.int (1 : Int32))]))
  refine own_step (fun t k => XS.iloadN X0.here hx rfl (hb hby d8_1) rfl k) ?_
  show own_G p.tables e below _ (s₁.setTop (mkF m 2 #[.val (.ref a1), .val (.int (0 : Int32)), .val (.int (1 : Int32))] [(.int (0 : Int32)), (.int (1 : Int32))]))
  have hk1 : ¬ ((1 : Int32) < (0 : Int32)) := (by decide)
  refine own_step (fun t k => XS.icmpYes X0.here hx rfl (pc0 := 2) (pc' := 13) rfl (hb hby d8_2) rfl ((flt hk1).2.1) (by decide) (by decide) k) ?_
  show own_G p.tables e below _ (s₁.setTop (mkF m 13 #[.val (.ref a1), .val (.int (0 : Int32)), .val (.int (1 : Int32))] []))
  refine own_step (fun t k => XS.aloadN X0.here hx rfl (hb hby d8_13) rfl rfl k) ?_
  show own_G p.tables e below _ (s₁.setTop (mkF m 14 #[.val (.ref a1), .val (.int (0 : Int32)), .val (.int (1 : Int32))] [(.ref a1)]))
  refine own_step (fun t k => XS.iloadN X0.here hx rfl (hb hby d8_14) rfl k) ?_
  show own_G p.tables e below _ (s₁.setTop (mkF m 15 #[.val (.ref a1), .val (.int (0 : Int32)), .val (.int (1 : Int32))] [(.int (1 : Int32)), (.ref a1)]))
  refine own_step (own_iaload X0 hx hZ e0 fp0 (own_inb (by decide) (Nat.le_of_ble_eq_true rfl)) (g := (mkF m 15 #[.val (.ref a1), .val (.int (0 : Int32)), .val (.int (1 : Int32))] [(.int (1 : Int32)), (.ref a1)])) rfl rfl (hb hby d8_15)) ?_
  show own_G p.tables e below _ (s₁.setTop (mkF m 16 #[.val (.ref a1), .val (.int (0 : Int32)), .val (.int (1 : Int32))] [(.int x1)]))
  obtain ⟨fs, hr, hrun, hended, hW, hsame⟩ := X0.leave (v := some (.int x1)) (fun h => by rw [Bd.returns] at h; cases h)
  refine own_done (retI X0 hx Bd.returns (hb hby d8_16) hr) hrun hended ⟨_, _, rfl, ?_, ⟨_, rfl⟩, hW, hsame.mono (by decide) (by decide)⟩
  show Q8_e0_1 Z a1 x0 x1 x2 x3 h0 n0 _ s₁.heap _
  rw [e0]
  exact ⟨congrArg (fun z => some (Value.int z)) (show x1 = x1 from rfl), N0, rfl⟩
theorem pn_8_e0_2 : plainName "com/example/same_bytes/samebytes/NodeIdsReversePinLaw" = true := by first | (simp [plainName, overriddenIn]; done) | decide +kernel
theorem ef_8_e0_2 (m : MethodId) (a1 : Addr) : entryFrame m #[(.ref a1), (.int (0 : Int32)), (.int (2 : Int32))] 3 = mkF m 0 #[.val (.ref a1), .val (.int (0 : Int32)), .val (.int (2 : Int32))] [] := by first | (simp [entryFrame, mkF, argsToLocals, Value.category]; done) | rfl
def Q8_e0_2 (Z : State) (a1 : Addr) (x0 : Int32) (x1 : Int32) (x2 : Int32) (x3 : Int32) (h0 : Heap) (n0 : Nat) (v : Option Value) (h : Heap) (L : List Loc) : Prop := v = some (.int x2) ∧ Fr n0 L ∧ h = h0
set_option maxRecDepth 65536 in
set_option maxHeartbeats 40000000 in
theorem rm8_e0_2 (l : Launch) (Z : State) (a0 : Array Value) (hw : ∀ d ∈ tables_1, d.before a0 Z = true) (ws : List Jvm.Cond) (a1 : Addr) (x0 : Int32) (x1 : Int32) (x2 : Int32) (x3 : Int32) (h0 : Heap) (n0 : Nat) (Z0 : n0 ≤ h0.size) (fp0 : own_Ari Z h0 a1 .int [x0, x1, x2, x3]) :
    MetFree l (⟨"com/example/same_bytes/samebytes/NodeIdsReversePinLaw", "expect", "([III)I"⟩ : MethodName) (head1 (Jvm.Cond.code (⟨"com/example/same_bytes/samebytes/NodeIdsReversePinLaw", "expect", "([III)I"⟩ : MethodName) method_3_code 3 (some .int) :: ws) ({ frames := 0, cells := 0, slots := 0, locals := 0 } : Room)) (fun a U => a = #[(.ref a1), (.int (0 : Int32)), (.int (2 : Int32))] ∧ Z.Warmed39 U.vm ∧ U.heap = h0) (fun _ _ _ _ _ => True) (fun _ U o U' => ∃ v L, o = .returned v ∧ Q8_e0_2 Z a1 x0 x1 x2 x3 h0 n0 v U'.heap L ∧ FrameEnd U o U' L ({ frames := 0, cells := 0, slots := 0, locals := 0 } : Room).cells ({ frames := 0, cells := 0, slots := 0, locals := 0 } : Room).slots) := by
  refine MetFree.of_bodySF (plainFor_of_name pn_8_e0_2) hisR ?_
  intro p e s m args below meth c s₁ Bd hml0 hP hK
  obtain ⟨rfl, hZ, hh⟩ := hP
  have hx := Bd.exec
  have hby := Bd.bytes
  have hml : c.maxLocals = 3 := hml0
  have hown : s.vm.findClass "com/example/same_bytes/samebytes/NodeIdsReversePinLaw" = some m.cls := findClass_of_methodNamed Bd.named
  have hnm := (name_of_methodNamed Bd.named Bd.method).1
  have X0 : Stand p l e ({ frames := 0, cells := 0, slots := 0, locals := 0 } : Room) s m #[(.ref a1), (.int (0 : Int32)), (.int (2 : Int32))] below meth c s₁ [] 0 0 := Stand.of_body Bd
  have e0 : s₁.heap = h0 := by rw [← hh, Bd.state]; rfl
  have N0 := Fr.nil n0
  refine own_start (fun t k => castTop (ef_8_e0_2 m a1) k) ?_
  show own_G p.tables e below _ (s₁.setTop (mkF m 0 #[.val (.ref a1), .val (.int (0 : Int32)), .val (.int (2 : Int32))] []))
  refine own_step (fun t k => XS.iloadN X0.here hx rfl (hb hby d8_0) rfl k) ?_
  show own_G p.tables e below _ (s₁.setTop (mkF m 1 #[.val (.ref a1), .val (.int (0 : Int32)), .val (.int (2 : Int32))] [(.int (2 : Int32))]))
  refine own_step (fun t k => XS.iloadN X0.here hx rfl (hb hby d8_1) rfl k) ?_
  show own_G p.tables e below _ (s₁.setTop (mkF m 2 #[.val (.ref a1), .val (.int (0 : Int32)), .val (.int (2 : Int32))] [(.int (0 : Int32)), (.int (2 : Int32))]))
  have hk1 : ¬ ((2 : Int32) < (0 : Int32)) := (by decide)
  refine own_step (fun t k => XS.icmpYes X0.here hx rfl (pc0 := 2) (pc' := 13) rfl (hb hby d8_2) rfl ((flt hk1).2.1) (by decide) (by decide) k) ?_
  show own_G p.tables e below _ (s₁.setTop (mkF m 13 #[.val (.ref a1), .val (.int (0 : Int32)), .val (.int (2 : Int32))] []))
  refine own_step (fun t k => XS.aloadN X0.here hx rfl (hb hby d8_13) rfl rfl k) ?_
  show own_G p.tables e below _ (s₁.setTop (mkF m 14 #[.val (.ref a1), .val (.int (0 : Int32)), .val (.int (2 : Int32))] [(.ref a1)]))
  refine own_step (fun t k => XS.iloadN X0.here hx rfl (hb hby d8_14) rfl k) ?_
  show own_G p.tables e below _ (s₁.setTop (mkF m 15 #[.val (.ref a1), .val (.int (0 : Int32)), .val (.int (2 : Int32))] [(.int (2 : Int32)), (.ref a1)]))
  refine own_step (own_iaload X0 hx hZ e0 fp0 (own_inb (by decide) (Nat.le_of_ble_eq_true rfl)) (g := (mkF m 15 #[.val (.ref a1), .val (.int (0 : Int32)), .val (.int (2 : Int32))] [(.int (2 : Int32)), (.ref a1)])) rfl rfl (hb hby d8_15)) ?_
  show own_G p.tables e below _ (s₁.setTop (mkF m 16 #[.val (.ref a1), .val (.int (0 : Int32)), .val (.int (2 : Int32))] [(.int x2)]))
  obtain ⟨fs, hr, hrun, hended, hW, hsame⟩ := X0.leave (v := some (.int x2)) (fun h => by rw [Bd.returns] at h; cases h)
  refine own_done (retI X0 hx Bd.returns (hb hby d8_16) hr) hrun hended ⟨_, _, rfl, ?_, ⟨_, rfl⟩, hW, hsame.mono (by decide) (by decide)⟩
  show Q8_e0_2 Z a1 x0 x1 x2 x3 h0 n0 _ s₁.heap _
  rw [e0]
  exact ⟨congrArg (fun z => some (Value.int z)) (show x2 = x2 from rfl), N0, rfl⟩
theorem pn_8_e0_3 : plainName "com/example/same_bytes/samebytes/NodeIdsReversePinLaw" = true := by first | (simp [plainName, overriddenIn]; done) | decide +kernel
theorem ef_8_e0_3 (m : MethodId) (a1 : Addr) : entryFrame m #[(.ref a1), (.int (0 : Int32)), (.int (3 : Int32))] 3 = mkF m 0 #[.val (.ref a1), .val (.int (0 : Int32)), .val (.int (3 : Int32))] [] := by first | (simp [entryFrame, mkF, argsToLocals, Value.category]; done) | rfl
def Q8_e0_3 (Z : State) (a1 : Addr) (x0 : Int32) (x1 : Int32) (x2 : Int32) (x3 : Int32) (h0 : Heap) (n0 : Nat) (v : Option Value) (h : Heap) (L : List Loc) : Prop := v = some (.int x3) ∧ Fr n0 L ∧ h = h0
set_option maxRecDepth 65536 in
set_option maxHeartbeats 40000000 in
theorem rm8_e0_3 (l : Launch) (Z : State) (a0 : Array Value) (hw : ∀ d ∈ tables_1, d.before a0 Z = true) (ws : List Jvm.Cond) (a1 : Addr) (x0 : Int32) (x1 : Int32) (x2 : Int32) (x3 : Int32) (h0 : Heap) (n0 : Nat) (Z0 : n0 ≤ h0.size) (fp0 : own_Ari Z h0 a1 .int [x0, x1, x2, x3]) :
    MetFree l (⟨"com/example/same_bytes/samebytes/NodeIdsReversePinLaw", "expect", "([III)I"⟩ : MethodName) (head1 (Jvm.Cond.code (⟨"com/example/same_bytes/samebytes/NodeIdsReversePinLaw", "expect", "([III)I"⟩ : MethodName) method_3_code 3 (some .int) :: ws) ({ frames := 0, cells := 0, slots := 0, locals := 0 } : Room)) (fun a U => a = #[(.ref a1), (.int (0 : Int32)), (.int (3 : Int32))] ∧ Z.Warmed39 U.vm ∧ U.heap = h0) (fun _ _ _ _ _ => True) (fun _ U o U' => ∃ v L, o = .returned v ∧ Q8_e0_3 Z a1 x0 x1 x2 x3 h0 n0 v U'.heap L ∧ FrameEnd U o U' L ({ frames := 0, cells := 0, slots := 0, locals := 0 } : Room).cells ({ frames := 0, cells := 0, slots := 0, locals := 0 } : Room).slots) := by
  refine MetFree.of_bodySF (plainFor_of_name pn_8_e0_3) hisR ?_
  intro p e s m args below meth c s₁ Bd hml0 hP hK
  obtain ⟨rfl, hZ, hh⟩ := hP
  have hx := Bd.exec
  have hby := Bd.bytes
  have hml : c.maxLocals = 3 := hml0
  have hown : s.vm.findClass "com/example/same_bytes/samebytes/NodeIdsReversePinLaw" = some m.cls := findClass_of_methodNamed Bd.named
  have hnm := (name_of_methodNamed Bd.named Bd.method).1
  have X0 : Stand p l e ({ frames := 0, cells := 0, slots := 0, locals := 0 } : Room) s m #[(.ref a1), (.int (0 : Int32)), (.int (3 : Int32))] below meth c s₁ [] 0 0 := Stand.of_body Bd
  have e0 : s₁.heap = h0 := by rw [← hh, Bd.state]; rfl
  have N0 := Fr.nil n0
  refine own_start (fun t k => castTop (ef_8_e0_3 m a1) k) ?_
  show own_G p.tables e below _ (s₁.setTop (mkF m 0 #[.val (.ref a1), .val (.int (0 : Int32)), .val (.int (3 : Int32))] []))
  refine own_step (fun t k => XS.iloadN X0.here hx rfl (hb hby d8_0) rfl k) ?_
  show own_G p.tables e below _ (s₁.setTop (mkF m 1 #[.val (.ref a1), .val (.int (0 : Int32)), .val (.int (3 : Int32))] [(.int (3 : Int32))]))
  refine own_step (fun t k => XS.iloadN X0.here hx rfl (hb hby d8_1) rfl k) ?_
  show own_G p.tables e below _ (s₁.setTop (mkF m 2 #[.val (.ref a1), .val (.int (0 : Int32)), .val (.int (3 : Int32))] [(.int (0 : Int32)), (.int (3 : Int32))]))
  have hk1 : ¬ ((3 : Int32) < (0 : Int32)) := (by decide)
  refine own_step (fun t k => XS.icmpYes X0.here hx rfl (pc0 := 2) (pc' := 13) rfl (hb hby d8_2) rfl ((flt hk1).2.1) (by decide) (by decide) k) ?_
  show own_G p.tables e below _ (s₁.setTop (mkF m 13 #[.val (.ref a1), .val (.int (0 : Int32)), .val (.int (3 : Int32))] []))
  refine own_step (fun t k => XS.aloadN X0.here hx rfl (hb hby d8_13) rfl rfl k) ?_
  show own_G p.tables e below _ (s₁.setTop (mkF m 14 #[.val (.ref a1), .val (.int (0 : Int32)), .val (.int (3 : Int32))] [(.ref a1)]))
  refine own_step (fun t k => XS.iloadN X0.here hx rfl (hb hby d8_14) rfl k) ?_
  show own_G p.tables e below _ (s₁.setTop (mkF m 15 #[.val (.ref a1), .val (.int (0 : Int32)), .val (.int (3 : Int32))] [(.int (3 : Int32)), (.ref a1)]))
  refine own_step (own_iaload X0 hx hZ e0 fp0 (own_inb (by decide) (Nat.le_of_ble_eq_true rfl)) (g := (mkF m 15 #[.val (.ref a1), .val (.int (0 : Int32)), .val (.int (3 : Int32))] [(.int (3 : Int32)), (.ref a1)])) rfl rfl (hb hby d8_15)) ?_
  show own_G p.tables e below _ (s₁.setTop (mkF m 16 #[.val (.ref a1), .val (.int (0 : Int32)), .val (.int (3 : Int32))] [(.int x3)]))
  obtain ⟨fs, hr, hrun, hended, hW, hsame⟩ := X0.leave (v := some (.int x3)) (fun h => by rw [Bd.returns] at h; cases h)
  refine own_done (retI X0 hx Bd.returns (hb hby d8_16) hr) hrun hended ⟨_, _, rfl, ?_, ⟨_, rfl⟩, hW, hsame.mono (by decide) (by decide)⟩
  show Q8_e0_3 Z a1 x0 x1 x2 x3 h0 n0 _ s₁.heap _
  rw [e0]
  exact ⟨congrArg (fun z => some (Value.int z)) (show x3 = x3 from rfl), N0, rfl⟩
theorem pn_5_s1 : plainName "com/example/same_bytes/samebytes/NodeIds" = true := by first | (simp [plainName, overriddenIn]; done) | decide +kernel
theorem ef_5_s1 (m : MethodId) (a1 : Addr) : entryFrame m #[(.ref a1)] 4 = mkF m 0 #[.val (.ref a1), .unset, .unset, .unset] [] := by first | (simp [entryFrame, mkF, argsToLocals, Value.category]; done) | rfl
def Q5_s1 (Z : State) (a1 : Addr) (u_ids : Addr) (x0 : Int32) (x1 : Int32) (x2 : Int32) (x3 : Int32) (x4 : Int32) (x5 : Int32) (x6 : Int32) (x7 : Int32) (h0 : Heap) (n0 : Nat) (v : Option Value) (h : Heap) (L : List Loc) : Prop := v = none ∧ Fr n0 L ∧ h = h0
set_option maxRecDepth 65536 in
set_option maxHeartbeats 40000000 in
theorem rm5_s1 (l : Launch) (Z : State) (a0 : Array Value) (hw : ∀ d ∈ tables_1, d.before a0 Z = true) (ws : List Jvm.Cond) (a1 : Addr) (u_ids : Addr) (x0 : Int32) (x1 : Int32) (x2 : Int32) (x3 : Int32) (x4 : Int32) (x5 : Int32) (x6 : Int32) (x7 : Int32) (h0 : Heap) (n0 : Nat) (Z0 : n0 ≤ h0.size) (fp0 : Exa Z h0 a1 "com/example/same_bytes/samebytes/NodeIds") (fp1 : Fld Z h0 a1 "com/example/same_bytes/samebytes/NodeIds" "size" "I" (.int (1 : Int32))) (fp2 : Fld Z h0 a1 "com/example/same_bytes/samebytes/NodeIds" "ids" "[I" (.ref u_ids)) (fp3 : own_Ari Z h0 u_ids .int [x0, x1, x2, x3, x4, x5, x6, x7]) :
    MetFree l (⟨"com/example/same_bytes/samebytes/NodeIds", "reverse", "()V"⟩ : MethodName) (head1 (Jvm.Cond.code (⟨"com/example/same_bytes/samebytes/NodeIds", "reverse", "()V"⟩ : MethodName) prog_70_method_12_code 4 none :: ws) ({ frames := 0, cells := 0, slots := 0, locals := 0 } : Room)) (fun a U => a = #[(.ref a1)] ∧ Z.Warmed39 U.vm ∧ U.heap = h0) (fun _ _ _ _ _ => True) (fun _ U o U' => ∃ v L, o = .returned v ∧ Q5_s1 Z a1 u_ids x0 x1 x2 x3 x4 x5 x6 x7 h0 n0 v U'.heap L ∧ FrameEnd U o U' L ({ frames := 0, cells := 0, slots := 0, locals := 0 } : Room).cells ({ frames := 0, cells := 0, slots := 0, locals := 0 } : Room).slots) := by
  refine MetFree.of_bodySF (plainFor_of_name pn_5_s1) hisR ?_
  intro p e s m args below meth c s₁ Bd hml0 hP hK
  obtain ⟨rfl, hZ, hh⟩ := hP
  have hx := Bd.exec
  have hby := Bd.bytes
  have hml : c.maxLocals = 4 := hml0
  have hown : s.vm.findClass "com/example/same_bytes/samebytes/NodeIds" = some m.cls := findClass_of_methodNamed Bd.named
  have hnm := (name_of_methodNamed Bd.named Bd.method).1
  have X0 : Stand p l e ({ frames := 0, cells := 0, slots := 0, locals := 0 } : Room) s m #[(.ref a1)] below meth c s₁ [] 0 0 := Stand.of_body Bd
  have e0 : s₁.heap = h0 := by rw [← hh, Bd.state]; rfl
  have N0 := Fr.nil n0
  refine own_start (fun t k => castTop (ef_5_s1 m a1) k) ?_
  show own_G p.tables e below _ (s₁.setTop (mkF m 0 #[.val (.ref a1), .unset, .unset, .unset] []))
  refine own_step (fun t k => XS.iconst X0.here hx rfl (hb hby d5_0) k) ?_
  show own_G p.tables e below _ (s₁.setTop (mkF m 1 #[.val (.ref a1), .unset, .unset, .unset] [(.int (0 : Int32))]))
  refine own_step (fun t k => XS.istoreN X0.here hx rfl (hb hby d5_1) rfl (l' := #[.val (.ref a1), .val (.int (0 : Int32)), .unset, .unset]) rfl k) ?_
  show own_G p.tables e below _ (s₁.setTop (mkF m 2 #[.val (.ref a1), .val (.int (0 : Int32)), .unset, .unset] []))
  refine own_step (fun t k => XS.aloadN X0.here hx rfl (hb hby d5_2) rfl rfl k) ?_
  show own_G p.tables e below _ (s₁.setTop (mkF m 3 #[.val (.ref a1), .val (.int (0 : Int32)), .unset, .unset] [(.ref a1)]))
  obtain ⟨T1, X1, e1, st1⟩ := getF X0 hx hZ hown (host := "") (Or.inl (hw _ (List.mem_of_getElem? (i := 18) rfl))) Via.refl e0 fp1 (g := (mkF m 3 #[.val (.ref a1), .val (.int (0 : Int32)), .unset, .unset] [(.ref a1)])) rfl rfl (hb hby d5_3)
  refine own_step st1 ?_
  show own_G p.tables e below _ (T1.setTop (mkF m 6 #[.val (.ref a1), .val (.int (0 : Int32)), .unset, .unset] [(.int (1 : Int32))]))
  refine own_step (fun t k => XS.iconst X1.here hx rfl (hb hby d5_6) k) ?_
  show own_G p.tables e below _ (T1.setTop (mkF m 7 #[.val (.ref a1), .val (.int (0 : Int32)), .unset, .unset] [(.int (1 : Int32)), (.int (1 : Int32))]))
  refine own_step (fun t k => XS.isub X1.here hx rfl (hb hby d5_7) rfl k) ?_
  show own_G p.tables e below _ (T1.setTop (mkF m 8 #[.val (.ref a1), .val (.int (0 : Int32)), .unset, .unset] [(.int (0 : Int32))]))
  refine own_step (fun t k => XS.istoreN X1.here hx rfl (hb hby d5_8) rfl (l' := #[.val (.ref a1), .val (.int (0 : Int32)), .val (.int (0 : Int32)), .unset]) rfl k) ?_
  show own_G p.tables e below _ (T1.setTop (mkF m 9 #[.val (.ref a1), .val (.int (0 : Int32)), .val (.int (0 : Int32)), .unset] []))
  refine own_step (fun t k => XS.iloadN X1.here hx rfl (hb hby d5_9) rfl k) ?_
  show own_G p.tables e below _ (T1.setTop (mkF m 10 #[.val (.ref a1), .val (.int (0 : Int32)), .val (.int (0 : Int32)), .unset] [(.int (0 : Int32))]))
  refine own_step (fun t k => XS.iloadN X1.here hx rfl (hb hby d5_10) rfl k) ?_
  show own_G p.tables e below _ (T1.setTop (mkF m 11 #[.val (.ref a1), .val (.int (0 : Int32)), .val (.int (0 : Int32)), .unset] [(.int (0 : Int32)), (.int (0 : Int32))]))
  have hk2 : ¬ ((0 : Int32) < (0 : Int32)) := (by decide)
  refine own_step (fun t k => XS.icmpYes X1.here hx rfl (pc0 := 11) (pc' := 49) rfl (hb hby d5_11) rfl ((flt hk2).2.1) (by decide) (by decide) k) ?_
  show own_G p.tables e below _ (T1.setTop (mkF m 49 #[.val (.ref a1), .val (.int (0 : Int32)), .val (.int (0 : Int32)), .unset] []))
  obtain ⟨fs, hr, hrun, hended, hW, hsame⟩ := X1.leave (v := none) (fun _ => rfl)
  refine own_done (X1.returnOut hx Bd.returns (hb hby d5_49) hr) hrun hended ⟨_, _, rfl, ?_, ⟨_, rfl⟩, hW, hsame.mono (by decide) (by decide)⟩
  show Q5_s1 Z a1 u_ids x0 x1 x2 x3 x4 x5 x6 x7 h0 n0 _ T1.heap _
  rw [e1]
  exact ⟨rfl, N0, rfl⟩
theorem d8_5 : decode method_3_code 5 = .ok (.aload_n 0, 1) := by decide +kernel
theorem d8_6 : decode method_3_code 6 = .ok (.iload_n 1, 1) := by decide +kernel
theorem d8_7 : decode method_3_code 7 = .ok (.iconst 1, 1) := by decide +kernel
theorem d8_8 : decode method_3_code 8 = .ok (.isub, 1) := by decide +kernel
theorem d8_9 : decode method_3_code 9 = .ok (.iload_n 2, 1) := by decide +kernel
theorem d8_10 : decode method_3_code 10 = .ok (.isub, 1) := by decide +kernel
theorem d8_11 : decode method_3_code 11 = .ok (.iaload, 1) := by decide +kernel
theorem d8_12 : decode method_3_code 12 = .ok (.ireturn, 1) := by decide +kernel
theorem pn_8_e1_0 : plainName "com/example/same_bytes/samebytes/NodeIdsReversePinLaw" = true := by first | (simp [plainName, overriddenIn]; done) | decide +kernel
theorem ef_8_e1_0 (m : MethodId) (a1 : Addr) : entryFrame m #[(.ref a1), (.int (1 : Int32)), (.int (0 : Int32))] 3 = mkF m 0 #[.val (.ref a1), .val (.int (1 : Int32)), .val (.int (0 : Int32))] [] := by first | (simp [entryFrame, mkF, argsToLocals, Value.category]; done) | rfl
def Q8_e1_0 (Z : State) (a1 : Addr) (x0 : Int32) (x1 : Int32) (x2 : Int32) (x3 : Int32) (h0 : Heap) (n0 : Nat) (v : Option Value) (h : Heap) (L : List Loc) : Prop := v = some (.int x0) ∧ Fr n0 L ∧ h = h0
set_option maxRecDepth 65536 in
set_option maxHeartbeats 40000000 in
theorem rm8_e1_0 (l : Launch) (Z : State) (a0 : Array Value) (hw : ∀ d ∈ tables_1, d.before a0 Z = true) (ws : List Jvm.Cond) (a1 : Addr) (x0 : Int32) (x1 : Int32) (x2 : Int32) (x3 : Int32) (h0 : Heap) (n0 : Nat) (Z0 : n0 ≤ h0.size) (fp0 : own_Ari Z h0 a1 .int [x0, x1, x2, x3]) :
    MetFree l (⟨"com/example/same_bytes/samebytes/NodeIdsReversePinLaw", "expect", "([III)I"⟩ : MethodName) (head1 (Jvm.Cond.code (⟨"com/example/same_bytes/samebytes/NodeIdsReversePinLaw", "expect", "([III)I"⟩ : MethodName) method_3_code 3 (some .int) :: ws) ({ frames := 0, cells := 0, slots := 0, locals := 0 } : Room)) (fun a U => a = #[(.ref a1), (.int (1 : Int32)), (.int (0 : Int32))] ∧ Z.Warmed39 U.vm ∧ U.heap = h0) (fun _ _ _ _ _ => True) (fun _ U o U' => ∃ v L, o = .returned v ∧ Q8_e1_0 Z a1 x0 x1 x2 x3 h0 n0 v U'.heap L ∧ FrameEnd U o U' L ({ frames := 0, cells := 0, slots := 0, locals := 0 } : Room).cells ({ frames := 0, cells := 0, slots := 0, locals := 0 } : Room).slots) := by
  refine MetFree.of_bodySF (plainFor_of_name pn_8_e1_0) hisR ?_
  intro p e s m args below meth c s₁ Bd hml0 hP hK
  obtain ⟨rfl, hZ, hh⟩ := hP
  have hx := Bd.exec
  have hby := Bd.bytes
  have hml : c.maxLocals = 3 := hml0
  have hown : s.vm.findClass "com/example/same_bytes/samebytes/NodeIdsReversePinLaw" = some m.cls := findClass_of_methodNamed Bd.named
  have hnm := (name_of_methodNamed Bd.named Bd.method).1
  have X0 : Stand p l e ({ frames := 0, cells := 0, slots := 0, locals := 0 } : Room) s m #[(.ref a1), (.int (1 : Int32)), (.int (0 : Int32))] below meth c s₁ [] 0 0 := Stand.of_body Bd
  have e0 : s₁.heap = h0 := by rw [← hh, Bd.state]; rfl
  have N0 := Fr.nil n0
  refine own_start (fun t k => castTop (ef_8_e1_0 m a1) k) ?_
  show own_G p.tables e below _ (s₁.setTop (mkF m 0 #[.val (.ref a1), .val (.int (1 : Int32)), .val (.int (0 : Int32))] []))
  refine own_step (fun t k => XS.iloadN X0.here hx rfl (hb hby d8_0) rfl k) ?_
  show own_G p.tables e below _ (s₁.setTop (mkF m 1 #[.val (.ref a1), .val (.int (1 : Int32)), .val (.int (0 : Int32))] [(.int (0 : Int32))]))
  refine own_step (fun t k => XS.iloadN X0.here hx rfl (hb hby d8_1) rfl k) ?_
  show own_G p.tables e below _ (s₁.setTop (mkF m 2 #[.val (.ref a1), .val (.int (1 : Int32)), .val (.int (0 : Int32))] [(.int (1 : Int32)), (.int (0 : Int32))]))
  have hk1 : (0 : Int32) < (1 : Int32) := (by decide)
  refine own_step (fun t k => XS.icmpNo X0.here hx rfl (hb hby d8_2) rfl ((tlt hk1).2.1) k) ?_
  show own_G p.tables e below _ (s₁.setTop (mkF m 5 #[.val (.ref a1), .val (.int (1 : Int32)), .val (.int (0 : Int32))] []))
  refine own_step (fun t k => XS.aloadN X0.here hx rfl (hb hby d8_5) rfl rfl k) ?_
  show own_G p.tables e below _ (s₁.setTop (mkF m 6 #[.val (.ref a1), .val (.int (1 : Int32)), .val (.int (0 : Int32))] [(.ref a1)]))
  refine own_step (fun t k => XS.iloadN X0.here hx rfl (hb hby d8_6) rfl k) ?_
  show own_G p.tables e below _ (s₁.setTop (mkF m 7 #[.val (.ref a1), .val (.int (1 : Int32)), .val (.int (0 : Int32))] [(.int (1 : Int32)), (.ref a1)]))
  refine own_step (fun t k => XS.iconst X0.here hx rfl (hb hby d8_7) k) ?_
  show own_G p.tables e below _ (s₁.setTop (mkF m 8 #[.val (.ref a1), .val (.int (1 : Int32)), .val (.int (0 : Int32))] [(.int (1 : Int32)), (.int (1 : Int32)), (.ref a1)]))
  refine own_step (fun t k => XS.isub X0.here hx rfl (hb hby d8_8) rfl k) ?_
  show own_G p.tables e below _ (s₁.setTop (mkF m 9 #[.val (.ref a1), .val (.int (1 : Int32)), .val (.int (0 : Int32))] [(.int (0 : Int32)), (.ref a1)]))
  refine own_step (fun t k => XS.iloadN X0.here hx rfl (hb hby d8_9) rfl k) ?_
  show own_G p.tables e below _ (s₁.setTop (mkF m 10 #[.val (.ref a1), .val (.int (1 : Int32)), .val (.int (0 : Int32))] [(.int (0 : Int32)), (.int (0 : Int32)), (.ref a1)]))
  refine own_step (fun t k => XS.isub X0.here hx rfl (hb hby d8_10) rfl k) ?_
  show own_G p.tables e below _ (s₁.setTop (mkF m 11 #[.val (.ref a1), .val (.int (1 : Int32)), .val (.int (0 : Int32))] [(.int (0 : Int32)), (.ref a1)]))
  refine own_step (own_iaload X0 hx hZ e0 fp0 (own_inb (by decide) (Nat.le_of_ble_eq_true rfl)) (g := (mkF m 11 #[.val (.ref a1), .val (.int (1 : Int32)), .val (.int (0 : Int32))] [(.int (0 : Int32)), (.ref a1)])) rfl rfl (hb hby d8_11)) ?_
  show own_G p.tables e below _ (s₁.setTop (mkF m 12 #[.val (.ref a1), .val (.int (1 : Int32)), .val (.int (0 : Int32))] [(.int x0)]))
  obtain ⟨fs, hr, hrun, hended, hW, hsame⟩ := X0.leave (v := some (.int x0)) (fun h => by rw [Bd.returns] at h; cases h)
  refine own_done (retI X0 hx Bd.returns (hb hby d8_12) hr) hrun hended ⟨_, _, rfl, ?_, ⟨_, rfl⟩, hW, hsame.mono (by decide) (by decide)⟩
  show Q8_e1_0 Z a1 x0 x1 x2 x3 h0 n0 _ s₁.heap _
  rw [e0]
  exact ⟨congrArg (fun z => some (Value.int z)) (show x0 = x0 from rfl), N0, rfl⟩
theorem pn_8_e1_1 : plainName "com/example/same_bytes/samebytes/NodeIdsReversePinLaw" = true := by first | (simp [plainName, overriddenIn]; done) | decide +kernel
theorem ef_8_e1_1 (m : MethodId) (a1 : Addr) : entryFrame m #[(.ref a1), (.int (1 : Int32)), (.int (1 : Int32))] 3 = mkF m 0 #[.val (.ref a1), .val (.int (1 : Int32)), .val (.int (1 : Int32))] [] := by first | (simp [entryFrame, mkF, argsToLocals, Value.category]; done) | rfl
def Q8_e1_1 (Z : State) (a1 : Addr) (x0 : Int32) (x1 : Int32) (x2 : Int32) (x3 : Int32) (h0 : Heap) (n0 : Nat) (v : Option Value) (h : Heap) (L : List Loc) : Prop := v = some (.int x1) ∧ Fr n0 L ∧ h = h0
set_option maxRecDepth 65536 in
set_option maxHeartbeats 40000000 in
theorem rm8_e1_1 (l : Launch) (Z : State) (a0 : Array Value) (hw : ∀ d ∈ tables_1, d.before a0 Z = true) (ws : List Jvm.Cond) (a1 : Addr) (x0 : Int32) (x1 : Int32) (x2 : Int32) (x3 : Int32) (h0 : Heap) (n0 : Nat) (Z0 : n0 ≤ h0.size) (fp0 : own_Ari Z h0 a1 .int [x0, x1, x2, x3]) :
    MetFree l (⟨"com/example/same_bytes/samebytes/NodeIdsReversePinLaw", "expect", "([III)I"⟩ : MethodName) (head1 (Jvm.Cond.code (⟨"com/example/same_bytes/samebytes/NodeIdsReversePinLaw", "expect", "([III)I"⟩ : MethodName) method_3_code 3 (some .int) :: ws) ({ frames := 0, cells := 0, slots := 0, locals := 0 } : Room)) (fun a U => a = #[(.ref a1), (.int (1 : Int32)), (.int (1 : Int32))] ∧ Z.Warmed39 U.vm ∧ U.heap = h0) (fun _ _ _ _ _ => True) (fun _ U o U' => ∃ v L, o = .returned v ∧ Q8_e1_1 Z a1 x0 x1 x2 x3 h0 n0 v U'.heap L ∧ FrameEnd U o U' L ({ frames := 0, cells := 0, slots := 0, locals := 0 } : Room).cells ({ frames := 0, cells := 0, slots := 0, locals := 0 } : Room).slots) := by
  refine MetFree.of_bodySF (plainFor_of_name pn_8_e1_1) hisR ?_
  intro p e s m args below meth c s₁ Bd hml0 hP hK
  obtain ⟨rfl, hZ, hh⟩ := hP
  have hx := Bd.exec
  have hby := Bd.bytes
  have hml : c.maxLocals = 3 := hml0
  have hown : s.vm.findClass "com/example/same_bytes/samebytes/NodeIdsReversePinLaw" = some m.cls := findClass_of_methodNamed Bd.named
  have hnm := (name_of_methodNamed Bd.named Bd.method).1
  have X0 : Stand p l e ({ frames := 0, cells := 0, slots := 0, locals := 0 } : Room) s m #[(.ref a1), (.int (1 : Int32)), (.int (1 : Int32))] below meth c s₁ [] 0 0 := Stand.of_body Bd
  have e0 : s₁.heap = h0 := by rw [← hh, Bd.state]; rfl
  have N0 := Fr.nil n0
  refine own_start (fun t k => castTop (ef_8_e1_1 m a1) k) ?_
  show own_G p.tables e below _ (s₁.setTop (mkF m 0 #[.val (.ref a1), .val (.int (1 : Int32)), .val (.int (1 : Int32))] []))
  refine own_step (fun t k => XS.iloadN X0.here hx rfl (hb hby d8_0) rfl k) ?_
  show own_G p.tables e below _ (s₁.setTop (mkF m 1 #[.val (.ref a1), .val (.int (1 : Int32)), .val (.int (1 : Int32))] [(.int (1 : Int32))]))
  refine own_step (fun t k => XS.iloadN X0.here hx rfl (hb hby d8_1) rfl k) ?_
  show own_G p.tables e below _ (s₁.setTop (mkF m 2 #[.val (.ref a1), .val (.int (1 : Int32)), .val (.int (1 : Int32))] [(.int (1 : Int32)), (.int (1 : Int32))]))
  have hk1 : ¬ ((1 : Int32) < (1 : Int32)) := (by decide)
  refine own_step (fun t k => XS.icmpYes X0.here hx rfl (pc0 := 2) (pc' := 13) rfl (hb hby d8_2) rfl ((flt hk1).2.1) (by decide) (by decide) k) ?_
  show own_G p.tables e below _ (s₁.setTop (mkF m 13 #[.val (.ref a1), .val (.int (1 : Int32)), .val (.int (1 : Int32))] []))
  refine own_step (fun t k => XS.aloadN X0.here hx rfl (hb hby d8_13) rfl rfl k) ?_
  show own_G p.tables e below _ (s₁.setTop (mkF m 14 #[.val (.ref a1), .val (.int (1 : Int32)), .val (.int (1 : Int32))] [(.ref a1)]))
  refine own_step (fun t k => XS.iloadN X0.here hx rfl (hb hby d8_14) rfl k) ?_
  show own_G p.tables e below _ (s₁.setTop (mkF m 15 #[.val (.ref a1), .val (.int (1 : Int32)), .val (.int (1 : Int32))] [(.int (1 : Int32)), (.ref a1)]))
  refine own_step (own_iaload X0 hx hZ e0 fp0 (own_inb (by decide) (Nat.le_of_ble_eq_true rfl)) (g := (mkF m 15 #[.val (.ref a1), .val (.int (1 : Int32)), .val (.int (1 : Int32))] [(.int (1 : Int32)), (.ref a1)])) rfl rfl (hb hby d8_15)) ?_
  show own_G p.tables e below _ (s₁.setTop (mkF m 16 #[.val (.ref a1), .val (.int (1 : Int32)), .val (.int (1 : Int32))] [(.int x1)]))
  obtain ⟨fs, hr, hrun, hended, hW, hsame⟩ := X0.leave (v := some (.int x1)) (fun h => by rw [Bd.returns] at h; cases h)
  refine own_done (retI X0 hx Bd.returns (hb hby d8_16) hr) hrun hended ⟨_, _, rfl, ?_, ⟨_, rfl⟩, hW, hsame.mono (by decide) (by decide)⟩
  show Q8_e1_1 Z a1 x0 x1 x2 x3 h0 n0 _ s₁.heap _
  rw [e0]
  exact ⟨congrArg (fun z => some (Value.int z)) (show x1 = x1 from rfl), N0, rfl⟩
theorem pn_8_e1_2 : plainName "com/example/same_bytes/samebytes/NodeIdsReversePinLaw" = true := by first | (simp [plainName, overriddenIn]; done) | decide +kernel
theorem ef_8_e1_2 (m : MethodId) (a1 : Addr) : entryFrame m #[(.ref a1), (.int (1 : Int32)), (.int (2 : Int32))] 3 = mkF m 0 #[.val (.ref a1), .val (.int (1 : Int32)), .val (.int (2 : Int32))] [] := by first | (simp [entryFrame, mkF, argsToLocals, Value.category]; done) | rfl
def Q8_e1_2 (Z : State) (a1 : Addr) (x0 : Int32) (x1 : Int32) (x2 : Int32) (x3 : Int32) (h0 : Heap) (n0 : Nat) (v : Option Value) (h : Heap) (L : List Loc) : Prop := v = some (.int x2) ∧ Fr n0 L ∧ h = h0
set_option maxRecDepth 65536 in
set_option maxHeartbeats 40000000 in
theorem rm8_e1_2 (l : Launch) (Z : State) (a0 : Array Value) (hw : ∀ d ∈ tables_1, d.before a0 Z = true) (ws : List Jvm.Cond) (a1 : Addr) (x0 : Int32) (x1 : Int32) (x2 : Int32) (x3 : Int32) (h0 : Heap) (n0 : Nat) (Z0 : n0 ≤ h0.size) (fp0 : own_Ari Z h0 a1 .int [x0, x1, x2, x3]) :
    MetFree l (⟨"com/example/same_bytes/samebytes/NodeIdsReversePinLaw", "expect", "([III)I"⟩ : MethodName) (head1 (Jvm.Cond.code (⟨"com/example/same_bytes/samebytes/NodeIdsReversePinLaw", "expect", "([III)I"⟩ : MethodName) method_3_code 3 (some .int) :: ws) ({ frames := 0, cells := 0, slots := 0, locals := 0 } : Room)) (fun a U => a = #[(.ref a1), (.int (1 : Int32)), (.int (2 : Int32))] ∧ Z.Warmed39 U.vm ∧ U.heap = h0) (fun _ _ _ _ _ => True) (fun _ U o U' => ∃ v L, o = .returned v ∧ Q8_e1_2 Z a1 x0 x1 x2 x3 h0 n0 v U'.heap L ∧ FrameEnd U o U' L ({ frames := 0, cells := 0, slots := 0, locals := 0 } : Room).cells ({ frames := 0, cells := 0, slots := 0, locals := 0 } : Room).slots) := by
  refine MetFree.of_bodySF (plainFor_of_name pn_8_e1_2) hisR ?_
  intro p e s m args below meth c s₁ Bd hml0 hP hK
  obtain ⟨rfl, hZ, hh⟩ := hP
  have hx := Bd.exec
  have hby := Bd.bytes
  have hml : c.maxLocals = 3 := hml0
  have hown : s.vm.findClass "com/example/same_bytes/samebytes/NodeIdsReversePinLaw" = some m.cls := findClass_of_methodNamed Bd.named
  have hnm := (name_of_methodNamed Bd.named Bd.method).1
  have X0 : Stand p l e ({ frames := 0, cells := 0, slots := 0, locals := 0 } : Room) s m #[(.ref a1), (.int (1 : Int32)), (.int (2 : Int32))] below meth c s₁ [] 0 0 := Stand.of_body Bd
  have e0 : s₁.heap = h0 := by rw [← hh, Bd.state]; rfl
  have N0 := Fr.nil n0
  refine own_start (fun t k => castTop (ef_8_e1_2 m a1) k) ?_
  show own_G p.tables e below _ (s₁.setTop (mkF m 0 #[.val (.ref a1), .val (.int (1 : Int32)), .val (.int (2 : Int32))] []))
  refine own_step (fun t k => XS.iloadN X0.here hx rfl (hb hby d8_0) rfl k) ?_
  show own_G p.tables e below _ (s₁.setTop (mkF m 1 #[.val (.ref a1), .val (.int (1 : Int32)), .val (.int (2 : Int32))] [(.int (2 : Int32))]))
  refine own_step (fun t k => XS.iloadN X0.here hx rfl (hb hby d8_1) rfl k) ?_
  show own_G p.tables e below _ (s₁.setTop (mkF m 2 #[.val (.ref a1), .val (.int (1 : Int32)), .val (.int (2 : Int32))] [(.int (1 : Int32)), (.int (2 : Int32))]))
  have hk1 : ¬ ((2 : Int32) < (1 : Int32)) := (by decide)
  refine own_step (fun t k => XS.icmpYes X0.here hx rfl (pc0 := 2) (pc' := 13) rfl (hb hby d8_2) rfl ((flt hk1).2.1) (by decide) (by decide) k) ?_
  show own_G p.tables e below _ (s₁.setTop (mkF m 13 #[.val (.ref a1), .val (.int (1 : Int32)), .val (.int (2 : Int32))] []))
  refine own_step (fun t k => XS.aloadN X0.here hx rfl (hb hby d8_13) rfl rfl k) ?_
  show own_G p.tables e below _ (s₁.setTop (mkF m 14 #[.val (.ref a1), .val (.int (1 : Int32)), .val (.int (2 : Int32))] [(.ref a1)]))
  refine own_step (fun t k => XS.iloadN X0.here hx rfl (hb hby d8_14) rfl k) ?_
  show own_G p.tables e below _ (s₁.setTop (mkF m 15 #[.val (.ref a1), .val (.int (1 : Int32)), .val (.int (2 : Int32))] [(.int (2 : Int32)), (.ref a1)]))
  refine own_step (own_iaload X0 hx hZ e0 fp0 (own_inb (by decide) (Nat.le_of_ble_eq_true rfl)) (g := (mkF m 15 #[.val (.ref a1), .val (.int (1 : Int32)), .val (.int (2 : Int32))] [(.int (2 : Int32)), (.ref a1)])) rfl rfl (hb hby d8_15)) ?_
  show own_G p.tables e below _ (s₁.setTop (mkF m 16 #[.val (.ref a1), .val (.int (1 : Int32)), .val (.int (2 : Int32))] [(.int x2)]))
  obtain ⟨fs, hr, hrun, hended, hW, hsame⟩ := X0.leave (v := some (.int x2)) (fun h => by rw [Bd.returns] at h; cases h)
  refine own_done (retI X0 hx Bd.returns (hb hby d8_16) hr) hrun hended ⟨_, _, rfl, ?_, ⟨_, rfl⟩, hW, hsame.mono (by decide) (by decide)⟩
  show Q8_e1_2 Z a1 x0 x1 x2 x3 h0 n0 _ s₁.heap _
  rw [e0]
  exact ⟨congrArg (fun z => some (Value.int z)) (show x2 = x2 from rfl), N0, rfl⟩
theorem pn_8_e1_3 : plainName "com/example/same_bytes/samebytes/NodeIdsReversePinLaw" = true := by first | (simp [plainName, overriddenIn]; done) | decide +kernel
theorem ef_8_e1_3 (m : MethodId) (a1 : Addr) : entryFrame m #[(.ref a1), (.int (1 : Int32)), (.int (3 : Int32))] 3 = mkF m 0 #[.val (.ref a1), .val (.int (1 : Int32)), .val (.int (3 : Int32))] [] := by first | (simp [entryFrame, mkF, argsToLocals, Value.category]; done) | rfl
def Q8_e1_3 (Z : State) (a1 : Addr) (x0 : Int32) (x1 : Int32) (x2 : Int32) (x3 : Int32) (h0 : Heap) (n0 : Nat) (v : Option Value) (h : Heap) (L : List Loc) : Prop := v = some (.int x3) ∧ Fr n0 L ∧ h = h0
set_option maxRecDepth 65536 in
set_option maxHeartbeats 40000000 in
theorem rm8_e1_3 (l : Launch) (Z : State) (a0 : Array Value) (hw : ∀ d ∈ tables_1, d.before a0 Z = true) (ws : List Jvm.Cond) (a1 : Addr) (x0 : Int32) (x1 : Int32) (x2 : Int32) (x3 : Int32) (h0 : Heap) (n0 : Nat) (Z0 : n0 ≤ h0.size) (fp0 : own_Ari Z h0 a1 .int [x0, x1, x2, x3]) :
    MetFree l (⟨"com/example/same_bytes/samebytes/NodeIdsReversePinLaw", "expect", "([III)I"⟩ : MethodName) (head1 (Jvm.Cond.code (⟨"com/example/same_bytes/samebytes/NodeIdsReversePinLaw", "expect", "([III)I"⟩ : MethodName) method_3_code 3 (some .int) :: ws) ({ frames := 0, cells := 0, slots := 0, locals := 0 } : Room)) (fun a U => a = #[(.ref a1), (.int (1 : Int32)), (.int (3 : Int32))] ∧ Z.Warmed39 U.vm ∧ U.heap = h0) (fun _ _ _ _ _ => True) (fun _ U o U' => ∃ v L, o = .returned v ∧ Q8_e1_3 Z a1 x0 x1 x2 x3 h0 n0 v U'.heap L ∧ FrameEnd U o U' L ({ frames := 0, cells := 0, slots := 0, locals := 0 } : Room).cells ({ frames := 0, cells := 0, slots := 0, locals := 0 } : Room).slots) := by
  refine MetFree.of_bodySF (plainFor_of_name pn_8_e1_3) hisR ?_
  intro p e s m args below meth c s₁ Bd hml0 hP hK
  obtain ⟨rfl, hZ, hh⟩ := hP
  have hx := Bd.exec
  have hby := Bd.bytes
  have hml : c.maxLocals = 3 := hml0
  have hown : s.vm.findClass "com/example/same_bytes/samebytes/NodeIdsReversePinLaw" = some m.cls := findClass_of_methodNamed Bd.named
  have hnm := (name_of_methodNamed Bd.named Bd.method).1
  have X0 : Stand p l e ({ frames := 0, cells := 0, slots := 0, locals := 0 } : Room) s m #[(.ref a1), (.int (1 : Int32)), (.int (3 : Int32))] below meth c s₁ [] 0 0 := Stand.of_body Bd
  have e0 : s₁.heap = h0 := by rw [← hh, Bd.state]; rfl
  have N0 := Fr.nil n0
  refine own_start (fun t k => castTop (ef_8_e1_3 m a1) k) ?_
  show own_G p.tables e below _ (s₁.setTop (mkF m 0 #[.val (.ref a1), .val (.int (1 : Int32)), .val (.int (3 : Int32))] []))
  refine own_step (fun t k => XS.iloadN X0.here hx rfl (hb hby d8_0) rfl k) ?_
  show own_G p.tables e below _ (s₁.setTop (mkF m 1 #[.val (.ref a1), .val (.int (1 : Int32)), .val (.int (3 : Int32))] [(.int (3 : Int32))]))
  refine own_step (fun t k => XS.iloadN X0.here hx rfl (hb hby d8_1) rfl k) ?_
  show own_G p.tables e below _ (s₁.setTop (mkF m 2 #[.val (.ref a1), .val (.int (1 : Int32)), .val (.int (3 : Int32))] [(.int (1 : Int32)), (.int (3 : Int32))]))
  have hk1 : ¬ ((3 : Int32) < (1 : Int32)) := (by decide)
  refine own_step (fun t k => XS.icmpYes X0.here hx rfl (pc0 := 2) (pc' := 13) rfl (hb hby d8_2) rfl ((flt hk1).2.1) (by decide) (by decide) k) ?_
  show own_G p.tables e below _ (s₁.setTop (mkF m 13 #[.val (.ref a1), .val (.int (1 : Int32)), .val (.int (3 : Int32))] []))
  refine own_step (fun t k => XS.aloadN X0.here hx rfl (hb hby d8_13) rfl rfl k) ?_
  show own_G p.tables e below _ (s₁.setTop (mkF m 14 #[.val (.ref a1), .val (.int (1 : Int32)), .val (.int (3 : Int32))] [(.ref a1)]))
  refine own_step (fun t k => XS.iloadN X0.here hx rfl (hb hby d8_14) rfl k) ?_
  show own_G p.tables e below _ (s₁.setTop (mkF m 15 #[.val (.ref a1), .val (.int (1 : Int32)), .val (.int (3 : Int32))] [(.int (3 : Int32)), (.ref a1)]))
  refine own_step (own_iaload X0 hx hZ e0 fp0 (own_inb (by decide) (Nat.le_of_ble_eq_true rfl)) (g := (mkF m 15 #[.val (.ref a1), .val (.int (1 : Int32)), .val (.int (3 : Int32))] [(.int (3 : Int32)), (.ref a1)])) rfl rfl (hb hby d8_15)) ?_
  show own_G p.tables e below _ (s₁.setTop (mkF m 16 #[.val (.ref a1), .val (.int (1 : Int32)), .val (.int (3 : Int32))] [(.int x3)]))
  obtain ⟨fs, hr, hrun, hended, hW, hsame⟩ := X0.leave (v := some (.int x3)) (fun h => by rw [Bd.returns] at h; cases h)
  refine own_done (retI X0 hx Bd.returns (hb hby d8_16) hr) hrun hended ⟨_, _, rfl, ?_, ⟨_, rfl⟩, hW, hsame.mono (by decide) (by decide)⟩
  show Q8_e1_3 Z a1 x0 x1 x2 x3 h0 n0 _ s₁.heap _
  rw [e0]
  exact ⟨congrArg (fun z => some (Value.int z)) (show x3 = x3 from rfl), N0, rfl⟩
theorem d5_14 : decode prog_70_method_12_code 14 = .ok (.aload_n 0, 1) := by decide +kernel
theorem d5_15 : decode prog_70_method_12_code 15 = .ok (.getfield 7, 3) := by decide +kernel
theorem d5_18 : decode prog_70_method_12_code 18 = .ok (.iload_n 1, 1) := by decide +kernel
theorem d5_19 : decode prog_70_method_12_code 19 = .ok (.iaload, 1) := by decide +kernel
theorem d5_20 : decode prog_70_method_12_code 20 = .ok (.istore_n 3, 1) := by decide +kernel
theorem d5_21 : decode prog_70_method_12_code 21 = .ok (.aload_n 0, 1) := by decide +kernel
theorem d5_22 : decode prog_70_method_12_code 22 = .ok (.getfield 7, 3) := by decide +kernel
theorem d5_25 : decode prog_70_method_12_code 25 = .ok (.iload_n 1, 1) := by decide +kernel
theorem d5_26 : decode prog_70_method_12_code 26 = .ok (.aload_n 0, 1) := by decide +kernel
theorem d5_27 : decode prog_70_method_12_code 27 = .ok (.getfield 7, 3) := by decide +kernel
theorem d5_30 : decode prog_70_method_12_code 30 = .ok (.iload_n 2, 1) := by decide +kernel
theorem d5_31 : decode prog_70_method_12_code 31 = .ok (.iaload, 1) := by decide +kernel
theorem d5_32 : decode prog_70_method_12_code 32 = .ok (.iastore, 1) := by decide +kernel
theorem d5_33 : decode prog_70_method_12_code 33 = .ok (.aload_n 0, 1) := by decide +kernel
theorem d5_34 : decode prog_70_method_12_code 34 = .ok (.getfield 7, 3) := by decide +kernel
theorem d5_37 : decode prog_70_method_12_code 37 = .ok (.iload_n 2, 1) := by decide +kernel
theorem d5_38 : decode prog_70_method_12_code 38 = .ok (.iload_n 3, 1) := by decide +kernel
theorem d5_39 : decode prog_70_method_12_code 39 = .ok (.iastore, 1) := by decide +kernel
theorem d5_40 : decode prog_70_method_12_code 40 = .ok (.iinc 1 1, 3) := by decide +kernel
theorem d5_43 : decode prog_70_method_12_code 43 = .ok (.iinc 2 (-1), 3) := by decide +kernel
theorem d5_46 : decode prog_70_method_12_code 46 = .ok (.goto (-37), 3) := by decide +kernel
theorem pn_5_s2 : plainName "com/example/same_bytes/samebytes/NodeIds" = true := by first | (simp [plainName, overriddenIn]; done) | decide +kernel
theorem ef_5_s2 (m : MethodId) (a1 : Addr) : entryFrame m #[(.ref a1)] 4 = mkF m 0 #[.val (.ref a1), .unset, .unset, .unset] [] := by first | (simp [entryFrame, mkF, argsToLocals, Value.category]; done) | rfl
def Q5_s2 (Z : State) (a1 : Addr) (u_ids : Addr) (x0 : Int32) (x1 : Int32) (x2 : Int32) (x3 : Int32) (x4 : Int32) (x5 : Int32) (x6 : Int32) (x7 : Int32) (h0 : Heap) (n0 : Nat) (v : Option Value) (h : Heap) (L : List Loc) : Prop := v = none ∧ Fr n0 L ∧ Keep h0 h [u_ids] ∧ own_Ari Z h u_ids .int [x1, x0, x2, x3, x4, x5, x6, x7]
set_option maxRecDepth 65536 in
set_option maxHeartbeats 40000000 in
theorem rm5_s2 (l : Launch) (Z : State) (a0 : Array Value) (hw : ∀ d ∈ tables_1, d.before a0 Z = true) (ws : List Jvm.Cond) (a1 : Addr) (u_ids : Addr) (x0 : Int32) (x1 : Int32) (x2 : Int32) (x3 : Int32) (x4 : Int32) (x5 : Int32) (x6 : Int32) (x7 : Int32) (h0 : Heap) (n0 : Nat) (Z0 : n0 ≤ h0.size) (fp0 : Exa Z h0 a1 "com/example/same_bytes/samebytes/NodeIds") (fp1 : Fld Z h0 a1 "com/example/same_bytes/samebytes/NodeIds" "size" "I" (.int (2 : Int32))) (fp2 : Fld Z h0 a1 "com/example/same_bytes/samebytes/NodeIds" "ids" "[I" (.ref u_ids)) (fp3 : own_Ari Z h0 u_ids .int [x0, x1, x2, x3, x4, x5, x6, x7]) (g_u_ids : n0 ≤ u_ids) (ne_a1_u_ids : a1 ≠ u_ids) :
    MetFree l (⟨"com/example/same_bytes/samebytes/NodeIds", "reverse", "()V"⟩ : MethodName) (head1 (Jvm.Cond.code (⟨"com/example/same_bytes/samebytes/NodeIds", "reverse", "()V"⟩ : MethodName) prog_70_method_12_code 4 none :: ws) ({ frames := 0, cells := 0, slots := 0, locals := 0 } : Room)) (fun a U => a = #[(.ref a1)] ∧ Z.Warmed39 U.vm ∧ U.heap = h0) (fun _ _ _ _ _ => True) (fun _ U o U' => ∃ v L, o = .returned v ∧ Q5_s2 Z a1 u_ids x0 x1 x2 x3 x4 x5 x6 x7 h0 n0 v U'.heap L ∧ FrameEnd U o U' L ({ frames := 0, cells := 0, slots := 0, locals := 0 } : Room).cells ({ frames := 0, cells := 0, slots := 0, locals := 0 } : Room).slots) := by
  refine MetFree.of_bodySF (plainFor_of_name pn_5_s2) hisR ?_
  intro p e s m args below meth c s₁ Bd hml0 hP hK
  obtain ⟨rfl, hZ, hh⟩ := hP
  have hx := Bd.exec
  have hby := Bd.bytes
  have hml : c.maxLocals = 4 := hml0
  have hown : s.vm.findClass "com/example/same_bytes/samebytes/NodeIds" = some m.cls := findClass_of_methodNamed Bd.named
  have hnm := (name_of_methodNamed Bd.named Bd.method).1
  have X0 : Stand p l e ({ frames := 0, cells := 0, slots := 0, locals := 0 } : Room) s m #[(.ref a1)] below meth c s₁ [] 0 0 := Stand.of_body Bd
  have e0 : s₁.heap = h0 := by rw [← hh, Bd.state]; rfl
  have N0 := Fr.nil n0
  refine own_start (fun t k => castTop (ef_5_s2 m a1) k) ?_
  show own_G p.tables e below _ (s₁.setTop (mkF m 0 #[.val (.ref a1), .unset, .unset, .unset] []))
  refine own_step (fun t k => XS.iconst X0.here hx rfl (hb hby d5_0) k) ?_
  show own_G p.tables e below _ (s₁.setTop (mkF m 1 #[.val (.ref a1), .unset, .unset, .unset] [(.int (0 : Int32))]))
  refine own_step (fun t k => XS.istoreN X0.here hx rfl (hb hby d5_1) rfl (l' := #[.val (.ref a1), .val (.int (0 : Int32)), .unset, .unset]) rfl k) ?_
  show own_G p.tables e below _ (s₁.setTop (mkF m 2 #[.val (.ref a1), .val (.int (0 : Int32)), .unset, .unset] []))
  refine own_step (fun t k => XS.aloadN X0.here hx rfl (hb hby d5_2) rfl rfl k) ?_
  show own_G p.tables e below _ (s₁.setTop (mkF m 3 #[.val (.ref a1), .val (.int (0 : Int32)), .unset, .unset] [(.ref a1)]))
  obtain ⟨T1, X1, e1, st1⟩ := getF X0 hx hZ hown (host := "") (Or.inl (hw _ (List.mem_of_getElem? (i := 18) rfl))) Via.refl e0 fp1 (g := (mkF m 3 #[.val (.ref a1), .val (.int (0 : Int32)), .unset, .unset] [(.ref a1)])) rfl rfl (hb hby d5_3)
  refine own_step st1 ?_
  show own_G p.tables e below _ (T1.setTop (mkF m 6 #[.val (.ref a1), .val (.int (0 : Int32)), .unset, .unset] [(.int (2 : Int32))]))
  refine own_step (fun t k => XS.iconst X1.here hx rfl (hb hby d5_6) k) ?_
  show own_G p.tables e below _ (T1.setTop (mkF m 7 #[.val (.ref a1), .val (.int (0 : Int32)), .unset, .unset] [(.int (1 : Int32)), (.int (2 : Int32))]))
  refine own_step (fun t k => XS.isub X1.here hx rfl (hb hby d5_7) rfl k) ?_
  show own_G p.tables e below _ (T1.setTop (mkF m 8 #[.val (.ref a1), .val (.int (0 : Int32)), .unset, .unset] [(.int (1 : Int32))]))
  refine own_step (fun t k => XS.istoreN X1.here hx rfl (hb hby d5_8) rfl (l' := #[.val (.ref a1), .val (.int (0 : Int32)), .val (.int (1 : Int32)), .unset]) rfl k) ?_
  show own_G p.tables e below _ (T1.setTop (mkF m 9 #[.val (.ref a1), .val (.int (0 : Int32)), .val (.int (1 : Int32)), .unset] []))
  refine own_step (fun t k => XS.iloadN X1.here hx rfl (hb hby d5_9) rfl k) ?_
  show own_G p.tables e below _ (T1.setTop (mkF m 10 #[.val (.ref a1), .val (.int (0 : Int32)), .val (.int (1 : Int32)), .unset] [(.int (0 : Int32))]))
  refine own_step (fun t k => XS.iloadN X1.here hx rfl (hb hby d5_10) rfl k) ?_
  show own_G p.tables e below _ (T1.setTop (mkF m 11 #[.val (.ref a1), .val (.int (0 : Int32)), .val (.int (1 : Int32)), .unset] [(.int (1 : Int32)), (.int (0 : Int32))]))
  have hk2 : (0 : Int32) < (1 : Int32) := (by decide)
  refine own_step (fun t k => XS.icmpNo X1.here hx rfl (hb hby d5_11) rfl ((tlt hk2).2.1) k) ?_
  show own_G p.tables e below _ (T1.setTop (mkF m 14 #[.val (.ref a1), .val (.int (0 : Int32)), .val (.int (1 : Int32)), .unset] []))
  refine own_step (fun t k => XS.aloadN X1.here hx rfl (hb hby d5_14) rfl rfl k) ?_
  show own_G p.tables e below _ (T1.setTop (mkF m 15 #[.val (.ref a1), .val (.int (0 : Int32)), .val (.int (1 : Int32)), .unset] [(.ref a1)]))
  obtain ⟨T3, X3, e3, st3⟩ := getF X1 hx hZ hown (host := "") (Or.inl (hw _ (List.mem_of_getElem? (i := 11) rfl))) Via.refl e1 fp2 (g := (mkF m 15 #[.val (.ref a1), .val (.int (0 : Int32)), .val (.int (1 : Int32)), .unset] [(.ref a1)])) rfl rfl (hb hby d5_15)
  refine own_step st3 ?_
  show own_G p.tables e below _ (T3.setTop (mkF m 18 #[.val (.ref a1), .val (.int (0 : Int32)), .val (.int (1 : Int32)), .unset] [(.ref u_ids)]))
  refine own_step (fun t k => XS.iloadN X3.here hx rfl (hb hby d5_18) rfl k) ?_
  show own_G p.tables e below _ (T3.setTop (mkF m 19 #[.val (.ref a1), .val (.int (0 : Int32)), .val (.int (1 : Int32)), .unset] [(.int (0 : Int32)), (.ref u_ids)]))
  refine own_step (own_iaload X3 hx hZ e3 fp3 (own_inb (by decide) (Nat.le_of_ble_eq_true rfl)) (g := (mkF m 19 #[.val (.ref a1), .val (.int (0 : Int32)), .val (.int (1 : Int32)), .unset] [(.int (0 : Int32)), (.ref u_ids)])) rfl rfl (hb hby d5_19)) ?_
  show own_G p.tables e below _ (T3.setTop (mkF m 20 #[.val (.ref a1), .val (.int (0 : Int32)), .val (.int (1 : Int32)), .unset] [(.int x0)]))
  refine own_step (fun t k => XS.istoreN X3.here hx rfl (hb hby d5_20) rfl (l' := #[.val (.ref a1), .val (.int (0 : Int32)), .val (.int (1 : Int32)), .val (.int x0)]) rfl k) ?_
  show own_G p.tables e below _ (T3.setTop (mkF m 21 #[.val (.ref a1), .val (.int (0 : Int32)), .val (.int (1 : Int32)), .val (.int x0)] []))
  refine own_step (fun t k => XS.aloadN X3.here hx rfl (hb hby d5_21) rfl rfl k) ?_
  show own_G p.tables e below _ (T3.setTop (mkF m 22 #[.val (.ref a1), .val (.int (0 : Int32)), .val (.int (1 : Int32)), .val (.int x0)] [(.ref a1)]))
  obtain ⟨T4, X4, e4, st4⟩ := getF X3 hx hZ hown (host := "") (Or.inl (hw _ (List.mem_of_getElem? (i := 11) rfl))) Via.refl e3 fp2 (g := (mkF m 22 #[.val (.ref a1), .val (.int (0 : Int32)), .val (.int (1 : Int32)), .val (.int x0)] [(.ref a1)])) rfl rfl (hb hby d5_22)
  refine own_step st4 ?_
  show own_G p.tables e below _ (T4.setTop (mkF m 25 #[.val (.ref a1), .val (.int (0 : Int32)), .val (.int (1 : Int32)), .val (.int x0)] [(.ref u_ids)]))
  refine own_step (fun t k => XS.iloadN X4.here hx rfl (hb hby d5_25) rfl k) ?_
  show own_G p.tables e below _ (T4.setTop (mkF m 26 #[.val (.ref a1), .val (.int (0 : Int32)), .val (.int (1 : Int32)), .val (.int x0)] [(.int (0 : Int32)), (.ref u_ids)]))
  refine own_step (fun t k => XS.aloadN X4.here hx rfl (hb hby d5_26) rfl rfl k) ?_
  show own_G p.tables e below _ (T4.setTop (mkF m 27 #[.val (.ref a1), .val (.int (0 : Int32)), .val (.int (1 : Int32)), .val (.int x0)] [(.ref a1), (.int (0 : Int32)), (.ref u_ids)]))
  obtain ⟨T5, X5, e5, st5⟩ := getF X4 hx hZ hown (host := "") (Or.inl (hw _ (List.mem_of_getElem? (i := 11) rfl))) Via.refl e4 fp2 (g := (mkF m 27 #[.val (.ref a1), .val (.int (0 : Int32)), .val (.int (1 : Int32)), .val (.int x0)] [(.ref a1), (.int (0 : Int32)), (.ref u_ids)])) rfl rfl (hb hby d5_27)
  refine own_step st5 ?_
  show own_G p.tables e below _ (T5.setTop (mkF m 30 #[.val (.ref a1), .val (.int (0 : Int32)), .val (.int (1 : Int32)), .val (.int x0)] [(.ref u_ids), (.int (0 : Int32)), (.ref u_ids)]))
  refine own_step (fun t k => XS.iloadN X5.here hx rfl (hb hby d5_30) rfl k) ?_
  show own_G p.tables e below _ (T5.setTop (mkF m 31 #[.val (.ref a1), .val (.int (0 : Int32)), .val (.int (1 : Int32)), .val (.int x0)] [(.int (1 : Int32)), (.ref u_ids), (.int (0 : Int32)), (.ref u_ids)]))
  refine own_step (own_iaload X5 hx hZ e5 fp3 (own_inb (by decide) (Nat.le_of_ble_eq_true rfl)) (g := (mkF m 31 #[.val (.ref a1), .val (.int (0 : Int32)), .val (.int (1 : Int32)), .val (.int x0)] [(.int (1 : Int32)), (.ref u_ids), (.int (0 : Int32)), (.ref u_ids)])) rfl rfl (hb hby d5_31)) ?_
  show own_G p.tables e below _ (T5.setTop (mkF m 32 #[.val (.ref a1), .val (.int (0 : Int32)), .val (.int (1 : Int32)), .val (.int x0)] [(.int x1), (.int (0 : Int32)), (.ref u_ids)]))
  obtain ⟨T6, h6, X6, e6, W6, c6, st6⟩ := own_iastore X5 hx hZ e5 fp3 (own_inb (by decide) (Nat.le_of_ble_eq_true rfl)) (g := (mkF m 32 #[.val (.ref a1), .val (.int (0 : Int32)), .val (.int (1 : Int32)), .val (.int x0)] [(.int x1), (.int (0 : Int32)), (.ref u_ids)])) rfl rfl (hb hby d5_32)
  have N6 := Fr.snoc X6 N0 g_u_ids
  have c7 : own_Ari Z h6 u_ids .int [x1, x1, x2, x3, x4, x5, x6, x7] := c6
  have c8 : Exa Z h6 a1 "com/example/same_bytes/samebytes/NodeIds" := fp0.wr W6
  have c9 : Fld Z h6 a1 "com/example/same_bytes/samebytes/NodeIds" "size" "I" (.int (2 : Int32)) := fp1.other W6 (Or.inl ne_a1_u_ids)
  have c10 : Fld Z h6 a1 "com/example/same_bytes/samebytes/NodeIds" "ids" "[I" (.ref u_ids) := fp2.other W6 (Or.inl ne_a1_u_ids)
  have K6 : Keep h0 h6 [u_ids] := (Keep.refl h0 [u_ids]).wr W6 (Or.inl (List.mem_of_getElem? (i := 0) rfl))
  refine own_step st6 ?_
  show own_G p.tables e below _ (T6.setTop (mkF m 33 #[.val (.ref a1), .val (.int (0 : Int32)), .val (.int (1 : Int32)), .val (.int x0)] []))
  refine own_step (fun t k => XS.aloadN X6.here hx rfl (hb hby d5_33) rfl rfl k) ?_
  show own_G p.tables e below _ (T6.setTop (mkF m 34 #[.val (.ref a1), .val (.int (0 : Int32)), .val (.int (1 : Int32)), .val (.int x0)] [(.ref a1)]))
  obtain ⟨T12, X12, e12, st12⟩ := getF X6 hx hZ hown (host := "") (Or.inl (hw _ (List.mem_of_getElem? (i := 11) rfl))) Via.refl e6 c10 (g := (mkF m 34 #[.val (.ref a1), .val (.int (0 : Int32)), .val (.int (1 : Int32)), .val (.int x0)] [(.ref a1)])) rfl rfl (hb hby d5_34)
  refine own_step st12 ?_
  show own_G p.tables e below _ (T12.setTop (mkF m 37 #[.val (.ref a1), .val (.int (0 : Int32)), .val (.int (1 : Int32)), .val (.int x0)] [(.ref u_ids)]))
  refine own_step (fun t k => XS.iloadN X12.here hx rfl (hb hby d5_37) rfl k) ?_
  show own_G p.tables e below _ (T12.setTop (mkF m 38 #[.val (.ref a1), .val (.int (0 : Int32)), .val (.int (1 : Int32)), .val (.int x0)] [(.int (1 : Int32)), (.ref u_ids)]))
  refine own_step (fun t k => XS.iloadN X12.here hx rfl (hb hby d5_38) rfl k) ?_
  show own_G p.tables e below _ (T12.setTop (mkF m 39 #[.val (.ref a1), .val (.int (0 : Int32)), .val (.int (1 : Int32)), .val (.int x0)] [(.int x0), (.int (1 : Int32)), (.ref u_ids)]))
  obtain ⟨T13, h13, X13, e13, W13, c13, st13⟩ := own_iastore X12 hx hZ e12 c7 (own_inb (by decide) (Nat.le_of_ble_eq_true rfl)) (g := (mkF m 39 #[.val (.ref a1), .val (.int (0 : Int32)), .val (.int (1 : Int32)), .val (.int x0)] [(.int x0), (.int (1 : Int32)), (.ref u_ids)])) rfl rfl (hb hby d5_39)
  have N13 := Fr.snoc X13 N6 g_u_ids
  have c14 : own_Ari Z h13 u_ids .int [x1, x0, x2, x3, x4, x5, x6, x7] := c13
  have c15 : Exa Z h13 a1 "com/example/same_bytes/samebytes/NodeIds" := c8.wr W13
  have c16 : Fld Z h13 a1 "com/example/same_bytes/samebytes/NodeIds" "size" "I" (.int (2 : Int32)) := c9.other W13 (Or.inl ne_a1_u_ids)
  have c17 : Fld Z h13 a1 "com/example/same_bytes/samebytes/NodeIds" "ids" "[I" (.ref u_ids) := c10.other W13 (Or.inl ne_a1_u_ids)
  have K13 : Keep h0 h13 [u_ids] := K6.wr W13 (Or.inl (List.mem_of_getElem? (i := 0) rfl))
  refine own_step st13 ?_
  show own_G p.tables e below _ (T13.setTop (mkF m 40 #[.val (.ref a1), .val (.int (0 : Int32)), .val (.int (1 : Int32)), .val (.int x0)] []))
  refine own_step (fun t k => XS.iinc X13.here hx rfl (hb hby d5_40) rfl (l' := #[.val (.ref a1), .val (.int (1 : Int32)), .val (.int (1 : Int32)), .val (.int x0)]) rfl k) ?_
  show own_G p.tables e below _ (T13.setTop (mkF m 43 #[.val (.ref a1), .val (.int (1 : Int32)), .val (.int (1 : Int32)), .val (.int x0)] []))
  refine own_step (fun t k => XS.iinc X13.here hx rfl (hb hby d5_43) rfl (l' := #[.val (.ref a1), .val (.int (1 : Int32)), .val (.int (0 : Int32)), .val (.int x0)]) rfl k) ?_
  show own_G p.tables e below _ (T13.setTop (mkF m 46 #[.val (.ref a1), .val (.int (1 : Int32)), .val (.int (0 : Int32)), .val (.int x0)] []))
  refine own_step (fun t k => XS.goto X13.here hx rfl (pc0 := 46) (pc' := 9) rfl (hb hby d5_46) (by decide) (by decide) k) ?_
  show own_G p.tables e below _ (T13.setTop (mkF m 9 #[.val (.ref a1), .val (.int (1 : Int32)), .val (.int (0 : Int32)), .val (.int x0)] []))
  refine own_step (fun t k => XS.iloadN X13.here hx rfl (hb hby d5_9) rfl k) ?_
  show own_G p.tables e below _ (T13.setTop (mkF m 10 #[.val (.ref a1), .val (.int (1 : Int32)), .val (.int (0 : Int32)), .val (.int x0)] [(.int (1 : Int32))]))
  refine own_step (fun t k => XS.iloadN X13.here hx rfl (hb hby d5_10) rfl k) ?_
  show own_G p.tables e below _ (T13.setTop (mkF m 11 #[.val (.ref a1), .val (.int (1 : Int32)), .val (.int (0 : Int32)), .val (.int x0)] [(.int (0 : Int32)), (.int (1 : Int32))]))
  have hk19 : ¬ ((1 : Int32) < (0 : Int32)) := (by decide)
  refine own_step (fun t k => XS.icmpYes X13.here hx rfl (pc0 := 11) (pc' := 49) rfl (hb hby d5_11) rfl ((flt hk19).2.1) (by decide) (by decide) k) ?_
  show own_G p.tables e below _ (T13.setTop (mkF m 49 #[.val (.ref a1), .val (.int (1 : Int32)), .val (.int (0 : Int32)), .val (.int x0)] []))
  obtain ⟨fs, hr, hrun, hended, hW, hsame⟩ := X13.leave (v := none) (fun _ => rfl)
  refine own_done (X13.returnOut hx Bd.returns (hb hby d5_49) hr) hrun hended ⟨_, _, rfl, ?_, ⟨_, rfl⟩, hW, hsame.mono (by decide) (by decide)⟩
  show Q5_s2 Z a1 u_ids x0 x1 x2 x3 x4 x5 x6 x7 h0 n0 _ T13.heap _
  rw [e13]
  exact ⟨rfl, N13, K13, c14⟩
theorem pn_8_e2_0 : plainName "com/example/same_bytes/samebytes/NodeIdsReversePinLaw" = true := by first | (simp [plainName, overriddenIn]; done) | decide +kernel
theorem ef_8_e2_0 (m : MethodId) (a1 : Addr) : entryFrame m #[(.ref a1), (.int (2 : Int32)), (.int (0 : Int32))] 3 = mkF m 0 #[.val (.ref a1), .val (.int (2 : Int32)), .val (.int (0 : Int32))] [] := by first | (simp [entryFrame, mkF, argsToLocals, Value.category]; done) | rfl
def Q8_e2_0 (Z : State) (a1 : Addr) (x0 : Int32) (x1 : Int32) (x2 : Int32) (x3 : Int32) (h0 : Heap) (n0 : Nat) (v : Option Value) (h : Heap) (L : List Loc) : Prop := v = some (.int x1) ∧ Fr n0 L ∧ h = h0
set_option maxRecDepth 65536 in
set_option maxHeartbeats 40000000 in
theorem rm8_e2_0 (l : Launch) (Z : State) (a0 : Array Value) (hw : ∀ d ∈ tables_1, d.before a0 Z = true) (ws : List Jvm.Cond) (a1 : Addr) (x0 : Int32) (x1 : Int32) (x2 : Int32) (x3 : Int32) (h0 : Heap) (n0 : Nat) (Z0 : n0 ≤ h0.size) (fp0 : own_Ari Z h0 a1 .int [x0, x1, x2, x3]) :
    MetFree l (⟨"com/example/same_bytes/samebytes/NodeIdsReversePinLaw", "expect", "([III)I"⟩ : MethodName) (head1 (Jvm.Cond.code (⟨"com/example/same_bytes/samebytes/NodeIdsReversePinLaw", "expect", "([III)I"⟩ : MethodName) method_3_code 3 (some .int) :: ws) ({ frames := 0, cells := 0, slots := 0, locals := 0 } : Room)) (fun a U => a = #[(.ref a1), (.int (2 : Int32)), (.int (0 : Int32))] ∧ Z.Warmed39 U.vm ∧ U.heap = h0) (fun _ _ _ _ _ => True) (fun _ U o U' => ∃ v L, o = .returned v ∧ Q8_e2_0 Z a1 x0 x1 x2 x3 h0 n0 v U'.heap L ∧ FrameEnd U o U' L ({ frames := 0, cells := 0, slots := 0, locals := 0 } : Room).cells ({ frames := 0, cells := 0, slots := 0, locals := 0 } : Room).slots) := by
  refine MetFree.of_bodySF (plainFor_of_name pn_8_e2_0) hisR ?_
  intro p e s m args below meth c s₁ Bd hml0 hP hK
  obtain ⟨rfl, hZ, hh⟩ := hP
  have hx := Bd.exec
  have hby := Bd.bytes
  have hml : c.maxLocals = 3 := hml0
  have hown : s.vm.findClass "com/example/same_bytes/samebytes/NodeIdsReversePinLaw" = some m.cls := findClass_of_methodNamed Bd.named
  have hnm := (name_of_methodNamed Bd.named Bd.method).1
  have X0 : Stand p l e ({ frames := 0, cells := 0, slots := 0, locals := 0 } : Room) s m #[(.ref a1), (.int (2 : Int32)), (.int (0 : Int32))] below meth c s₁ [] 0 0 := Stand.of_body Bd
  have e0 : s₁.heap = h0 := by rw [← hh, Bd.state]; rfl
  have N0 := Fr.nil n0
  refine own_start (fun t k => castTop (ef_8_e2_0 m a1) k) ?_
  show own_G p.tables e below _ (s₁.setTop (mkF m 0 #[.val (.ref a1), .val (.int (2 : Int32)), .val (.int (0 : Int32))] []))
  refine own_step (fun t k => XS.iloadN X0.here hx rfl (hb hby d8_0) rfl k) ?_
  show own_G p.tables e below _ (s₁.setTop (mkF m 1 #[.val (.ref a1), .val (.int (2 : Int32)), .val (.int (0 : Int32))] [(.int (0 : Int32))]))
  refine own_step (fun t k => XS.iloadN X0.here hx rfl (hb hby d8_1) rfl k) ?_
  show own_G p.tables e below _ (s₁.setTop (mkF m 2 #[.val (.ref a1), .val (.int (2 : Int32)), .val (.int (0 : Int32))] [(.int (2 : Int32)), (.int (0 : Int32))]))
  have hk1 : (0 : Int32) < (2 : Int32) := (by decide)
  refine own_step (fun t k => XS.icmpNo X0.here hx rfl (hb hby d8_2) rfl ((tlt hk1).2.1) k) ?_
  show own_G p.tables e below _ (s₁.setTop (mkF m 5 #[.val (.ref a1), .val (.int (2 : Int32)), .val (.int (0 : Int32))] []))
  refine own_step (fun t k => XS.aloadN X0.here hx rfl (hb hby d8_5) rfl rfl k) ?_
  show own_G p.tables e below _ (s₁.setTop (mkF m 6 #[.val (.ref a1), .val (.int (2 : Int32)), .val (.int (0 : Int32))] [(.ref a1)]))
  refine own_step (fun t k => XS.iloadN X0.here hx rfl (hb hby d8_6) rfl k) ?_
  show own_G p.tables e below _ (s₁.setTop (mkF m 7 #[.val (.ref a1), .val (.int (2 : Int32)), .val (.int (0 : Int32))] [(.int (2 : Int32)), (.ref a1)]))
  refine own_step (fun t k => XS.iconst X0.here hx rfl (hb hby d8_7) k) ?_
  show own_G p.tables e below _ (s₁.setTop (mkF m 8 #[.val (.ref a1), .val (.int (2 : Int32)), .val (.int (0 : Int32))] [(.int (1 : Int32)), (.int (2 : Int32)), (.ref a1)]))
  refine own_step (fun t k => XS.isub X0.here hx rfl (hb hby d8_8) rfl k) ?_
  show own_G p.tables e below _ (s₁.setTop (mkF m 9 #[.val (.ref a1), .val (.int (2 : Int32)), .val (.int (0 : Int32))] [(.int (1 : Int32)), (.ref a1)]))
  refine own_step (fun t k => XS.iloadN X0.here hx rfl (hb hby d8_9) rfl k) ?_
  show own_G p.tables e below _ (s₁.setTop (mkF m 10 #[.val (.ref a1), .val (.int (2 : Int32)), .val (.int (0 : Int32))] [(.int (0 : Int32)), (.int (1 : Int32)), (.ref a1)]))
  refine own_step (fun t k => XS.isub X0.here hx rfl (hb hby d8_10) rfl k) ?_
  show own_G p.tables e below _ (s₁.setTop (mkF m 11 #[.val (.ref a1), .val (.int (2 : Int32)), .val (.int (0 : Int32))] [(.int (1 : Int32)), (.ref a1)]))
  refine own_step (own_iaload X0 hx hZ e0 fp0 (own_inb (by decide) (Nat.le_of_ble_eq_true rfl)) (g := (mkF m 11 #[.val (.ref a1), .val (.int (2 : Int32)), .val (.int (0 : Int32))] [(.int (1 : Int32)), (.ref a1)])) rfl rfl (hb hby d8_11)) ?_
  show own_G p.tables e below _ (s₁.setTop (mkF m 12 #[.val (.ref a1), .val (.int (2 : Int32)), .val (.int (0 : Int32))] [(.int x1)]))
  obtain ⟨fs, hr, hrun, hended, hW, hsame⟩ := X0.leave (v := some (.int x1)) (fun h => by rw [Bd.returns] at h; cases h)
  refine own_done (retI X0 hx Bd.returns (hb hby d8_12) hr) hrun hended ⟨_, _, rfl, ?_, ⟨_, rfl⟩, hW, hsame.mono (by decide) (by decide)⟩
  show Q8_e2_0 Z a1 x0 x1 x2 x3 h0 n0 _ s₁.heap _
  rw [e0]
  exact ⟨congrArg (fun z => some (Value.int z)) (show x1 = x1 from rfl), N0, rfl⟩
theorem pn_8_e2_1 : plainName "com/example/same_bytes/samebytes/NodeIdsReversePinLaw" = true := by first | (simp [plainName, overriddenIn]; done) | decide +kernel
theorem ef_8_e2_1 (m : MethodId) (a1 : Addr) : entryFrame m #[(.ref a1), (.int (2 : Int32)), (.int (1 : Int32))] 3 = mkF m 0 #[.val (.ref a1), .val (.int (2 : Int32)), .val (.int (1 : Int32))] [] := by first | (simp [entryFrame, mkF, argsToLocals, Value.category]; done) | rfl
def Q8_e2_1 (Z : State) (a1 : Addr) (x0 : Int32) (x1 : Int32) (x2 : Int32) (x3 : Int32) (h0 : Heap) (n0 : Nat) (v : Option Value) (h : Heap) (L : List Loc) : Prop := v = some (.int x0) ∧ Fr n0 L ∧ h = h0
set_option maxRecDepth 65536 in
set_option maxHeartbeats 40000000 in
theorem rm8_e2_1 (l : Launch) (Z : State) (a0 : Array Value) (hw : ∀ d ∈ tables_1, d.before a0 Z = true) (ws : List Jvm.Cond) (a1 : Addr) (x0 : Int32) (x1 : Int32) (x2 : Int32) (x3 : Int32) (h0 : Heap) (n0 : Nat) (Z0 : n0 ≤ h0.size) (fp0 : own_Ari Z h0 a1 .int [x0, x1, x2, x3]) :
    MetFree l (⟨"com/example/same_bytes/samebytes/NodeIdsReversePinLaw", "expect", "([III)I"⟩ : MethodName) (head1 (Jvm.Cond.code (⟨"com/example/same_bytes/samebytes/NodeIdsReversePinLaw", "expect", "([III)I"⟩ : MethodName) method_3_code 3 (some .int) :: ws) ({ frames := 0, cells := 0, slots := 0, locals := 0 } : Room)) (fun a U => a = #[(.ref a1), (.int (2 : Int32)), (.int (1 : Int32))] ∧ Z.Warmed39 U.vm ∧ U.heap = h0) (fun _ _ _ _ _ => True) (fun _ U o U' => ∃ v L, o = .returned v ∧ Q8_e2_1 Z a1 x0 x1 x2 x3 h0 n0 v U'.heap L ∧ FrameEnd U o U' L ({ frames := 0, cells := 0, slots := 0, locals := 0 } : Room).cells ({ frames := 0, cells := 0, slots := 0, locals := 0 } : Room).slots) := by
  refine MetFree.of_bodySF (plainFor_of_name pn_8_e2_1) hisR ?_
  intro p e s m args below meth c s₁ Bd hml0 hP hK
  obtain ⟨rfl, hZ, hh⟩ := hP
  have hx := Bd.exec
  have hby := Bd.bytes
  have hml : c.maxLocals = 3 := hml0
  have hown : s.vm.findClass "com/example/same_bytes/samebytes/NodeIdsReversePinLaw" = some m.cls := findClass_of_methodNamed Bd.named
  have hnm := (name_of_methodNamed Bd.named Bd.method).1
  have X0 : Stand p l e ({ frames := 0, cells := 0, slots := 0, locals := 0 } : Room) s m #[(.ref a1), (.int (2 : Int32)), (.int (1 : Int32))] below meth c s₁ [] 0 0 := Stand.of_body Bd
  have e0 : s₁.heap = h0 := by rw [← hh, Bd.state]; rfl
  have N0 := Fr.nil n0
  refine own_start (fun t k => castTop (ef_8_e2_1 m a1) k) ?_
  show own_G p.tables e below _ (s₁.setTop (mkF m 0 #[.val (.ref a1), .val (.int (2 : Int32)), .val (.int (1 : Int32))] []))
  refine own_step (fun t k => XS.iloadN X0.here hx rfl (hb hby d8_0) rfl k) ?_
  show own_G p.tables e below _ (s₁.setTop (mkF m 1 #[.val (.ref a1), .val (.int (2 : Int32)), .val (.int (1 : Int32))] [(.int (1 : Int32))]))
  refine own_step (fun t k => XS.iloadN X0.here hx rfl (hb hby d8_1) rfl k) ?_
  show own_G p.tables e below _ (s₁.setTop (mkF m 2 #[.val (.ref a1), .val (.int (2 : Int32)), .val (.int (1 : Int32))] [(.int (2 : Int32)), (.int (1 : Int32))]))
  have hk1 : (1 : Int32) < (2 : Int32) := (by decide)
  refine own_step (fun t k => XS.icmpNo X0.here hx rfl (hb hby d8_2) rfl ((tlt hk1).2.1) k) ?_
  show own_G p.tables e below _ (s₁.setTop (mkF m 5 #[.val (.ref a1), .val (.int (2 : Int32)), .val (.int (1 : Int32))] []))
  refine own_step (fun t k => XS.aloadN X0.here hx rfl (hb hby d8_5) rfl rfl k) ?_
  show own_G p.tables e below _ (s₁.setTop (mkF m 6 #[.val (.ref a1), .val (.int (2 : Int32)), .val (.int (1 : Int32))] [(.ref a1)]))
  refine own_step (fun t k => XS.iloadN X0.here hx rfl (hb hby d8_6) rfl k) ?_
  show own_G p.tables e below _ (s₁.setTop (mkF m 7 #[.val (.ref a1), .val (.int (2 : Int32)), .val (.int (1 : Int32))] [(.int (2 : Int32)), (.ref a1)]))
  refine own_step (fun t k => XS.iconst X0.here hx rfl (hb hby d8_7) k) ?_
  show own_G p.tables e below _ (s₁.setTop (mkF m 8 #[.val (.ref a1), .val (.int (2 : Int32)), .val (.int (1 : Int32))] [(.int (1 : Int32)), (.int (2 : Int32)), (.ref a1)]))
  refine own_step (fun t k => XS.isub X0.here hx rfl (hb hby d8_8) rfl k) ?_
  show own_G p.tables e below _ (s₁.setTop (mkF m 9 #[.val (.ref a1), .val (.int (2 : Int32)), .val (.int (1 : Int32))] [(.int (1 : Int32)), (.ref a1)]))
  refine own_step (fun t k => XS.iloadN X0.here hx rfl (hb hby d8_9) rfl k) ?_
  show own_G p.tables e below _ (s₁.setTop (mkF m 10 #[.val (.ref a1), .val (.int (2 : Int32)), .val (.int (1 : Int32))] [(.int (1 : Int32)), (.int (1 : Int32)), (.ref a1)]))
  refine own_step (fun t k => XS.isub X0.here hx rfl (hb hby d8_10) rfl k) ?_
  show own_G p.tables e below _ (s₁.setTop (mkF m 11 #[.val (.ref a1), .val (.int (2 : Int32)), .val (.int (1 : Int32))] [(.int (0 : Int32)), (.ref a1)]))
  refine own_step (own_iaload X0 hx hZ e0 fp0 (own_inb (by decide) (Nat.le_of_ble_eq_true rfl)) (g := (mkF m 11 #[.val (.ref a1), .val (.int (2 : Int32)), .val (.int (1 : Int32))] [(.int (0 : Int32)), (.ref a1)])) rfl rfl (hb hby d8_11)) ?_
  show own_G p.tables e below _ (s₁.setTop (mkF m 12 #[.val (.ref a1), .val (.int (2 : Int32)), .val (.int (1 : Int32))] [(.int x0)]))
  obtain ⟨fs, hr, hrun, hended, hW, hsame⟩ := X0.leave (v := some (.int x0)) (fun h => by rw [Bd.returns] at h; cases h)
  refine own_done (retI X0 hx Bd.returns (hb hby d8_12) hr) hrun hended ⟨_, _, rfl, ?_, ⟨_, rfl⟩, hW, hsame.mono (by decide) (by decide)⟩
  show Q8_e2_1 Z a1 x0 x1 x2 x3 h0 n0 _ s₁.heap _
  rw [e0]
  exact ⟨congrArg (fun z => some (Value.int z)) (show x0 = x0 from rfl), N0, rfl⟩
theorem pn_8_e2_2 : plainName "com/example/same_bytes/samebytes/NodeIdsReversePinLaw" = true := by first | (simp [plainName, overriddenIn]; done) | decide +kernel
theorem ef_8_e2_2 (m : MethodId) (a1 : Addr) : entryFrame m #[(.ref a1), (.int (2 : Int32)), (.int (2 : Int32))] 3 = mkF m 0 #[.val (.ref a1), .val (.int (2 : Int32)), .val (.int (2 : Int32))] [] := by first | (simp [entryFrame, mkF, argsToLocals, Value.category]; done) | rfl
def Q8_e2_2 (Z : State) (a1 : Addr) (x0 : Int32) (x1 : Int32) (x2 : Int32) (x3 : Int32) (h0 : Heap) (n0 : Nat) (v : Option Value) (h : Heap) (L : List Loc) : Prop := v = some (.int x2) ∧ Fr n0 L ∧ h = h0
set_option maxRecDepth 65536 in
set_option maxHeartbeats 40000000 in
theorem rm8_e2_2 (l : Launch) (Z : State) (a0 : Array Value) (hw : ∀ d ∈ tables_1, d.before a0 Z = true) (ws : List Jvm.Cond) (a1 : Addr) (x0 : Int32) (x1 : Int32) (x2 : Int32) (x3 : Int32) (h0 : Heap) (n0 : Nat) (Z0 : n0 ≤ h0.size) (fp0 : own_Ari Z h0 a1 .int [x0, x1, x2, x3]) :
    MetFree l (⟨"com/example/same_bytes/samebytes/NodeIdsReversePinLaw", "expect", "([III)I"⟩ : MethodName) (head1 (Jvm.Cond.code (⟨"com/example/same_bytes/samebytes/NodeIdsReversePinLaw", "expect", "([III)I"⟩ : MethodName) method_3_code 3 (some .int) :: ws) ({ frames := 0, cells := 0, slots := 0, locals := 0 } : Room)) (fun a U => a = #[(.ref a1), (.int (2 : Int32)), (.int (2 : Int32))] ∧ Z.Warmed39 U.vm ∧ U.heap = h0) (fun _ _ _ _ _ => True) (fun _ U o U' => ∃ v L, o = .returned v ∧ Q8_e2_2 Z a1 x0 x1 x2 x3 h0 n0 v U'.heap L ∧ FrameEnd U o U' L ({ frames := 0, cells := 0, slots := 0, locals := 0 } : Room).cells ({ frames := 0, cells := 0, slots := 0, locals := 0 } : Room).slots) := by
  refine MetFree.of_bodySF (plainFor_of_name pn_8_e2_2) hisR ?_
  intro p e s m args below meth c s₁ Bd hml0 hP hK
  obtain ⟨rfl, hZ, hh⟩ := hP
  have hx := Bd.exec
  have hby := Bd.bytes
  have hml : c.maxLocals = 3 := hml0
  have hown : s.vm.findClass "com/example/same_bytes/samebytes/NodeIdsReversePinLaw" = some m.cls := findClass_of_methodNamed Bd.named
  have hnm := (name_of_methodNamed Bd.named Bd.method).1
  have X0 : Stand p l e ({ frames := 0, cells := 0, slots := 0, locals := 0 } : Room) s m #[(.ref a1), (.int (2 : Int32)), (.int (2 : Int32))] below meth c s₁ [] 0 0 := Stand.of_body Bd
  have e0 : s₁.heap = h0 := by rw [← hh, Bd.state]; rfl
  have N0 := Fr.nil n0
  refine own_start (fun t k => castTop (ef_8_e2_2 m a1) k) ?_
  show own_G p.tables e below _ (s₁.setTop (mkF m 0 #[.val (.ref a1), .val (.int (2 : Int32)), .val (.int (2 : Int32))] []))
  refine own_step (fun t k => XS.iloadN X0.here hx rfl (hb hby d8_0) rfl k) ?_
  show own_G p.tables e below _ (s₁.setTop (mkF m 1 #[.val (.ref a1), .val (.int (2 : Int32)), .val (.int (2 : Int32))] [(.int (2 : Int32))]))
  refine own_step (fun t k => XS.iloadN X0.here hx rfl (hb hby d8_1) rfl k) ?_
  show own_G p.tables e below _ (s₁.setTop (mkF m 2 #[.val (.ref a1), .val (.int (2 : Int32)), .val (.int (2 : Int32))] [(.int (2 : Int32)), (.int (2 : Int32))]))
  have hk1 : ¬ ((2 : Int32) < (2 : Int32)) := (by decide)
  refine own_step (fun t k => XS.icmpYes X0.here hx rfl (pc0 := 2) (pc' := 13) rfl (hb hby d8_2) rfl ((flt hk1).2.1) (by decide) (by decide) k) ?_
  show own_G p.tables e below _ (s₁.setTop (mkF m 13 #[.val (.ref a1), .val (.int (2 : Int32)), .val (.int (2 : Int32))] []))
  refine own_step (fun t k => XS.aloadN X0.here hx rfl (hb hby d8_13) rfl rfl k) ?_
  show own_G p.tables e below _ (s₁.setTop (mkF m 14 #[.val (.ref a1), .val (.int (2 : Int32)), .val (.int (2 : Int32))] [(.ref a1)]))
  refine own_step (fun t k => XS.iloadN X0.here hx rfl (hb hby d8_14) rfl k) ?_
  show own_G p.tables e below _ (s₁.setTop (mkF m 15 #[.val (.ref a1), .val (.int (2 : Int32)), .val (.int (2 : Int32))] [(.int (2 : Int32)), (.ref a1)]))
  refine own_step (own_iaload X0 hx hZ e0 fp0 (own_inb (by decide) (Nat.le_of_ble_eq_true rfl)) (g := (mkF m 15 #[.val (.ref a1), .val (.int (2 : Int32)), .val (.int (2 : Int32))] [(.int (2 : Int32)), (.ref a1)])) rfl rfl (hb hby d8_15)) ?_
  show own_G p.tables e below _ (s₁.setTop (mkF m 16 #[.val (.ref a1), .val (.int (2 : Int32)), .val (.int (2 : Int32))] [(.int x2)]))
  obtain ⟨fs, hr, hrun, hended, hW, hsame⟩ := X0.leave (v := some (.int x2)) (fun h => by rw [Bd.returns] at h; cases h)
  refine own_done (retI X0 hx Bd.returns (hb hby d8_16) hr) hrun hended ⟨_, _, rfl, ?_, ⟨_, rfl⟩, hW, hsame.mono (by decide) (by decide)⟩
  show Q8_e2_2 Z a1 x0 x1 x2 x3 h0 n0 _ s₁.heap _
  rw [e0]
  exact ⟨congrArg (fun z => some (Value.int z)) (show x2 = x2 from rfl), N0, rfl⟩
theorem pn_8_e2_3 : plainName "com/example/same_bytes/samebytes/NodeIdsReversePinLaw" = true := by first | (simp [plainName, overriddenIn]; done) | decide +kernel
theorem ef_8_e2_3 (m : MethodId) (a1 : Addr) : entryFrame m #[(.ref a1), (.int (2 : Int32)), (.int (3 : Int32))] 3 = mkF m 0 #[.val (.ref a1), .val (.int (2 : Int32)), .val (.int (3 : Int32))] [] := by first | (simp [entryFrame, mkF, argsToLocals, Value.category]; done) | rfl
def Q8_e2_3 (Z : State) (a1 : Addr) (x0 : Int32) (x1 : Int32) (x2 : Int32) (x3 : Int32) (h0 : Heap) (n0 : Nat) (v : Option Value) (h : Heap) (L : List Loc) : Prop := v = some (.int x3) ∧ Fr n0 L ∧ h = h0
set_option maxRecDepth 65536 in
set_option maxHeartbeats 40000000 in
theorem rm8_e2_3 (l : Launch) (Z : State) (a0 : Array Value) (hw : ∀ d ∈ tables_1, d.before a0 Z = true) (ws : List Jvm.Cond) (a1 : Addr) (x0 : Int32) (x1 : Int32) (x2 : Int32) (x3 : Int32) (h0 : Heap) (n0 : Nat) (Z0 : n0 ≤ h0.size) (fp0 : own_Ari Z h0 a1 .int [x0, x1, x2, x3]) :
    MetFree l (⟨"com/example/same_bytes/samebytes/NodeIdsReversePinLaw", "expect", "([III)I"⟩ : MethodName) (head1 (Jvm.Cond.code (⟨"com/example/same_bytes/samebytes/NodeIdsReversePinLaw", "expect", "([III)I"⟩ : MethodName) method_3_code 3 (some .int) :: ws) ({ frames := 0, cells := 0, slots := 0, locals := 0 } : Room)) (fun a U => a = #[(.ref a1), (.int (2 : Int32)), (.int (3 : Int32))] ∧ Z.Warmed39 U.vm ∧ U.heap = h0) (fun _ _ _ _ _ => True) (fun _ U o U' => ∃ v L, o = .returned v ∧ Q8_e2_3 Z a1 x0 x1 x2 x3 h0 n0 v U'.heap L ∧ FrameEnd U o U' L ({ frames := 0, cells := 0, slots := 0, locals := 0 } : Room).cells ({ frames := 0, cells := 0, slots := 0, locals := 0 } : Room).slots) := by
  refine MetFree.of_bodySF (plainFor_of_name pn_8_e2_3) hisR ?_
  intro p e s m args below meth c s₁ Bd hml0 hP hK
  obtain ⟨rfl, hZ, hh⟩ := hP
  have hx := Bd.exec
  have hby := Bd.bytes
  have hml : c.maxLocals = 3 := hml0
  have hown : s.vm.findClass "com/example/same_bytes/samebytes/NodeIdsReversePinLaw" = some m.cls := findClass_of_methodNamed Bd.named
  have hnm := (name_of_methodNamed Bd.named Bd.method).1
  have X0 : Stand p l e ({ frames := 0, cells := 0, slots := 0, locals := 0 } : Room) s m #[(.ref a1), (.int (2 : Int32)), (.int (3 : Int32))] below meth c s₁ [] 0 0 := Stand.of_body Bd
  have e0 : s₁.heap = h0 := by rw [← hh, Bd.state]; rfl
  have N0 := Fr.nil n0
  refine own_start (fun t k => castTop (ef_8_e2_3 m a1) k) ?_
  show own_G p.tables e below _ (s₁.setTop (mkF m 0 #[.val (.ref a1), .val (.int (2 : Int32)), .val (.int (3 : Int32))] []))
  refine own_step (fun t k => XS.iloadN X0.here hx rfl (hb hby d8_0) rfl k) ?_
  show own_G p.tables e below _ (s₁.setTop (mkF m 1 #[.val (.ref a1), .val (.int (2 : Int32)), .val (.int (3 : Int32))] [(.int (3 : Int32))]))
  refine own_step (fun t k => XS.iloadN X0.here hx rfl (hb hby d8_1) rfl k) ?_
  show own_G p.tables e below _ (s₁.setTop (mkF m 2 #[.val (.ref a1), .val (.int (2 : Int32)), .val (.int (3 : Int32))] [(.int (2 : Int32)), (.int (3 : Int32))]))
  have hk1 : ¬ ((3 : Int32) < (2 : Int32)) := (by decide)
  refine own_step (fun t k => XS.icmpYes X0.here hx rfl (pc0 := 2) (pc' := 13) rfl (hb hby d8_2) rfl ((flt hk1).2.1) (by decide) (by decide) k) ?_
  show own_G p.tables e below _ (s₁.setTop (mkF m 13 #[.val (.ref a1), .val (.int (2 : Int32)), .val (.int (3 : Int32))] []))
  refine own_step (fun t k => XS.aloadN X0.here hx rfl (hb hby d8_13) rfl rfl k) ?_
  show own_G p.tables e below _ (s₁.setTop (mkF m 14 #[.val (.ref a1), .val (.int (2 : Int32)), .val (.int (3 : Int32))] [(.ref a1)]))
  refine own_step (fun t k => XS.iloadN X0.here hx rfl (hb hby d8_14) rfl k) ?_
  show own_G p.tables e below _ (s₁.setTop (mkF m 15 #[.val (.ref a1), .val (.int (2 : Int32)), .val (.int (3 : Int32))] [(.int (3 : Int32)), (.ref a1)]))
  refine own_step (own_iaload X0 hx hZ e0 fp0 (own_inb (by decide) (Nat.le_of_ble_eq_true rfl)) (g := (mkF m 15 #[.val (.ref a1), .val (.int (2 : Int32)), .val (.int (3 : Int32))] [(.int (3 : Int32)), (.ref a1)])) rfl rfl (hb hby d8_15)) ?_
  show own_G p.tables e below _ (s₁.setTop (mkF m 16 #[.val (.ref a1), .val (.int (2 : Int32)), .val (.int (3 : Int32))] [(.int x3)]))
  obtain ⟨fs, hr, hrun, hended, hW, hsame⟩ := X0.leave (v := some (.int x3)) (fun h => by rw [Bd.returns] at h; cases h)
  refine own_done (retI X0 hx Bd.returns (hb hby d8_16) hr) hrun hended ⟨_, _, rfl, ?_, ⟨_, rfl⟩, hW, hsame.mono (by decide) (by decide)⟩
  show Q8_e2_3 Z a1 x0 x1 x2 x3 h0 n0 _ s₁.heap _
  rw [e0]
  exact ⟨congrArg (fun z => some (Value.int z)) (show x3 = x3 from rfl), N0, rfl⟩
theorem pn_5_s3 : plainName "com/example/same_bytes/samebytes/NodeIds" = true := by first | (simp [plainName, overriddenIn]; done) | decide +kernel
theorem ef_5_s3 (m : MethodId) (a1 : Addr) : entryFrame m #[(.ref a1)] 4 = mkF m 0 #[.val (.ref a1), .unset, .unset, .unset] [] := by first | (simp [entryFrame, mkF, argsToLocals, Value.category]; done) | rfl
def Q5_s3 (Z : State) (a1 : Addr) (u_ids : Addr) (x0 : Int32) (x1 : Int32) (x2 : Int32) (x3 : Int32) (x4 : Int32) (x5 : Int32) (x6 : Int32) (x7 : Int32) (h0 : Heap) (n0 : Nat) (v : Option Value) (h : Heap) (L : List Loc) : Prop := v = none ∧ Fr n0 L ∧ Keep h0 h [u_ids] ∧ own_Ari Z h u_ids .int [x2, x1, x0, x3, x4, x5, x6, x7]
set_option maxRecDepth 65536 in
set_option maxHeartbeats 40000000 in
theorem rm5_s3 (l : Launch) (Z : State) (a0 : Array Value) (hw : ∀ d ∈ tables_1, d.before a0 Z = true) (ws : List Jvm.Cond) (a1 : Addr) (u_ids : Addr) (x0 : Int32) (x1 : Int32) (x2 : Int32) (x3 : Int32) (x4 : Int32) (x5 : Int32) (x6 : Int32) (x7 : Int32) (h0 : Heap) (n0 : Nat) (Z0 : n0 ≤ h0.size) (fp0 : Exa Z h0 a1 "com/example/same_bytes/samebytes/NodeIds") (fp1 : Fld Z h0 a1 "com/example/same_bytes/samebytes/NodeIds" "size" "I" (.int (3 : Int32))) (fp2 : Fld Z h0 a1 "com/example/same_bytes/samebytes/NodeIds" "ids" "[I" (.ref u_ids)) (fp3 : own_Ari Z h0 u_ids .int [x0, x1, x2, x3, x4, x5, x6, x7]) (g_u_ids : n0 ≤ u_ids) (ne_a1_u_ids : a1 ≠ u_ids) :
    MetFree l (⟨"com/example/same_bytes/samebytes/NodeIds", "reverse", "()V"⟩ : MethodName) (head1 (Jvm.Cond.code (⟨"com/example/same_bytes/samebytes/NodeIds", "reverse", "()V"⟩ : MethodName) prog_70_method_12_code 4 none :: ws) ({ frames := 0, cells := 0, slots := 0, locals := 0 } : Room)) (fun a U => a = #[(.ref a1)] ∧ Z.Warmed39 U.vm ∧ U.heap = h0) (fun _ _ _ _ _ => True) (fun _ U o U' => ∃ v L, o = .returned v ∧ Q5_s3 Z a1 u_ids x0 x1 x2 x3 x4 x5 x6 x7 h0 n0 v U'.heap L ∧ FrameEnd U o U' L ({ frames := 0, cells := 0, slots := 0, locals := 0 } : Room).cells ({ frames := 0, cells := 0, slots := 0, locals := 0 } : Room).slots) := by
  refine MetFree.of_bodySF (plainFor_of_name pn_5_s3) hisR ?_
  intro p e s m args below meth c s₁ Bd hml0 hP hK
  obtain ⟨rfl, hZ, hh⟩ := hP
  have hx := Bd.exec
  have hby := Bd.bytes
  have hml : c.maxLocals = 4 := hml0
  have hown : s.vm.findClass "com/example/same_bytes/samebytes/NodeIds" = some m.cls := findClass_of_methodNamed Bd.named
  have hnm := (name_of_methodNamed Bd.named Bd.method).1
  have X0 : Stand p l e ({ frames := 0, cells := 0, slots := 0, locals := 0 } : Room) s m #[(.ref a1)] below meth c s₁ [] 0 0 := Stand.of_body Bd
  have e0 : s₁.heap = h0 := by rw [← hh, Bd.state]; rfl
  have N0 := Fr.nil n0
  refine own_start (fun t k => castTop (ef_5_s3 m a1) k) ?_
  show own_G p.tables e below _ (s₁.setTop (mkF m 0 #[.val (.ref a1), .unset, .unset, .unset] []))
  refine own_step (fun t k => XS.iconst X0.here hx rfl (hb hby d5_0) k) ?_
  show own_G p.tables e below _ (s₁.setTop (mkF m 1 #[.val (.ref a1), .unset, .unset, .unset] [(.int (0 : Int32))]))
  refine own_step (fun t k => XS.istoreN X0.here hx rfl (hb hby d5_1) rfl (l' := #[.val (.ref a1), .val (.int (0 : Int32)), .unset, .unset]) rfl k) ?_
  show own_G p.tables e below _ (s₁.setTop (mkF m 2 #[.val (.ref a1), .val (.int (0 : Int32)), .unset, .unset] []))
  refine own_step (fun t k => XS.aloadN X0.here hx rfl (hb hby d5_2) rfl rfl k) ?_
  show own_G p.tables e below _ (s₁.setTop (mkF m 3 #[.val (.ref a1), .val (.int (0 : Int32)), .unset, .unset] [(.ref a1)]))
  obtain ⟨T1, X1, e1, st1⟩ := getF X0 hx hZ hown (host := "") (Or.inl (hw _ (List.mem_of_getElem? (i := 18) rfl))) Via.refl e0 fp1 (g := (mkF m 3 #[.val (.ref a1), .val (.int (0 : Int32)), .unset, .unset] [(.ref a1)])) rfl rfl (hb hby d5_3)
  refine own_step st1 ?_
  show own_G p.tables e below _ (T1.setTop (mkF m 6 #[.val (.ref a1), .val (.int (0 : Int32)), .unset, .unset] [(.int (3 : Int32))]))
  refine own_step (fun t k => XS.iconst X1.here hx rfl (hb hby d5_6) k) ?_
  show own_G p.tables e below _ (T1.setTop (mkF m 7 #[.val (.ref a1), .val (.int (0 : Int32)), .unset, .unset] [(.int (1 : Int32)), (.int (3 : Int32))]))
  refine own_step (fun t k => XS.isub X1.here hx rfl (hb hby d5_7) rfl k) ?_
  show own_G p.tables e below _ (T1.setTop (mkF m 8 #[.val (.ref a1), .val (.int (0 : Int32)), .unset, .unset] [(.int (2 : Int32))]))
  refine own_step (fun t k => XS.istoreN X1.here hx rfl (hb hby d5_8) rfl (l' := #[.val (.ref a1), .val (.int (0 : Int32)), .val (.int (2 : Int32)), .unset]) rfl k) ?_
  show own_G p.tables e below _ (T1.setTop (mkF m 9 #[.val (.ref a1), .val (.int (0 : Int32)), .val (.int (2 : Int32)), .unset] []))
  refine own_step (fun t k => XS.iloadN X1.here hx rfl (hb hby d5_9) rfl k) ?_
  show own_G p.tables e below _ (T1.setTop (mkF m 10 #[.val (.ref a1), .val (.int (0 : Int32)), .val (.int (2 : Int32)), .unset] [(.int (0 : Int32))]))
  refine own_step (fun t k => XS.iloadN X1.here hx rfl (hb hby d5_10) rfl k) ?_
  show own_G p.tables e below _ (T1.setTop (mkF m 11 #[.val (.ref a1), .val (.int (0 : Int32)), .val (.int (2 : Int32)), .unset] [(.int (2 : Int32)), (.int (0 : Int32))]))
  have hk2 : (0 : Int32) < (2 : Int32) := (by decide)
  refine own_step (fun t k => XS.icmpNo X1.here hx rfl (hb hby d5_11) rfl ((tlt hk2).2.1) k) ?_
  show own_G p.tables e below _ (T1.setTop (mkF m 14 #[.val (.ref a1), .val (.int (0 : Int32)), .val (.int (2 : Int32)), .unset] []))
  refine own_step (fun t k => XS.aloadN X1.here hx rfl (hb hby d5_14) rfl rfl k) ?_
  show own_G p.tables e below _ (T1.setTop (mkF m 15 #[.val (.ref a1), .val (.int (0 : Int32)), .val (.int (2 : Int32)), .unset] [(.ref a1)]))
  obtain ⟨T3, X3, e3, st3⟩ := getF X1 hx hZ hown (host := "") (Or.inl (hw _ (List.mem_of_getElem? (i := 11) rfl))) Via.refl e1 fp2 (g := (mkF m 15 #[.val (.ref a1), .val (.int (0 : Int32)), .val (.int (2 : Int32)), .unset] [(.ref a1)])) rfl rfl (hb hby d5_15)
  refine own_step st3 ?_
  show own_G p.tables e below _ (T3.setTop (mkF m 18 #[.val (.ref a1), .val (.int (0 : Int32)), .val (.int (2 : Int32)), .unset] [(.ref u_ids)]))
  refine own_step (fun t k => XS.iloadN X3.here hx rfl (hb hby d5_18) rfl k) ?_
  show own_G p.tables e below _ (T3.setTop (mkF m 19 #[.val (.ref a1), .val (.int (0 : Int32)), .val (.int (2 : Int32)), .unset] [(.int (0 : Int32)), (.ref u_ids)]))
  refine own_step (own_iaload X3 hx hZ e3 fp3 (own_inb (by decide) (Nat.le_of_ble_eq_true rfl)) (g := (mkF m 19 #[.val (.ref a1), .val (.int (0 : Int32)), .val (.int (2 : Int32)), .unset] [(.int (0 : Int32)), (.ref u_ids)])) rfl rfl (hb hby d5_19)) ?_
  show own_G p.tables e below _ (T3.setTop (mkF m 20 #[.val (.ref a1), .val (.int (0 : Int32)), .val (.int (2 : Int32)), .unset] [(.int x0)]))
  refine own_step (fun t k => XS.istoreN X3.here hx rfl (hb hby d5_20) rfl (l' := #[.val (.ref a1), .val (.int (0 : Int32)), .val (.int (2 : Int32)), .val (.int x0)]) rfl k) ?_
  show own_G p.tables e below _ (T3.setTop (mkF m 21 #[.val (.ref a1), .val (.int (0 : Int32)), .val (.int (2 : Int32)), .val (.int x0)] []))
  refine own_step (fun t k => XS.aloadN X3.here hx rfl (hb hby d5_21) rfl rfl k) ?_
  show own_G p.tables e below _ (T3.setTop (mkF m 22 #[.val (.ref a1), .val (.int (0 : Int32)), .val (.int (2 : Int32)), .val (.int x0)] [(.ref a1)]))
  obtain ⟨T4, X4, e4, st4⟩ := getF X3 hx hZ hown (host := "") (Or.inl (hw _ (List.mem_of_getElem? (i := 11) rfl))) Via.refl e3 fp2 (g := (mkF m 22 #[.val (.ref a1), .val (.int (0 : Int32)), .val (.int (2 : Int32)), .val (.int x0)] [(.ref a1)])) rfl rfl (hb hby d5_22)
  refine own_step st4 ?_
  show own_G p.tables e below _ (T4.setTop (mkF m 25 #[.val (.ref a1), .val (.int (0 : Int32)), .val (.int (2 : Int32)), .val (.int x0)] [(.ref u_ids)]))
  refine own_step (fun t k => XS.iloadN X4.here hx rfl (hb hby d5_25) rfl k) ?_
  show own_G p.tables e below _ (T4.setTop (mkF m 26 #[.val (.ref a1), .val (.int (0 : Int32)), .val (.int (2 : Int32)), .val (.int x0)] [(.int (0 : Int32)), (.ref u_ids)]))
  refine own_step (fun t k => XS.aloadN X4.here hx rfl (hb hby d5_26) rfl rfl k) ?_
  show own_G p.tables e below _ (T4.setTop (mkF m 27 #[.val (.ref a1), .val (.int (0 : Int32)), .val (.int (2 : Int32)), .val (.int x0)] [(.ref a1), (.int (0 : Int32)), (.ref u_ids)]))
  obtain ⟨T5, X5, e5, st5⟩ := getF X4 hx hZ hown (host := "") (Or.inl (hw _ (List.mem_of_getElem? (i := 11) rfl))) Via.refl e4 fp2 (g := (mkF m 27 #[.val (.ref a1), .val (.int (0 : Int32)), .val (.int (2 : Int32)), .val (.int x0)] [(.ref a1), (.int (0 : Int32)), (.ref u_ids)])) rfl rfl (hb hby d5_27)
  refine own_step st5 ?_
  show own_G p.tables e below _ (T5.setTop (mkF m 30 #[.val (.ref a1), .val (.int (0 : Int32)), .val (.int (2 : Int32)), .val (.int x0)] [(.ref u_ids), (.int (0 : Int32)), (.ref u_ids)]))
  refine own_step (fun t k => XS.iloadN X5.here hx rfl (hb hby d5_30) rfl k) ?_
  show own_G p.tables e below _ (T5.setTop (mkF m 31 #[.val (.ref a1), .val (.int (0 : Int32)), .val (.int (2 : Int32)), .val (.int x0)] [(.int (2 : Int32)), (.ref u_ids), (.int (0 : Int32)), (.ref u_ids)]))
  refine own_step (own_iaload X5 hx hZ e5 fp3 (own_inb (by decide) (Nat.le_of_ble_eq_true rfl)) (g := (mkF m 31 #[.val (.ref a1), .val (.int (0 : Int32)), .val (.int (2 : Int32)), .val (.int x0)] [(.int (2 : Int32)), (.ref u_ids), (.int (0 : Int32)), (.ref u_ids)])) rfl rfl (hb hby d5_31)) ?_
  show own_G p.tables e below _ (T5.setTop (mkF m 32 #[.val (.ref a1), .val (.int (0 : Int32)), .val (.int (2 : Int32)), .val (.int x0)] [(.int x2), (.int (0 : Int32)), (.ref u_ids)]))
  obtain ⟨T6, h6, X6, e6, W6, c6, st6⟩ := own_iastore X5 hx hZ e5 fp3 (own_inb (by decide) (Nat.le_of_ble_eq_true rfl)) (g := (mkF m 32 #[.val (.ref a1), .val (.int (0 : Int32)), .val (.int (2 : Int32)), .val (.int x0)] [(.int x2), (.int (0 : Int32)), (.ref u_ids)])) rfl rfl (hb hby d5_32)
  have N6 := Fr.snoc X6 N0 g_u_ids
  have c7 : own_Ari Z h6 u_ids .int [x2, x1, x2, x3, x4, x5, x6, x7] := c6
  have c8 : Exa Z h6 a1 "com/example/same_bytes/samebytes/NodeIds" := fp0.wr W6
  have c9 : Fld Z h6 a1 "com/example/same_bytes/samebytes/NodeIds" "size" "I" (.int (3 : Int32)) := fp1.other W6 (Or.inl ne_a1_u_ids)
  have c10 : Fld Z h6 a1 "com/example/same_bytes/samebytes/NodeIds" "ids" "[I" (.ref u_ids) := fp2.other W6 (Or.inl ne_a1_u_ids)
  have K6 : Keep h0 h6 [u_ids] := (Keep.refl h0 [u_ids]).wr W6 (Or.inl (List.mem_of_getElem? (i := 0) rfl))
  refine own_step st6 ?_
  show own_G p.tables e below _ (T6.setTop (mkF m 33 #[.val (.ref a1), .val (.int (0 : Int32)), .val (.int (2 : Int32)), .val (.int x0)] []))
  refine own_step (fun t k => XS.aloadN X6.here hx rfl (hb hby d5_33) rfl rfl k) ?_
  show own_G p.tables e below _ (T6.setTop (mkF m 34 #[.val (.ref a1), .val (.int (0 : Int32)), .val (.int (2 : Int32)), .val (.int x0)] [(.ref a1)]))
  obtain ⟨T12, X12, e12, st12⟩ := getF X6 hx hZ hown (host := "") (Or.inl (hw _ (List.mem_of_getElem? (i := 11) rfl))) Via.refl e6 c10 (g := (mkF m 34 #[.val (.ref a1), .val (.int (0 : Int32)), .val (.int (2 : Int32)), .val (.int x0)] [(.ref a1)])) rfl rfl (hb hby d5_34)
  refine own_step st12 ?_
  show own_G p.tables e below _ (T12.setTop (mkF m 37 #[.val (.ref a1), .val (.int (0 : Int32)), .val (.int (2 : Int32)), .val (.int x0)] [(.ref u_ids)]))
  refine own_step (fun t k => XS.iloadN X12.here hx rfl (hb hby d5_37) rfl k) ?_
  show own_G p.tables e below _ (T12.setTop (mkF m 38 #[.val (.ref a1), .val (.int (0 : Int32)), .val (.int (2 : Int32)), .val (.int x0)] [(.int (2 : Int32)), (.ref u_ids)]))
  refine own_step (fun t k => XS.iloadN X12.here hx rfl (hb hby d5_38) rfl k) ?_
  show own_G p.tables e below _ (T12.setTop (mkF m 39 #[.val (.ref a1), .val (.int (0 : Int32)), .val (.int (2 : Int32)), .val (.int x0)] [(.int x0), (.int (2 : Int32)), (.ref u_ids)]))
  obtain ⟨T13, h13, X13, e13, W13, c13, st13⟩ := own_iastore X12 hx hZ e12 c7 (own_inb (by decide) (Nat.le_of_ble_eq_true rfl)) (g := (mkF m 39 #[.val (.ref a1), .val (.int (0 : Int32)), .val (.int (2 : Int32)), .val (.int x0)] [(.int x0), (.int (2 : Int32)), (.ref u_ids)])) rfl rfl (hb hby d5_39)
  have N13 := Fr.snoc X13 N6 g_u_ids
  have c14 : own_Ari Z h13 u_ids .int [x2, x1, x0, x3, x4, x5, x6, x7] := c13
  have c15 : Exa Z h13 a1 "com/example/same_bytes/samebytes/NodeIds" := c8.wr W13
  have c16 : Fld Z h13 a1 "com/example/same_bytes/samebytes/NodeIds" "size" "I" (.int (3 : Int32)) := c9.other W13 (Or.inl ne_a1_u_ids)
  have c17 : Fld Z h13 a1 "com/example/same_bytes/samebytes/NodeIds" "ids" "[I" (.ref u_ids) := c10.other W13 (Or.inl ne_a1_u_ids)
  have K13 : Keep h0 h13 [u_ids] := K6.wr W13 (Or.inl (List.mem_of_getElem? (i := 0) rfl))
  refine own_step st13 ?_
  show own_G p.tables e below _ (T13.setTop (mkF m 40 #[.val (.ref a1), .val (.int (0 : Int32)), .val (.int (2 : Int32)), .val (.int x0)] []))
  refine own_step (fun t k => XS.iinc X13.here hx rfl (hb hby d5_40) rfl (l' := #[.val (.ref a1), .val (.int (1 : Int32)), .val (.int (2 : Int32)), .val (.int x0)]) rfl k) ?_
  show own_G p.tables e below _ (T13.setTop (mkF m 43 #[.val (.ref a1), .val (.int (1 : Int32)), .val (.int (2 : Int32)), .val (.int x0)] []))
  refine own_step (fun t k => XS.iinc X13.here hx rfl (hb hby d5_43) rfl (l' := #[.val (.ref a1), .val (.int (1 : Int32)), .val (.int (1 : Int32)), .val (.int x0)]) rfl k) ?_
  show own_G p.tables e below _ (T13.setTop (mkF m 46 #[.val (.ref a1), .val (.int (1 : Int32)), .val (.int (1 : Int32)), .val (.int x0)] []))
  refine own_step (fun t k => XS.goto X13.here hx rfl (pc0 := 46) (pc' := 9) rfl (hb hby d5_46) (by decide) (by decide) k) ?_
  show own_G p.tables e below _ (T13.setTop (mkF m 9 #[.val (.ref a1), .val (.int (1 : Int32)), .val (.int (1 : Int32)), .val (.int x0)] []))
  refine own_step (fun t k => XS.iloadN X13.here hx rfl (hb hby d5_9) rfl k) ?_
  show own_G p.tables e below _ (T13.setTop (mkF m 10 #[.val (.ref a1), .val (.int (1 : Int32)), .val (.int (1 : Int32)), .val (.int x0)] [(.int (1 : Int32))]))
  refine own_step (fun t k => XS.iloadN X13.here hx rfl (hb hby d5_10) rfl k) ?_
  show own_G p.tables e below _ (T13.setTop (mkF m 11 #[.val (.ref a1), .val (.int (1 : Int32)), .val (.int (1 : Int32)), .val (.int x0)] [(.int (1 : Int32)), (.int (1 : Int32))]))
  have hk19 : ¬ ((1 : Int32) < (1 : Int32)) := (by decide)
  refine own_step (fun t k => XS.icmpYes X13.here hx rfl (pc0 := 11) (pc' := 49) rfl (hb hby d5_11) rfl ((flt hk19).2.1) (by decide) (by decide) k) ?_
  show own_G p.tables e below _ (T13.setTop (mkF m 49 #[.val (.ref a1), .val (.int (1 : Int32)), .val (.int (1 : Int32)), .val (.int x0)] []))
  obtain ⟨fs, hr, hrun, hended, hW, hsame⟩ := X13.leave (v := none) (fun _ => rfl)
  refine own_done (X13.returnOut hx Bd.returns (hb hby d5_49) hr) hrun hended ⟨_, _, rfl, ?_, ⟨_, rfl⟩, hW, hsame.mono (by decide) (by decide)⟩
  show Q5_s3 Z a1 u_ids x0 x1 x2 x3 x4 x5 x6 x7 h0 n0 _ T13.heap _
  rw [e13]
  exact ⟨rfl, N13, K13, c14⟩
theorem pn_8_e3_0 : plainName "com/example/same_bytes/samebytes/NodeIdsReversePinLaw" = true := by first | (simp [plainName, overriddenIn]; done) | decide +kernel
theorem ef_8_e3_0 (m : MethodId) (a1 : Addr) : entryFrame m #[(.ref a1), (.int (3 : Int32)), (.int (0 : Int32))] 3 = mkF m 0 #[.val (.ref a1), .val (.int (3 : Int32)), .val (.int (0 : Int32))] [] := by first | (simp [entryFrame, mkF, argsToLocals, Value.category]; done) | rfl
def Q8_e3_0 (Z : State) (a1 : Addr) (x0 : Int32) (x1 : Int32) (x2 : Int32) (x3 : Int32) (h0 : Heap) (n0 : Nat) (v : Option Value) (h : Heap) (L : List Loc) : Prop := v = some (.int x2) ∧ Fr n0 L ∧ h = h0
set_option maxRecDepth 65536 in
set_option maxHeartbeats 40000000 in
theorem rm8_e3_0 (l : Launch) (Z : State) (a0 : Array Value) (hw : ∀ d ∈ tables_1, d.before a0 Z = true) (ws : List Jvm.Cond) (a1 : Addr) (x0 : Int32) (x1 : Int32) (x2 : Int32) (x3 : Int32) (h0 : Heap) (n0 : Nat) (Z0 : n0 ≤ h0.size) (fp0 : own_Ari Z h0 a1 .int [x0, x1, x2, x3]) :
    MetFree l (⟨"com/example/same_bytes/samebytes/NodeIdsReversePinLaw", "expect", "([III)I"⟩ : MethodName) (head1 (Jvm.Cond.code (⟨"com/example/same_bytes/samebytes/NodeIdsReversePinLaw", "expect", "([III)I"⟩ : MethodName) method_3_code 3 (some .int) :: ws) ({ frames := 0, cells := 0, slots := 0, locals := 0 } : Room)) (fun a U => a = #[(.ref a1), (.int (3 : Int32)), (.int (0 : Int32))] ∧ Z.Warmed39 U.vm ∧ U.heap = h0) (fun _ _ _ _ _ => True) (fun _ U o U' => ∃ v L, o = .returned v ∧ Q8_e3_0 Z a1 x0 x1 x2 x3 h0 n0 v U'.heap L ∧ FrameEnd U o U' L ({ frames := 0, cells := 0, slots := 0, locals := 0 } : Room).cells ({ frames := 0, cells := 0, slots := 0, locals := 0 } : Room).slots) := by
  refine MetFree.of_bodySF (plainFor_of_name pn_8_e3_0) hisR ?_
  intro p e s m args below meth c s₁ Bd hml0 hP hK
  obtain ⟨rfl, hZ, hh⟩ := hP
  have hx := Bd.exec
  have hby := Bd.bytes
  have hml : c.maxLocals = 3 := hml0
  have hown : s.vm.findClass "com/example/same_bytes/samebytes/NodeIdsReversePinLaw" = some m.cls := findClass_of_methodNamed Bd.named
  have hnm := (name_of_methodNamed Bd.named Bd.method).1
  have X0 : Stand p l e ({ frames := 0, cells := 0, slots := 0, locals := 0 } : Room) s m #[(.ref a1), (.int (3 : Int32)), (.int (0 : Int32))] below meth c s₁ [] 0 0 := Stand.of_body Bd
  have e0 : s₁.heap = h0 := by rw [← hh, Bd.state]; rfl
  have N0 := Fr.nil n0
  refine own_start (fun t k => castTop (ef_8_e3_0 m a1) k) ?_
  show own_G p.tables e below _ (s₁.setTop (mkF m 0 #[.val (.ref a1), .val (.int (3 : Int32)), .val (.int (0 : Int32))] []))
  refine own_step (fun t k => XS.iloadN X0.here hx rfl (hb hby d8_0) rfl k) ?_
  show own_G p.tables e below _ (s₁.setTop (mkF m 1 #[.val (.ref a1), .val (.int (3 : Int32)), .val (.int (0 : Int32))] [(.int (0 : Int32))]))
  refine own_step (fun t k => XS.iloadN X0.here hx rfl (hb hby d8_1) rfl k) ?_
  show own_G p.tables e below _ (s₁.setTop (mkF m 2 #[.val (.ref a1), .val (.int (3 : Int32)), .val (.int (0 : Int32))] [(.int (3 : Int32)), (.int (0 : Int32))]))
  have hk1 : (0 : Int32) < (3 : Int32) := (by decide)
  refine own_step (fun t k => XS.icmpNo X0.here hx rfl (hb hby d8_2) rfl ((tlt hk1).2.1) k) ?_
  show own_G p.tables e below _ (s₁.setTop (mkF m 5 #[.val (.ref a1), .val (.int (3 : Int32)), .val (.int (0 : Int32))] []))
  refine own_step (fun t k => XS.aloadN X0.here hx rfl (hb hby d8_5) rfl rfl k) ?_
  show own_G p.tables e below _ (s₁.setTop (mkF m 6 #[.val (.ref a1), .val (.int (3 : Int32)), .val (.int (0 : Int32))] [(.ref a1)]))
  refine own_step (fun t k => XS.iloadN X0.here hx rfl (hb hby d8_6) rfl k) ?_
  show own_G p.tables e below _ (s₁.setTop (mkF m 7 #[.val (.ref a1), .val (.int (3 : Int32)), .val (.int (0 : Int32))] [(.int (3 : Int32)), (.ref a1)]))
  refine own_step (fun t k => XS.iconst X0.here hx rfl (hb hby d8_7) k) ?_
  show own_G p.tables e below _ (s₁.setTop (mkF m 8 #[.val (.ref a1), .val (.int (3 : Int32)), .val (.int (0 : Int32))] [(.int (1 : Int32)), (.int (3 : Int32)), (.ref a1)]))
  refine own_step (fun t k => XS.isub X0.here hx rfl (hb hby d8_8) rfl k) ?_
  show own_G p.tables e below _ (s₁.setTop (mkF m 9 #[.val (.ref a1), .val (.int (3 : Int32)), .val (.int (0 : Int32))] [(.int (2 : Int32)), (.ref a1)]))
  refine own_step (fun t k => XS.iloadN X0.here hx rfl (hb hby d8_9) rfl k) ?_
  show own_G p.tables e below _ (s₁.setTop (mkF m 10 #[.val (.ref a1), .val (.int (3 : Int32)), .val (.int (0 : Int32))] [(.int (0 : Int32)), (.int (2 : Int32)), (.ref a1)]))
  refine own_step (fun t k => XS.isub X0.here hx rfl (hb hby d8_10) rfl k) ?_
  show own_G p.tables e below _ (s₁.setTop (mkF m 11 #[.val (.ref a1), .val (.int (3 : Int32)), .val (.int (0 : Int32))] [(.int (2 : Int32)), (.ref a1)]))
  refine own_step (own_iaload X0 hx hZ e0 fp0 (own_inb (by decide) (Nat.le_of_ble_eq_true rfl)) (g := (mkF m 11 #[.val (.ref a1), .val (.int (3 : Int32)), .val (.int (0 : Int32))] [(.int (2 : Int32)), (.ref a1)])) rfl rfl (hb hby d8_11)) ?_
  show own_G p.tables e below _ (s₁.setTop (mkF m 12 #[.val (.ref a1), .val (.int (3 : Int32)), .val (.int (0 : Int32))] [(.int x2)]))
  obtain ⟨fs, hr, hrun, hended, hW, hsame⟩ := X0.leave (v := some (.int x2)) (fun h => by rw [Bd.returns] at h; cases h)
  refine own_done (retI X0 hx Bd.returns (hb hby d8_12) hr) hrun hended ⟨_, _, rfl, ?_, ⟨_, rfl⟩, hW, hsame.mono (by decide) (by decide)⟩
  show Q8_e3_0 Z a1 x0 x1 x2 x3 h0 n0 _ s₁.heap _
  rw [e0]
  exact ⟨congrArg (fun z => some (Value.int z)) (show x2 = x2 from rfl), N0, rfl⟩
theorem pn_8_e3_1 : plainName "com/example/same_bytes/samebytes/NodeIdsReversePinLaw" = true := by first | (simp [plainName, overriddenIn]; done) | decide +kernel
theorem ef_8_e3_1 (m : MethodId) (a1 : Addr) : entryFrame m #[(.ref a1), (.int (3 : Int32)), (.int (1 : Int32))] 3 = mkF m 0 #[.val (.ref a1), .val (.int (3 : Int32)), .val (.int (1 : Int32))] [] := by first | (simp [entryFrame, mkF, argsToLocals, Value.category]; done) | rfl
def Q8_e3_1 (Z : State) (a1 : Addr) (x0 : Int32) (x1 : Int32) (x2 : Int32) (x3 : Int32) (h0 : Heap) (n0 : Nat) (v : Option Value) (h : Heap) (L : List Loc) : Prop := v = some (.int x1) ∧ Fr n0 L ∧ h = h0
set_option maxRecDepth 65536 in
set_option maxHeartbeats 40000000 in
theorem rm8_e3_1 (l : Launch) (Z : State) (a0 : Array Value) (hw : ∀ d ∈ tables_1, d.before a0 Z = true) (ws : List Jvm.Cond) (a1 : Addr) (x0 : Int32) (x1 : Int32) (x2 : Int32) (x3 : Int32) (h0 : Heap) (n0 : Nat) (Z0 : n0 ≤ h0.size) (fp0 : own_Ari Z h0 a1 .int [x0, x1, x2, x3]) :
    MetFree l (⟨"com/example/same_bytes/samebytes/NodeIdsReversePinLaw", "expect", "([III)I"⟩ : MethodName) (head1 (Jvm.Cond.code (⟨"com/example/same_bytes/samebytes/NodeIdsReversePinLaw", "expect", "([III)I"⟩ : MethodName) method_3_code 3 (some .int) :: ws) ({ frames := 0, cells := 0, slots := 0, locals := 0 } : Room)) (fun a U => a = #[(.ref a1), (.int (3 : Int32)), (.int (1 : Int32))] ∧ Z.Warmed39 U.vm ∧ U.heap = h0) (fun _ _ _ _ _ => True) (fun _ U o U' => ∃ v L, o = .returned v ∧ Q8_e3_1 Z a1 x0 x1 x2 x3 h0 n0 v U'.heap L ∧ FrameEnd U o U' L ({ frames := 0, cells := 0, slots := 0, locals := 0 } : Room).cells ({ frames := 0, cells := 0, slots := 0, locals := 0 } : Room).slots) := by
  refine MetFree.of_bodySF (plainFor_of_name pn_8_e3_1) hisR ?_
  intro p e s m args below meth c s₁ Bd hml0 hP hK
  obtain ⟨rfl, hZ, hh⟩ := hP
  have hx := Bd.exec
  have hby := Bd.bytes
  have hml : c.maxLocals = 3 := hml0
  have hown : s.vm.findClass "com/example/same_bytes/samebytes/NodeIdsReversePinLaw" = some m.cls := findClass_of_methodNamed Bd.named
  have hnm := (name_of_methodNamed Bd.named Bd.method).1
  have X0 : Stand p l e ({ frames := 0, cells := 0, slots := 0, locals := 0 } : Room) s m #[(.ref a1), (.int (3 : Int32)), (.int (1 : Int32))] below meth c s₁ [] 0 0 := Stand.of_body Bd
  have e0 : s₁.heap = h0 := by rw [← hh, Bd.state]; rfl
  have N0 := Fr.nil n0
  refine own_start (fun t k => castTop (ef_8_e3_1 m a1) k) ?_
  show own_G p.tables e below _ (s₁.setTop (mkF m 0 #[.val (.ref a1), .val (.int (3 : Int32)), .val (.int (1 : Int32))] []))
  refine own_step (fun t k => XS.iloadN X0.here hx rfl (hb hby d8_0) rfl k) ?_
  show own_G p.tables e below _ (s₁.setTop (mkF m 1 #[.val (.ref a1), .val (.int (3 : Int32)), .val (.int (1 : Int32))] [(.int (1 : Int32))]))
  refine own_step (fun t k => XS.iloadN X0.here hx rfl (hb hby d8_1) rfl k) ?_
  show own_G p.tables e below _ (s₁.setTop (mkF m 2 #[.val (.ref a1), .val (.int (3 : Int32)), .val (.int (1 : Int32))] [(.int (3 : Int32)), (.int (1 : Int32))]))
  have hk1 : (1 : Int32) < (3 : Int32) := (by decide)
  refine own_step (fun t k => XS.icmpNo X0.here hx rfl (hb hby d8_2) rfl ((tlt hk1).2.1) k) ?_
  show own_G p.tables e below _ (s₁.setTop (mkF m 5 #[.val (.ref a1), .val (.int (3 : Int32)), .val (.int (1 : Int32))] []))
  refine own_step (fun t k => XS.aloadN X0.here hx rfl (hb hby d8_5) rfl rfl k) ?_
  show own_G p.tables e below _ (s₁.setTop (mkF m 6 #[.val (.ref a1), .val (.int (3 : Int32)), .val (.int (1 : Int32))] [(.ref a1)]))
  refine own_step (fun t k => XS.iloadN X0.here hx rfl (hb hby d8_6) rfl k) ?_
  show own_G p.tables e below _ (s₁.setTop (mkF m 7 #[.val (.ref a1), .val (.int (3 : Int32)), .val (.int (1 : Int32))] [(.int (3 : Int32)), (.ref a1)]))
  refine own_step (fun t k => XS.iconst X0.here hx rfl (hb hby d8_7) k) ?_
  show own_G p.tables e below _ (s₁.setTop (mkF m 8 #[.val (.ref a1), .val (.int (3 : Int32)), .val (.int (1 : Int32))] [(.int (1 : Int32)), (.int (3 : Int32)), (.ref a1)]))
  refine own_step (fun t k => XS.isub X0.here hx rfl (hb hby d8_8) rfl k) ?_
  show own_G p.tables e below _ (s₁.setTop (mkF m 9 #[.val (.ref a1), .val (.int (3 : Int32)), .val (.int (1 : Int32))] [(.int (2 : Int32)), (.ref a1)]))
  refine own_step (fun t k => XS.iloadN X0.here hx rfl (hb hby d8_9) rfl k) ?_
  show own_G p.tables e below _ (s₁.setTop (mkF m 10 #[.val (.ref a1), .val (.int (3 : Int32)), .val (.int (1 : Int32))] [(.int (1 : Int32)), (.int (2 : Int32)), (.ref a1)]))
  refine own_step (fun t k => XS.isub X0.here hx rfl (hb hby d8_10) rfl k) ?_
  show own_G p.tables e below _ (s₁.setTop (mkF m 11 #[.val (.ref a1), .val (.int (3 : Int32)), .val (.int (1 : Int32))] [(.int (1 : Int32)), (.ref a1)]))
  refine own_step (own_iaload X0 hx hZ e0 fp0 (own_inb (by decide) (Nat.le_of_ble_eq_true rfl)) (g := (mkF m 11 #[.val (.ref a1), .val (.int (3 : Int32)), .val (.int (1 : Int32))] [(.int (1 : Int32)), (.ref a1)])) rfl rfl (hb hby d8_11)) ?_
  show own_G p.tables e below _ (s₁.setTop (mkF m 12 #[.val (.ref a1), .val (.int (3 : Int32)), .val (.int (1 : Int32))] [(.int x1)]))
  obtain ⟨fs, hr, hrun, hended, hW, hsame⟩ := X0.leave (v := some (.int x1)) (fun h => by rw [Bd.returns] at h; cases h)
  refine own_done (retI X0 hx Bd.returns (hb hby d8_12) hr) hrun hended ⟨_, _, rfl, ?_, ⟨_, rfl⟩, hW, hsame.mono (by decide) (by decide)⟩
  show Q8_e3_1 Z a1 x0 x1 x2 x3 h0 n0 _ s₁.heap _
  rw [e0]
  exact ⟨congrArg (fun z => some (Value.int z)) (show x1 = x1 from rfl), N0, rfl⟩
theorem pn_8_e3_2 : plainName "com/example/same_bytes/samebytes/NodeIdsReversePinLaw" = true := by first | (simp [plainName, overriddenIn]; done) | decide +kernel
theorem ef_8_e3_2 (m : MethodId) (a1 : Addr) : entryFrame m #[(.ref a1), (.int (3 : Int32)), (.int (2 : Int32))] 3 = mkF m 0 #[.val (.ref a1), .val (.int (3 : Int32)), .val (.int (2 : Int32))] [] := by first | (simp [entryFrame, mkF, argsToLocals, Value.category]; done) | rfl
def Q8_e3_2 (Z : State) (a1 : Addr) (x0 : Int32) (x1 : Int32) (x2 : Int32) (x3 : Int32) (h0 : Heap) (n0 : Nat) (v : Option Value) (h : Heap) (L : List Loc) : Prop := v = some (.int x0) ∧ Fr n0 L ∧ h = h0
set_option maxRecDepth 65536 in
set_option maxHeartbeats 40000000 in
theorem rm8_e3_2 (l : Launch) (Z : State) (a0 : Array Value) (hw : ∀ d ∈ tables_1, d.before a0 Z = true) (ws : List Jvm.Cond) (a1 : Addr) (x0 : Int32) (x1 : Int32) (x2 : Int32) (x3 : Int32) (h0 : Heap) (n0 : Nat) (Z0 : n0 ≤ h0.size) (fp0 : own_Ari Z h0 a1 .int [x0, x1, x2, x3]) :
    MetFree l (⟨"com/example/same_bytes/samebytes/NodeIdsReversePinLaw", "expect", "([III)I"⟩ : MethodName) (head1 (Jvm.Cond.code (⟨"com/example/same_bytes/samebytes/NodeIdsReversePinLaw", "expect", "([III)I"⟩ : MethodName) method_3_code 3 (some .int) :: ws) ({ frames := 0, cells := 0, slots := 0, locals := 0 } : Room)) (fun a U => a = #[(.ref a1), (.int (3 : Int32)), (.int (2 : Int32))] ∧ Z.Warmed39 U.vm ∧ U.heap = h0) (fun _ _ _ _ _ => True) (fun _ U o U' => ∃ v L, o = .returned v ∧ Q8_e3_2 Z a1 x0 x1 x2 x3 h0 n0 v U'.heap L ∧ FrameEnd U o U' L ({ frames := 0, cells := 0, slots := 0, locals := 0 } : Room).cells ({ frames := 0, cells := 0, slots := 0, locals := 0 } : Room).slots) := by
  refine MetFree.of_bodySF (plainFor_of_name pn_8_e3_2) hisR ?_
  intro p e s m args below meth c s₁ Bd hml0 hP hK
  obtain ⟨rfl, hZ, hh⟩ := hP
  have hx := Bd.exec
  have hby := Bd.bytes
  have hml : c.maxLocals = 3 := hml0
  have hown : s.vm.findClass "com/example/same_bytes/samebytes/NodeIdsReversePinLaw" = some m.cls := findClass_of_methodNamed Bd.named
  have hnm := (name_of_methodNamed Bd.named Bd.method).1
  have X0 : Stand p l e ({ frames := 0, cells := 0, slots := 0, locals := 0 } : Room) s m #[(.ref a1), (.int (3 : Int32)), (.int (2 : Int32))] below meth c s₁ [] 0 0 := Stand.of_body Bd
  have e0 : s₁.heap = h0 := by rw [← hh, Bd.state]; rfl
  have N0 := Fr.nil n0
  refine own_start (fun t k => castTop (ef_8_e3_2 m a1) k) ?_
  show own_G p.tables e below _ (s₁.setTop (mkF m 0 #[.val (.ref a1), .val (.int (3 : Int32)), .val (.int (2 : Int32))] []))
  refine own_step (fun t k => XS.iloadN X0.here hx rfl (hb hby d8_0) rfl k) ?_
  show own_G p.tables e below _ (s₁.setTop (mkF m 1 #[.val (.ref a1), .val (.int (3 : Int32)), .val (.int (2 : Int32))] [(.int (2 : Int32))]))
  refine own_step (fun t k => XS.iloadN X0.here hx rfl (hb hby d8_1) rfl k) ?_
  show own_G p.tables e below _ (s₁.setTop (mkF m 2 #[.val (.ref a1), .val (.int (3 : Int32)), .val (.int (2 : Int32))] [(.int (3 : Int32)), (.int (2 : Int32))]))
  have hk1 : (2 : Int32) < (3 : Int32) := (by decide)
  refine own_step (fun t k => XS.icmpNo X0.here hx rfl (hb hby d8_2) rfl ((tlt hk1).2.1) k) ?_
  show own_G p.tables e below _ (s₁.setTop (mkF m 5 #[.val (.ref a1), .val (.int (3 : Int32)), .val (.int (2 : Int32))] []))
  refine own_step (fun t k => XS.aloadN X0.here hx rfl (hb hby d8_5) rfl rfl k) ?_
  show own_G p.tables e below _ (s₁.setTop (mkF m 6 #[.val (.ref a1), .val (.int (3 : Int32)), .val (.int (2 : Int32))] [(.ref a1)]))
  refine own_step (fun t k => XS.iloadN X0.here hx rfl (hb hby d8_6) rfl k) ?_
  show own_G p.tables e below _ (s₁.setTop (mkF m 7 #[.val (.ref a1), .val (.int (3 : Int32)), .val (.int (2 : Int32))] [(.int (3 : Int32)), (.ref a1)]))
  refine own_step (fun t k => XS.iconst X0.here hx rfl (hb hby d8_7) k) ?_
  show own_G p.tables e below _ (s₁.setTop (mkF m 8 #[.val (.ref a1), .val (.int (3 : Int32)), .val (.int (2 : Int32))] [(.int (1 : Int32)), (.int (3 : Int32)), (.ref a1)]))
  refine own_step (fun t k => XS.isub X0.here hx rfl (hb hby d8_8) rfl k) ?_
  show own_G p.tables e below _ (s₁.setTop (mkF m 9 #[.val (.ref a1), .val (.int (3 : Int32)), .val (.int (2 : Int32))] [(.int (2 : Int32)), (.ref a1)]))
  refine own_step (fun t k => XS.iloadN X0.here hx rfl (hb hby d8_9) rfl k) ?_
  show own_G p.tables e below _ (s₁.setTop (mkF m 10 #[.val (.ref a1), .val (.int (3 : Int32)), .val (.int (2 : Int32))] [(.int (2 : Int32)), (.int (2 : Int32)), (.ref a1)]))
  refine own_step (fun t k => XS.isub X0.here hx rfl (hb hby d8_10) rfl k) ?_
  show own_G p.tables e below _ (s₁.setTop (mkF m 11 #[.val (.ref a1), .val (.int (3 : Int32)), .val (.int (2 : Int32))] [(.int (0 : Int32)), (.ref a1)]))
  refine own_step (own_iaload X0 hx hZ e0 fp0 (own_inb (by decide) (Nat.le_of_ble_eq_true rfl)) (g := (mkF m 11 #[.val (.ref a1), .val (.int (3 : Int32)), .val (.int (2 : Int32))] [(.int (0 : Int32)), (.ref a1)])) rfl rfl (hb hby d8_11)) ?_
  show own_G p.tables e below _ (s₁.setTop (mkF m 12 #[.val (.ref a1), .val (.int (3 : Int32)), .val (.int (2 : Int32))] [(.int x0)]))
  obtain ⟨fs, hr, hrun, hended, hW, hsame⟩ := X0.leave (v := some (.int x0)) (fun h => by rw [Bd.returns] at h; cases h)
  refine own_done (retI X0 hx Bd.returns (hb hby d8_12) hr) hrun hended ⟨_, _, rfl, ?_, ⟨_, rfl⟩, hW, hsame.mono (by decide) (by decide)⟩
  show Q8_e3_2 Z a1 x0 x1 x2 x3 h0 n0 _ s₁.heap _
  rw [e0]
  exact ⟨congrArg (fun z => some (Value.int z)) (show x0 = x0 from rfl), N0, rfl⟩
theorem pn_8_e3_3 : plainName "com/example/same_bytes/samebytes/NodeIdsReversePinLaw" = true := by first | (simp [plainName, overriddenIn]; done) | decide +kernel
theorem ef_8_e3_3 (m : MethodId) (a1 : Addr) : entryFrame m #[(.ref a1), (.int (3 : Int32)), (.int (3 : Int32))] 3 = mkF m 0 #[.val (.ref a1), .val (.int (3 : Int32)), .val (.int (3 : Int32))] [] := by first | (simp [entryFrame, mkF, argsToLocals, Value.category]; done) | rfl
def Q8_e3_3 (Z : State) (a1 : Addr) (x0 : Int32) (x1 : Int32) (x2 : Int32) (x3 : Int32) (h0 : Heap) (n0 : Nat) (v : Option Value) (h : Heap) (L : List Loc) : Prop := v = some (.int x3) ∧ Fr n0 L ∧ h = h0
set_option maxRecDepth 65536 in
set_option maxHeartbeats 40000000 in
theorem rm8_e3_3 (l : Launch) (Z : State) (a0 : Array Value) (hw : ∀ d ∈ tables_1, d.before a0 Z = true) (ws : List Jvm.Cond) (a1 : Addr) (x0 : Int32) (x1 : Int32) (x2 : Int32) (x3 : Int32) (h0 : Heap) (n0 : Nat) (Z0 : n0 ≤ h0.size) (fp0 : own_Ari Z h0 a1 .int [x0, x1, x2, x3]) :
    MetFree l (⟨"com/example/same_bytes/samebytes/NodeIdsReversePinLaw", "expect", "([III)I"⟩ : MethodName) (head1 (Jvm.Cond.code (⟨"com/example/same_bytes/samebytes/NodeIdsReversePinLaw", "expect", "([III)I"⟩ : MethodName) method_3_code 3 (some .int) :: ws) ({ frames := 0, cells := 0, slots := 0, locals := 0 } : Room)) (fun a U => a = #[(.ref a1), (.int (3 : Int32)), (.int (3 : Int32))] ∧ Z.Warmed39 U.vm ∧ U.heap = h0) (fun _ _ _ _ _ => True) (fun _ U o U' => ∃ v L, o = .returned v ∧ Q8_e3_3 Z a1 x0 x1 x2 x3 h0 n0 v U'.heap L ∧ FrameEnd U o U' L ({ frames := 0, cells := 0, slots := 0, locals := 0 } : Room).cells ({ frames := 0, cells := 0, slots := 0, locals := 0 } : Room).slots) := by
  refine MetFree.of_bodySF (plainFor_of_name pn_8_e3_3) hisR ?_
  intro p e s m args below meth c s₁ Bd hml0 hP hK
  obtain ⟨rfl, hZ, hh⟩ := hP
  have hx := Bd.exec
  have hby := Bd.bytes
  have hml : c.maxLocals = 3 := hml0
  have hown : s.vm.findClass "com/example/same_bytes/samebytes/NodeIdsReversePinLaw" = some m.cls := findClass_of_methodNamed Bd.named
  have hnm := (name_of_methodNamed Bd.named Bd.method).1
  have X0 : Stand p l e ({ frames := 0, cells := 0, slots := 0, locals := 0 } : Room) s m #[(.ref a1), (.int (3 : Int32)), (.int (3 : Int32))] below meth c s₁ [] 0 0 := Stand.of_body Bd
  have e0 : s₁.heap = h0 := by rw [← hh, Bd.state]; rfl
  have N0 := Fr.nil n0
  refine own_start (fun t k => castTop (ef_8_e3_3 m a1) k) ?_
  show own_G p.tables e below _ (s₁.setTop (mkF m 0 #[.val (.ref a1), .val (.int (3 : Int32)), .val (.int (3 : Int32))] []))
  refine own_step (fun t k => XS.iloadN X0.here hx rfl (hb hby d8_0) rfl k) ?_
  show own_G p.tables e below _ (s₁.setTop (mkF m 1 #[.val (.ref a1), .val (.int (3 : Int32)), .val (.int (3 : Int32))] [(.int (3 : Int32))]))
  refine own_step (fun t k => XS.iloadN X0.here hx rfl (hb hby d8_1) rfl k) ?_
  show own_G p.tables e below _ (s₁.setTop (mkF m 2 #[.val (.ref a1), .val (.int (3 : Int32)), .val (.int (3 : Int32))] [(.int (3 : Int32)), (.int (3 : Int32))]))
  have hk1 : ¬ ((3 : Int32) < (3 : Int32)) := (by decide)
  refine own_step (fun t k => XS.icmpYes X0.here hx rfl (pc0 := 2) (pc' := 13) rfl (hb hby d8_2) rfl ((flt hk1).2.1) (by decide) (by decide) k) ?_
  show own_G p.tables e below _ (s₁.setTop (mkF m 13 #[.val (.ref a1), .val (.int (3 : Int32)), .val (.int (3 : Int32))] []))
  refine own_step (fun t k => XS.aloadN X0.here hx rfl (hb hby d8_13) rfl rfl k) ?_
  show own_G p.tables e below _ (s₁.setTop (mkF m 14 #[.val (.ref a1), .val (.int (3 : Int32)), .val (.int (3 : Int32))] [(.ref a1)]))
  refine own_step (fun t k => XS.iloadN X0.here hx rfl (hb hby d8_14) rfl k) ?_
  show own_G p.tables e below _ (s₁.setTop (mkF m 15 #[.val (.ref a1), .val (.int (3 : Int32)), .val (.int (3 : Int32))] [(.int (3 : Int32)), (.ref a1)]))
  refine own_step (own_iaload X0 hx hZ e0 fp0 (own_inb (by decide) (Nat.le_of_ble_eq_true rfl)) (g := (mkF m 15 #[.val (.ref a1), .val (.int (3 : Int32)), .val (.int (3 : Int32))] [(.int (3 : Int32)), (.ref a1)])) rfl rfl (hb hby d8_15)) ?_
  show own_G p.tables e below _ (s₁.setTop (mkF m 16 #[.val (.ref a1), .val (.int (3 : Int32)), .val (.int (3 : Int32))] [(.int x3)]))
  obtain ⟨fs, hr, hrun, hended, hW, hsame⟩ := X0.leave (v := some (.int x3)) (fun h => by rw [Bd.returns] at h; cases h)
  refine own_done (retI X0 hx Bd.returns (hb hby d8_16) hr) hrun hended ⟨_, _, rfl, ?_, ⟨_, rfl⟩, hW, hsame.mono (by decide) (by decide)⟩
  show Q8_e3_3 Z a1 x0 x1 x2 x3 h0 n0 _ s₁.heap _
  rw [e0]
  exact ⟨congrArg (fun z => some (Value.int z)) (show x3 = x3 from rfl), N0, rfl⟩
theorem pn_5_s4 : plainName "com/example/same_bytes/samebytes/NodeIds" = true := by first | (simp [plainName, overriddenIn]; done) | decide +kernel
theorem ef_5_s4 (m : MethodId) (a1 : Addr) : entryFrame m #[(.ref a1)] 4 = mkF m 0 #[.val (.ref a1), .unset, .unset, .unset] [] := by first | (simp [entryFrame, mkF, argsToLocals, Value.category]; done) | rfl
def Q5_s4 (Z : State) (a1 : Addr) (u_ids : Addr) (x0 : Int32) (x1 : Int32) (x2 : Int32) (x3 : Int32) (x4 : Int32) (x5 : Int32) (x6 : Int32) (x7 : Int32) (h0 : Heap) (n0 : Nat) (v : Option Value) (h : Heap) (L : List Loc) : Prop := v = none ∧ Fr n0 L ∧ Keep h0 h [u_ids] ∧ own_Ari Z h u_ids .int [x3, x2, x1, x0, x4, x5, x6, x7]
set_option maxRecDepth 65536 in
set_option maxHeartbeats 40000000 in
theorem rm5_s4 (l : Launch) (Z : State) (a0 : Array Value) (hw : ∀ d ∈ tables_1, d.before a0 Z = true) (ws : List Jvm.Cond) (a1 : Addr) (u_ids : Addr) (x0 : Int32) (x1 : Int32) (x2 : Int32) (x3 : Int32) (x4 : Int32) (x5 : Int32) (x6 : Int32) (x7 : Int32) (h0 : Heap) (n0 : Nat) (Z0 : n0 ≤ h0.size) (fp0 : Exa Z h0 a1 "com/example/same_bytes/samebytes/NodeIds") (fp1 : Fld Z h0 a1 "com/example/same_bytes/samebytes/NodeIds" "size" "I" (.int (4 : Int32))) (fp2 : Fld Z h0 a1 "com/example/same_bytes/samebytes/NodeIds" "ids" "[I" (.ref u_ids)) (fp3 : own_Ari Z h0 u_ids .int [x0, x1, x2, x3, x4, x5, x6, x7]) (g_u_ids : n0 ≤ u_ids) (ne_a1_u_ids : a1 ≠ u_ids) :
    MetFree l (⟨"com/example/same_bytes/samebytes/NodeIds", "reverse", "()V"⟩ : MethodName) (head1 (Jvm.Cond.code (⟨"com/example/same_bytes/samebytes/NodeIds", "reverse", "()V"⟩ : MethodName) prog_70_method_12_code 4 none :: ws) ({ frames := 0, cells := 0, slots := 0, locals := 0 } : Room)) (fun a U => a = #[(.ref a1)] ∧ Z.Warmed39 U.vm ∧ U.heap = h0) (fun _ _ _ _ _ => True) (fun _ U o U' => ∃ v L, o = .returned v ∧ Q5_s4 Z a1 u_ids x0 x1 x2 x3 x4 x5 x6 x7 h0 n0 v U'.heap L ∧ FrameEnd U o U' L ({ frames := 0, cells := 0, slots := 0, locals := 0 } : Room).cells ({ frames := 0, cells := 0, slots := 0, locals := 0 } : Room).slots) := by
  refine MetFree.of_bodySF (plainFor_of_name pn_5_s4) hisR ?_
  intro p e s m args below meth c s₁ Bd hml0 hP hK
  obtain ⟨rfl, hZ, hh⟩ := hP
  have hx := Bd.exec
  have hby := Bd.bytes
  have hml : c.maxLocals = 4 := hml0
  have hown : s.vm.findClass "com/example/same_bytes/samebytes/NodeIds" = some m.cls := findClass_of_methodNamed Bd.named
  have hnm := (name_of_methodNamed Bd.named Bd.method).1
  have X0 : Stand p l e ({ frames := 0, cells := 0, slots := 0, locals := 0 } : Room) s m #[(.ref a1)] below meth c s₁ [] 0 0 := Stand.of_body Bd
  have e0 : s₁.heap = h0 := by rw [← hh, Bd.state]; rfl
  have N0 := Fr.nil n0
  refine own_start (fun t k => castTop (ef_5_s4 m a1) k) ?_
  show own_G p.tables e below _ (s₁.setTop (mkF m 0 #[.val (.ref a1), .unset, .unset, .unset] []))
  refine own_step (fun t k => XS.iconst X0.here hx rfl (hb hby d5_0) k) ?_
  show own_G p.tables e below _ (s₁.setTop (mkF m 1 #[.val (.ref a1), .unset, .unset, .unset] [(.int (0 : Int32))]))
  refine own_step (fun t k => XS.istoreN X0.here hx rfl (hb hby d5_1) rfl (l' := #[.val (.ref a1), .val (.int (0 : Int32)), .unset, .unset]) rfl k) ?_
  show own_G p.tables e below _ (s₁.setTop (mkF m 2 #[.val (.ref a1), .val (.int (0 : Int32)), .unset, .unset] []))
  refine own_step (fun t k => XS.aloadN X0.here hx rfl (hb hby d5_2) rfl rfl k) ?_
  show own_G p.tables e below _ (s₁.setTop (mkF m 3 #[.val (.ref a1), .val (.int (0 : Int32)), .unset, .unset] [(.ref a1)]))
  obtain ⟨T1, X1, e1, st1⟩ := getF X0 hx hZ hown (host := "") (Or.inl (hw _ (List.mem_of_getElem? (i := 18) rfl))) Via.refl e0 fp1 (g := (mkF m 3 #[.val (.ref a1), .val (.int (0 : Int32)), .unset, .unset] [(.ref a1)])) rfl rfl (hb hby d5_3)
  refine own_step st1 ?_
  show own_G p.tables e below _ (T1.setTop (mkF m 6 #[.val (.ref a1), .val (.int (0 : Int32)), .unset, .unset] [(.int (4 : Int32))]))
  refine own_step (fun t k => XS.iconst X1.here hx rfl (hb hby d5_6) k) ?_
  show own_G p.tables e below _ (T1.setTop (mkF m 7 #[.val (.ref a1), .val (.int (0 : Int32)), .unset, .unset] [(.int (1 : Int32)), (.int (4 : Int32))]))
  refine own_step (fun t k => XS.isub X1.here hx rfl (hb hby d5_7) rfl k) ?_
  show own_G p.tables e below _ (T1.setTop (mkF m 8 #[.val (.ref a1), .val (.int (0 : Int32)), .unset, .unset] [(.int (3 : Int32))]))
  refine own_step (fun t k => XS.istoreN X1.here hx rfl (hb hby d5_8) rfl (l' := #[.val (.ref a1), .val (.int (0 : Int32)), .val (.int (3 : Int32)), .unset]) rfl k) ?_
  show own_G p.tables e below _ (T1.setTop (mkF m 9 #[.val (.ref a1), .val (.int (0 : Int32)), .val (.int (3 : Int32)), .unset] []))
  refine own_step (fun t k => XS.iloadN X1.here hx rfl (hb hby d5_9) rfl k) ?_
  show own_G p.tables e below _ (T1.setTop (mkF m 10 #[.val (.ref a1), .val (.int (0 : Int32)), .val (.int (3 : Int32)), .unset] [(.int (0 : Int32))]))
  refine own_step (fun t k => XS.iloadN X1.here hx rfl (hb hby d5_10) rfl k) ?_
  show own_G p.tables e below _ (T1.setTop (mkF m 11 #[.val (.ref a1), .val (.int (0 : Int32)), .val (.int (3 : Int32)), .unset] [(.int (3 : Int32)), (.int (0 : Int32))]))
  have hk2 : (0 : Int32) < (3 : Int32) := (by decide)
  refine own_step (fun t k => XS.icmpNo X1.here hx rfl (hb hby d5_11) rfl ((tlt hk2).2.1) k) ?_
  show own_G p.tables e below _ (T1.setTop (mkF m 14 #[.val (.ref a1), .val (.int (0 : Int32)), .val (.int (3 : Int32)), .unset] []))
  refine own_step (fun t k => XS.aloadN X1.here hx rfl (hb hby d5_14) rfl rfl k) ?_
  show own_G p.tables e below _ (T1.setTop (mkF m 15 #[.val (.ref a1), .val (.int (0 : Int32)), .val (.int (3 : Int32)), .unset] [(.ref a1)]))
  obtain ⟨T3, X3, e3, st3⟩ := getF X1 hx hZ hown (host := "") (Or.inl (hw _ (List.mem_of_getElem? (i := 11) rfl))) Via.refl e1 fp2 (g := (mkF m 15 #[.val (.ref a1), .val (.int (0 : Int32)), .val (.int (3 : Int32)), .unset] [(.ref a1)])) rfl rfl (hb hby d5_15)
  refine own_step st3 ?_
  show own_G p.tables e below _ (T3.setTop (mkF m 18 #[.val (.ref a1), .val (.int (0 : Int32)), .val (.int (3 : Int32)), .unset] [(.ref u_ids)]))
  refine own_step (fun t k => XS.iloadN X3.here hx rfl (hb hby d5_18) rfl k) ?_
  show own_G p.tables e below _ (T3.setTop (mkF m 19 #[.val (.ref a1), .val (.int (0 : Int32)), .val (.int (3 : Int32)), .unset] [(.int (0 : Int32)), (.ref u_ids)]))
  refine own_step (own_iaload X3 hx hZ e3 fp3 (own_inb (by decide) (Nat.le_of_ble_eq_true rfl)) (g := (mkF m 19 #[.val (.ref a1), .val (.int (0 : Int32)), .val (.int (3 : Int32)), .unset] [(.int (0 : Int32)), (.ref u_ids)])) rfl rfl (hb hby d5_19)) ?_
  show own_G p.tables e below _ (T3.setTop (mkF m 20 #[.val (.ref a1), .val (.int (0 : Int32)), .val (.int (3 : Int32)), .unset] [(.int x0)]))
  refine own_step (fun t k => XS.istoreN X3.here hx rfl (hb hby d5_20) rfl (l' := #[.val (.ref a1), .val (.int (0 : Int32)), .val (.int (3 : Int32)), .val (.int x0)]) rfl k) ?_
  show own_G p.tables e below _ (T3.setTop (mkF m 21 #[.val (.ref a1), .val (.int (0 : Int32)), .val (.int (3 : Int32)), .val (.int x0)] []))
  refine own_step (fun t k => XS.aloadN X3.here hx rfl (hb hby d5_21) rfl rfl k) ?_
  show own_G p.tables e below _ (T3.setTop (mkF m 22 #[.val (.ref a1), .val (.int (0 : Int32)), .val (.int (3 : Int32)), .val (.int x0)] [(.ref a1)]))
  obtain ⟨T4, X4, e4, st4⟩ := getF X3 hx hZ hown (host := "") (Or.inl (hw _ (List.mem_of_getElem? (i := 11) rfl))) Via.refl e3 fp2 (g := (mkF m 22 #[.val (.ref a1), .val (.int (0 : Int32)), .val (.int (3 : Int32)), .val (.int x0)] [(.ref a1)])) rfl rfl (hb hby d5_22)
  refine own_step st4 ?_
  show own_G p.tables e below _ (T4.setTop (mkF m 25 #[.val (.ref a1), .val (.int (0 : Int32)), .val (.int (3 : Int32)), .val (.int x0)] [(.ref u_ids)]))
  refine own_step (fun t k => XS.iloadN X4.here hx rfl (hb hby d5_25) rfl k) ?_
  show own_G p.tables e below _ (T4.setTop (mkF m 26 #[.val (.ref a1), .val (.int (0 : Int32)), .val (.int (3 : Int32)), .val (.int x0)] [(.int (0 : Int32)), (.ref u_ids)]))
  refine own_step (fun t k => XS.aloadN X4.here hx rfl (hb hby d5_26) rfl rfl k) ?_
  show own_G p.tables e below _ (T4.setTop (mkF m 27 #[.val (.ref a1), .val (.int (0 : Int32)), .val (.int (3 : Int32)), .val (.int x0)] [(.ref a1), (.int (0 : Int32)), (.ref u_ids)]))
  obtain ⟨T5, X5, e5, st5⟩ := getF X4 hx hZ hown (host := "") (Or.inl (hw _ (List.mem_of_getElem? (i := 11) rfl))) Via.refl e4 fp2 (g := (mkF m 27 #[.val (.ref a1), .val (.int (0 : Int32)), .val (.int (3 : Int32)), .val (.int x0)] [(.ref a1), (.int (0 : Int32)), (.ref u_ids)])) rfl rfl (hb hby d5_27)
  refine own_step st5 ?_
  show own_G p.tables e below _ (T5.setTop (mkF m 30 #[.val (.ref a1), .val (.int (0 : Int32)), .val (.int (3 : Int32)), .val (.int x0)] [(.ref u_ids), (.int (0 : Int32)), (.ref u_ids)]))
  refine own_step (fun t k => XS.iloadN X5.here hx rfl (hb hby d5_30) rfl k) ?_
  show own_G p.tables e below _ (T5.setTop (mkF m 31 #[.val (.ref a1), .val (.int (0 : Int32)), .val (.int (3 : Int32)), .val (.int x0)] [(.int (3 : Int32)), (.ref u_ids), (.int (0 : Int32)), (.ref u_ids)]))
  refine own_step (own_iaload X5 hx hZ e5 fp3 (own_inb (by decide) (Nat.le_of_ble_eq_true rfl)) (g := (mkF m 31 #[.val (.ref a1), .val (.int (0 : Int32)), .val (.int (3 : Int32)), .val (.int x0)] [(.int (3 : Int32)), (.ref u_ids), (.int (0 : Int32)), (.ref u_ids)])) rfl rfl (hb hby d5_31)) ?_
  show own_G p.tables e below _ (T5.setTop (mkF m 32 #[.val (.ref a1), .val (.int (0 : Int32)), .val (.int (3 : Int32)), .val (.int x0)] [(.int x3), (.int (0 : Int32)), (.ref u_ids)]))
  obtain ⟨T6, h6, X6, e6, W6, c6, st6⟩ := own_iastore X5 hx hZ e5 fp3 (own_inb (by decide) (Nat.le_of_ble_eq_true rfl)) (g := (mkF m 32 #[.val (.ref a1), .val (.int (0 : Int32)), .val (.int (3 : Int32)), .val (.int x0)] [(.int x3), (.int (0 : Int32)), (.ref u_ids)])) rfl rfl (hb hby d5_32)
  have N6 := Fr.snoc X6 N0 g_u_ids
  have c7 : own_Ari Z h6 u_ids .int [x3, x1, x2, x3, x4, x5, x6, x7] := c6
  have c8 : Exa Z h6 a1 "com/example/same_bytes/samebytes/NodeIds" := fp0.wr W6
  have c9 : Fld Z h6 a1 "com/example/same_bytes/samebytes/NodeIds" "size" "I" (.int (4 : Int32)) := fp1.other W6 (Or.inl ne_a1_u_ids)
  have c10 : Fld Z h6 a1 "com/example/same_bytes/samebytes/NodeIds" "ids" "[I" (.ref u_ids) := fp2.other W6 (Or.inl ne_a1_u_ids)
  have K6 : Keep h0 h6 [u_ids] := (Keep.refl h0 [u_ids]).wr W6 (Or.inl (List.mem_of_getElem? (i := 0) rfl))
  refine own_step st6 ?_
  show own_G p.tables e below _ (T6.setTop (mkF m 33 #[.val (.ref a1), .val (.int (0 : Int32)), .val (.int (3 : Int32)), .val (.int x0)] []))
  refine own_step (fun t k => XS.aloadN X6.here hx rfl (hb hby d5_33) rfl rfl k) ?_
  show own_G p.tables e below _ (T6.setTop (mkF m 34 #[.val (.ref a1), .val (.int (0 : Int32)), .val (.int (3 : Int32)), .val (.int x0)] [(.ref a1)]))
  obtain ⟨T12, X12, e12, st12⟩ := getF X6 hx hZ hown (host := "") (Or.inl (hw _ (List.mem_of_getElem? (i := 11) rfl))) Via.refl e6 c10 (g := (mkF m 34 #[.val (.ref a1), .val (.int (0 : Int32)), .val (.int (3 : Int32)), .val (.int x0)] [(.ref a1)])) rfl rfl (hb hby d5_34)
  refine own_step st12 ?_
  show own_G p.tables e below _ (T12.setTop (mkF m 37 #[.val (.ref a1), .val (.int (0 : Int32)), .val (.int (3 : Int32)), .val (.int x0)] [(.ref u_ids)]))
  refine own_step (fun t k => XS.iloadN X12.here hx rfl (hb hby d5_37) rfl k) ?_
  show own_G p.tables e below _ (T12.setTop (mkF m 38 #[.val (.ref a1), .val (.int (0 : Int32)), .val (.int (3 : Int32)), .val (.int x0)] [(.int (3 : Int32)), (.ref u_ids)]))
  refine own_step (fun t k => XS.iloadN X12.here hx rfl (hb hby d5_38) rfl k) ?_
  show own_G p.tables e below _ (T12.setTop (mkF m 39 #[.val (.ref a1), .val (.int (0 : Int32)), .val (.int (3 : Int32)), .val (.int x0)] [(.int x0), (.int (3 : Int32)), (.ref u_ids)]))
  obtain ⟨T13, h13, X13, e13, W13, c13, st13⟩ := own_iastore X12 hx hZ e12 c7 (own_inb (by decide) (Nat.le_of_ble_eq_true rfl)) (g := (mkF m 39 #[.val (.ref a1), .val (.int (0 : Int32)), .val (.int (3 : Int32)), .val (.int x0)] [(.int x0), (.int (3 : Int32)), (.ref u_ids)])) rfl rfl (hb hby d5_39)
  have N13 := Fr.snoc X13 N6 g_u_ids
  have c14 : own_Ari Z h13 u_ids .int [x3, x1, x2, x0, x4, x5, x6, x7] := c13
  have c15 : Exa Z h13 a1 "com/example/same_bytes/samebytes/NodeIds" := c8.wr W13
  have c16 : Fld Z h13 a1 "com/example/same_bytes/samebytes/NodeIds" "size" "I" (.int (4 : Int32)) := c9.other W13 (Or.inl ne_a1_u_ids)
  have c17 : Fld Z h13 a1 "com/example/same_bytes/samebytes/NodeIds" "ids" "[I" (.ref u_ids) := c10.other W13 (Or.inl ne_a1_u_ids)
  have K13 : Keep h0 h13 [u_ids] := K6.wr W13 (Or.inl (List.mem_of_getElem? (i := 0) rfl))
  refine own_step st13 ?_
  show own_G p.tables e below _ (T13.setTop (mkF m 40 #[.val (.ref a1), .val (.int (0 : Int32)), .val (.int (3 : Int32)), .val (.int x0)] []))
  refine own_step (fun t k => XS.iinc X13.here hx rfl (hb hby d5_40) rfl (l' := #[.val (.ref a1), .val (.int (1 : Int32)), .val (.int (3 : Int32)), .val (.int x0)]) rfl k) ?_
  show own_G p.tables e below _ (T13.setTop (mkF m 43 #[.val (.ref a1), .val (.int (1 : Int32)), .val (.int (3 : Int32)), .val (.int x0)] []))
  refine own_step (fun t k => XS.iinc X13.here hx rfl (hb hby d5_43) rfl (l' := #[.val (.ref a1), .val (.int (1 : Int32)), .val (.int (2 : Int32)), .val (.int x0)]) rfl k) ?_
  show own_G p.tables e below _ (T13.setTop (mkF m 46 #[.val (.ref a1), .val (.int (1 : Int32)), .val (.int (2 : Int32)), .val (.int x0)] []))
  refine own_step (fun t k => XS.goto X13.here hx rfl (pc0 := 46) (pc' := 9) rfl (hb hby d5_46) (by decide) (by decide) k) ?_
  show own_G p.tables e below _ (T13.setTop (mkF m 9 #[.val (.ref a1), .val (.int (1 : Int32)), .val (.int (2 : Int32)), .val (.int x0)] []))
  refine own_step (fun t k => XS.iloadN X13.here hx rfl (hb hby d5_9) rfl k) ?_
  show own_G p.tables e below _ (T13.setTop (mkF m 10 #[.val (.ref a1), .val (.int (1 : Int32)), .val (.int (2 : Int32)), .val (.int x0)] [(.int (1 : Int32))]))
  refine own_step (fun t k => XS.iloadN X13.here hx rfl (hb hby d5_10) rfl k) ?_
  show own_G p.tables e below _ (T13.setTop (mkF m 11 #[.val (.ref a1), .val (.int (1 : Int32)), .val (.int (2 : Int32)), .val (.int x0)] [(.int (2 : Int32)), (.int (1 : Int32))]))
  have hk19 : (1 : Int32) < (2 : Int32) := (by decide)
  refine own_step (fun t k => XS.icmpNo X13.here hx rfl (hb hby d5_11) rfl ((tlt hk19).2.1) k) ?_
  show own_G p.tables e below _ (T13.setTop (mkF m 14 #[.val (.ref a1), .val (.int (1 : Int32)), .val (.int (2 : Int32)), .val (.int x0)] []))
  refine own_step (fun t k => XS.aloadN X13.here hx rfl (hb hby d5_14) rfl rfl k) ?_
  show own_G p.tables e below _ (T13.setTop (mkF m 15 #[.val (.ref a1), .val (.int (1 : Int32)), .val (.int (2 : Int32)), .val (.int x0)] [(.ref a1)]))
  obtain ⟨T20, X20, e20, st20⟩ := getF X13 hx hZ hown (host := "") (Or.inl (hw _ (List.mem_of_getElem? (i := 11) rfl))) Via.refl e13 c17 (g := (mkF m 15 #[.val (.ref a1), .val (.int (1 : Int32)), .val (.int (2 : Int32)), .val (.int x0)] [(.ref a1)])) rfl rfl (hb hby d5_15)
  refine own_step st20 ?_
  show own_G p.tables e below _ (T20.setTop (mkF m 18 #[.val (.ref a1), .val (.int (1 : Int32)), .val (.int (2 : Int32)), .val (.int x0)] [(.ref u_ids)]))
  refine own_step (fun t k => XS.iloadN X20.here hx rfl (hb hby d5_18) rfl k) ?_
  show own_G p.tables e below _ (T20.setTop (mkF m 19 #[.val (.ref a1), .val (.int (1 : Int32)), .val (.int (2 : Int32)), .val (.int x0)] [(.int (1 : Int32)), (.ref u_ids)]))
  refine own_step (own_iaload X20 hx hZ e20 c14 (own_inb (by decide) (Nat.le_of_ble_eq_true rfl)) (g := (mkF m 19 #[.val (.ref a1), .val (.int (1 : Int32)), .val (.int (2 : Int32)), .val (.int x0)] [(.int (1 : Int32)), (.ref u_ids)])) rfl rfl (hb hby d5_19)) ?_
  show own_G p.tables e below _ (T20.setTop (mkF m 20 #[.val (.ref a1), .val (.int (1 : Int32)), .val (.int (2 : Int32)), .val (.int x0)] [(.int x1)]))
  refine own_step (fun t k => XS.istoreN X20.here hx rfl (hb hby d5_20) rfl (l' := #[.val (.ref a1), .val (.int (1 : Int32)), .val (.int (2 : Int32)), .val (.int x1)]) rfl k) ?_
  show own_G p.tables e below _ (T20.setTop (mkF m 21 #[.val (.ref a1), .val (.int (1 : Int32)), .val (.int (2 : Int32)), .val (.int x1)] []))
  refine own_step (fun t k => XS.aloadN X20.here hx rfl (hb hby d5_21) rfl rfl k) ?_
  show own_G p.tables e below _ (T20.setTop (mkF m 22 #[.val (.ref a1), .val (.int (1 : Int32)), .val (.int (2 : Int32)), .val (.int x1)] [(.ref a1)]))
  obtain ⟨T21, X21, e21, st21⟩ := getF X20 hx hZ hown (host := "") (Or.inl (hw _ (List.mem_of_getElem? (i := 11) rfl))) Via.refl e20 c17 (g := (mkF m 22 #[.val (.ref a1), .val (.int (1 : Int32)), .val (.int (2 : Int32)), .val (.int x1)] [(.ref a1)])) rfl rfl (hb hby d5_22)
  refine own_step st21 ?_
  show own_G p.tables e below _ (T21.setTop (mkF m 25 #[.val (.ref a1), .val (.int (1 : Int32)), .val (.int (2 : Int32)), .val (.int x1)] [(.ref u_ids)]))
  refine own_step (fun t k => XS.iloadN X21.here hx rfl (hb hby d5_25) rfl k) ?_
  show own_G p.tables e below _ (T21.setTop (mkF m 26 #[.val (.ref a1), .val (.int (1 : Int32)), .val (.int (2 : Int32)), .val (.int x1)] [(.int (1 : Int32)), (.ref u_ids)]))
  refine own_step (fun t k => XS.aloadN X21.here hx rfl (hb hby d5_26) rfl rfl k) ?_
  show own_G p.tables e below _ (T21.setTop (mkF m 27 #[.val (.ref a1), .val (.int (1 : Int32)), .val (.int (2 : Int32)), .val (.int x1)] [(.ref a1), (.int (1 : Int32)), (.ref u_ids)]))
  obtain ⟨T22, X22, e22, st22⟩ := getF X21 hx hZ hown (host := "") (Or.inl (hw _ (List.mem_of_getElem? (i := 11) rfl))) Via.refl e21 c17 (g := (mkF m 27 #[.val (.ref a1), .val (.int (1 : Int32)), .val (.int (2 : Int32)), .val (.int x1)] [(.ref a1), (.int (1 : Int32)), (.ref u_ids)])) rfl rfl (hb hby d5_27)
  refine own_step st22 ?_
  show own_G p.tables e below _ (T22.setTop (mkF m 30 #[.val (.ref a1), .val (.int (1 : Int32)), .val (.int (2 : Int32)), .val (.int x1)] [(.ref u_ids), (.int (1 : Int32)), (.ref u_ids)]))
  refine own_step (fun t k => XS.iloadN X22.here hx rfl (hb hby d5_30) rfl k) ?_
  show own_G p.tables e below _ (T22.setTop (mkF m 31 #[.val (.ref a1), .val (.int (1 : Int32)), .val (.int (2 : Int32)), .val (.int x1)] [(.int (2 : Int32)), (.ref u_ids), (.int (1 : Int32)), (.ref u_ids)]))
  refine own_step (own_iaload X22 hx hZ e22 c14 (own_inb (by decide) (Nat.le_of_ble_eq_true rfl)) (g := (mkF m 31 #[.val (.ref a1), .val (.int (1 : Int32)), .val (.int (2 : Int32)), .val (.int x1)] [(.int (2 : Int32)), (.ref u_ids), (.int (1 : Int32)), (.ref u_ids)])) rfl rfl (hb hby d5_31)) ?_
  show own_G p.tables e below _ (T22.setTop (mkF m 32 #[.val (.ref a1), .val (.int (1 : Int32)), .val (.int (2 : Int32)), .val (.int x1)] [(.int x2), (.int (1 : Int32)), (.ref u_ids)]))
  obtain ⟨T23, h23, X23, e23, W23, c23, st23⟩ := own_iastore X22 hx hZ e22 c14 (own_inb (by decide) (Nat.le_of_ble_eq_true rfl)) (g := (mkF m 32 #[.val (.ref a1), .val (.int (1 : Int32)), .val (.int (2 : Int32)), .val (.int x1)] [(.int x2), (.int (1 : Int32)), (.ref u_ids)])) rfl rfl (hb hby d5_32)
  have N23 := Fr.snoc X23 N13 g_u_ids
  have c24 : own_Ari Z h23 u_ids .int [x3, x2, x2, x0, x4, x5, x6, x7] := c23
  have c25 : Exa Z h23 a1 "com/example/same_bytes/samebytes/NodeIds" := c15.wr W23
  have c26 : Fld Z h23 a1 "com/example/same_bytes/samebytes/NodeIds" "size" "I" (.int (4 : Int32)) := c16.other W23 (Or.inl ne_a1_u_ids)
  have c27 : Fld Z h23 a1 "com/example/same_bytes/samebytes/NodeIds" "ids" "[I" (.ref u_ids) := c17.other W23 (Or.inl ne_a1_u_ids)
  have K23 : Keep h0 h23 [u_ids] := K13.wr W23 (Or.inl (List.mem_of_getElem? (i := 0) rfl))
  refine own_step st23 ?_
  show own_G p.tables e below _ (T23.setTop (mkF m 33 #[.val (.ref a1), .val (.int (1 : Int32)), .val (.int (2 : Int32)), .val (.int x1)] []))
  refine own_step (fun t k => XS.aloadN X23.here hx rfl (hb hby d5_33) rfl rfl k) ?_
  show own_G p.tables e below _ (T23.setTop (mkF m 34 #[.val (.ref a1), .val (.int (1 : Int32)), .val (.int (2 : Int32)), .val (.int x1)] [(.ref a1)]))
  obtain ⟨T29, X29, e29, st29⟩ := getF X23 hx hZ hown (host := "") (Or.inl (hw _ (List.mem_of_getElem? (i := 11) rfl))) Via.refl e23 c27 (g := (mkF m 34 #[.val (.ref a1), .val (.int (1 : Int32)), .val (.int (2 : Int32)), .val (.int x1)] [(.ref a1)])) rfl rfl (hb hby d5_34)
  refine own_step st29 ?_
  show own_G p.tables e below _ (T29.setTop (mkF m 37 #[.val (.ref a1), .val (.int (1 : Int32)), .val (.int (2 : Int32)), .val (.int x1)] [(.ref u_ids)]))
  refine own_step (fun t k => XS.iloadN X29.here hx rfl (hb hby d5_37) rfl k) ?_
  show own_G p.tables e below _ (T29.setTop (mkF m 38 #[.val (.ref a1), .val (.int (1 : Int32)), .val (.int (2 : Int32)), .val (.int x1)] [(.int (2 : Int32)), (.ref u_ids)]))
  refine own_step (fun t k => XS.iloadN X29.here hx rfl (hb hby d5_38) rfl k) ?_
  show own_G p.tables e below _ (T29.setTop (mkF m 39 #[.val (.ref a1), .val (.int (1 : Int32)), .val (.int (2 : Int32)), .val (.int x1)] [(.int x1), (.int (2 : Int32)), (.ref u_ids)]))
  obtain ⟨T30, h30, X30, e30, W30, c30, st30⟩ := own_iastore X29 hx hZ e29 c24 (own_inb (by decide) (Nat.le_of_ble_eq_true rfl)) (g := (mkF m 39 #[.val (.ref a1), .val (.int (1 : Int32)), .val (.int (2 : Int32)), .val (.int x1)] [(.int x1), (.int (2 : Int32)), (.ref u_ids)])) rfl rfl (hb hby d5_39)
  have N30 := Fr.snoc X30 N23 g_u_ids
  have c31 : own_Ari Z h30 u_ids .int [x3, x2, x1, x0, x4, x5, x6, x7] := c30
  have c32 : Exa Z h30 a1 "com/example/same_bytes/samebytes/NodeIds" := c25.wr W30
  have c33 : Fld Z h30 a1 "com/example/same_bytes/samebytes/NodeIds" "size" "I" (.int (4 : Int32)) := c26.other W30 (Or.inl ne_a1_u_ids)
  have c34 : Fld Z h30 a1 "com/example/same_bytes/samebytes/NodeIds" "ids" "[I" (.ref u_ids) := c27.other W30 (Or.inl ne_a1_u_ids)
  have K30 : Keep h0 h30 [u_ids] := K23.wr W30 (Or.inl (List.mem_of_getElem? (i := 0) rfl))
  refine own_step st30 ?_
  show own_G p.tables e below _ (T30.setTop (mkF m 40 #[.val (.ref a1), .val (.int (1 : Int32)), .val (.int (2 : Int32)), .val (.int x1)] []))
  refine own_step (fun t k => XS.iinc X30.here hx rfl (hb hby d5_40) rfl (l' := #[.val (.ref a1), .val (.int (2 : Int32)), .val (.int (2 : Int32)), .val (.int x1)]) rfl k) ?_
  show own_G p.tables e below _ (T30.setTop (mkF m 43 #[.val (.ref a1), .val (.int (2 : Int32)), .val (.int (2 : Int32)), .val (.int x1)] []))
  refine own_step (fun t k => XS.iinc X30.here hx rfl (hb hby d5_43) rfl (l' := #[.val (.ref a1), .val (.int (2 : Int32)), .val (.int (1 : Int32)), .val (.int x1)]) rfl k) ?_
  show own_G p.tables e below _ (T30.setTop (mkF m 46 #[.val (.ref a1), .val (.int (2 : Int32)), .val (.int (1 : Int32)), .val (.int x1)] []))
  refine own_step (fun t k => XS.goto X30.here hx rfl (pc0 := 46) (pc' := 9) rfl (hb hby d5_46) (by decide) (by decide) k) ?_
  show own_G p.tables e below _ (T30.setTop (mkF m 9 #[.val (.ref a1), .val (.int (2 : Int32)), .val (.int (1 : Int32)), .val (.int x1)] []))
  refine own_step (fun t k => XS.iloadN X30.here hx rfl (hb hby d5_9) rfl k) ?_
  show own_G p.tables e below _ (T30.setTop (mkF m 10 #[.val (.ref a1), .val (.int (2 : Int32)), .val (.int (1 : Int32)), .val (.int x1)] [(.int (2 : Int32))]))
  refine own_step (fun t k => XS.iloadN X30.here hx rfl (hb hby d5_10) rfl k) ?_
  show own_G p.tables e below _ (T30.setTop (mkF m 11 #[.val (.ref a1), .val (.int (2 : Int32)), .val (.int (1 : Int32)), .val (.int x1)] [(.int (1 : Int32)), (.int (2 : Int32))]))
  have hk36 : ¬ ((2 : Int32) < (1 : Int32)) := (by decide)
  refine own_step (fun t k => XS.icmpYes X30.here hx rfl (pc0 := 11) (pc' := 49) rfl (hb hby d5_11) rfl ((flt hk36).2.1) (by decide) (by decide) k) ?_
  show own_G p.tables e below _ (T30.setTop (mkF m 49 #[.val (.ref a1), .val (.int (2 : Int32)), .val (.int (1 : Int32)), .val (.int x1)] []))
  obtain ⟨fs, hr, hrun, hended, hW, hsame⟩ := X30.leave (v := none) (fun _ => rfl)
  refine own_done (X30.returnOut hx Bd.returns (hb hby d5_49) hr) hrun hended ⟨_, _, rfl, ?_, ⟨_, rfl⟩, hW, hsame.mono (by decide) (by decide)⟩
  show Q5_s4 Z a1 u_ids x0 x1 x2 x3 x4 x5 x6 x7 h0 n0 _ T30.heap _
  rw [e30]
  exact ⟨rfl, N30, K30, c31⟩
theorem pn_8_e4_0 : plainName "com/example/same_bytes/samebytes/NodeIdsReversePinLaw" = true := by first | (simp [plainName, overriddenIn]; done) | decide +kernel
theorem ef_8_e4_0 (m : MethodId) (a1 : Addr) : entryFrame m #[(.ref a1), (.int (4 : Int32)), (.int (0 : Int32))] 3 = mkF m 0 #[.val (.ref a1), .val (.int (4 : Int32)), .val (.int (0 : Int32))] [] := by first | (simp [entryFrame, mkF, argsToLocals, Value.category]; done) | rfl
def Q8_e4_0 (Z : State) (a1 : Addr) (x0 : Int32) (x1 : Int32) (x2 : Int32) (x3 : Int32) (h0 : Heap) (n0 : Nat) (v : Option Value) (h : Heap) (L : List Loc) : Prop := v = some (.int x3) ∧ Fr n0 L ∧ h = h0
set_option maxRecDepth 65536 in
set_option maxHeartbeats 40000000 in
theorem rm8_e4_0 (l : Launch) (Z : State) (a0 : Array Value) (hw : ∀ d ∈ tables_1, d.before a0 Z = true) (ws : List Jvm.Cond) (a1 : Addr) (x0 : Int32) (x1 : Int32) (x2 : Int32) (x3 : Int32) (h0 : Heap) (n0 : Nat) (Z0 : n0 ≤ h0.size) (fp0 : own_Ari Z h0 a1 .int [x0, x1, x2, x3]) :
    MetFree l (⟨"com/example/same_bytes/samebytes/NodeIdsReversePinLaw", "expect", "([III)I"⟩ : MethodName) (head1 (Jvm.Cond.code (⟨"com/example/same_bytes/samebytes/NodeIdsReversePinLaw", "expect", "([III)I"⟩ : MethodName) method_3_code 3 (some .int) :: ws) ({ frames := 0, cells := 0, slots := 0, locals := 0 } : Room)) (fun a U => a = #[(.ref a1), (.int (4 : Int32)), (.int (0 : Int32))] ∧ Z.Warmed39 U.vm ∧ U.heap = h0) (fun _ _ _ _ _ => True) (fun _ U o U' => ∃ v L, o = .returned v ∧ Q8_e4_0 Z a1 x0 x1 x2 x3 h0 n0 v U'.heap L ∧ FrameEnd U o U' L ({ frames := 0, cells := 0, slots := 0, locals := 0 } : Room).cells ({ frames := 0, cells := 0, slots := 0, locals := 0 } : Room).slots) := by
  refine MetFree.of_bodySF (plainFor_of_name pn_8_e4_0) hisR ?_
  intro p e s m args below meth c s₁ Bd hml0 hP hK
  obtain ⟨rfl, hZ, hh⟩ := hP
  have hx := Bd.exec
  have hby := Bd.bytes
  have hml : c.maxLocals = 3 := hml0
  have hown : s.vm.findClass "com/example/same_bytes/samebytes/NodeIdsReversePinLaw" = some m.cls := findClass_of_methodNamed Bd.named
  have hnm := (name_of_methodNamed Bd.named Bd.method).1
  have X0 : Stand p l e ({ frames := 0, cells := 0, slots := 0, locals := 0 } : Room) s m #[(.ref a1), (.int (4 : Int32)), (.int (0 : Int32))] below meth c s₁ [] 0 0 := Stand.of_body Bd
  have e0 : s₁.heap = h0 := by rw [← hh, Bd.state]; rfl
  have N0 := Fr.nil n0
  refine own_start (fun t k => castTop (ef_8_e4_0 m a1) k) ?_
  show own_G p.tables e below _ (s₁.setTop (mkF m 0 #[.val (.ref a1), .val (.int (4 : Int32)), .val (.int (0 : Int32))] []))
  refine own_step (fun t k => XS.iloadN X0.here hx rfl (hb hby d8_0) rfl k) ?_
  show own_G p.tables e below _ (s₁.setTop (mkF m 1 #[.val (.ref a1), .val (.int (4 : Int32)), .val (.int (0 : Int32))] [(.int (0 : Int32))]))
  refine own_step (fun t k => XS.iloadN X0.here hx rfl (hb hby d8_1) rfl k) ?_
  show own_G p.tables e below _ (s₁.setTop (mkF m 2 #[.val (.ref a1), .val (.int (4 : Int32)), .val (.int (0 : Int32))] [(.int (4 : Int32)), (.int (0 : Int32))]))
  have hk1 : (0 : Int32) < (4 : Int32) := (by decide)
  refine own_step (fun t k => XS.icmpNo X0.here hx rfl (hb hby d8_2) rfl ((tlt hk1).2.1) k) ?_
  show own_G p.tables e below _ (s₁.setTop (mkF m 5 #[.val (.ref a1), .val (.int (4 : Int32)), .val (.int (0 : Int32))] []))
  refine own_step (fun t k => XS.aloadN X0.here hx rfl (hb hby d8_5) rfl rfl k) ?_
  show own_G p.tables e below _ (s₁.setTop (mkF m 6 #[.val (.ref a1), .val (.int (4 : Int32)), .val (.int (0 : Int32))] [(.ref a1)]))
  refine own_step (fun t k => XS.iloadN X0.here hx rfl (hb hby d8_6) rfl k) ?_
  show own_G p.tables e below _ (s₁.setTop (mkF m 7 #[.val (.ref a1), .val (.int (4 : Int32)), .val (.int (0 : Int32))] [(.int (4 : Int32)), (.ref a1)]))
  refine own_step (fun t k => XS.iconst X0.here hx rfl (hb hby d8_7) k) ?_
  show own_G p.tables e below _ (s₁.setTop (mkF m 8 #[.val (.ref a1), .val (.int (4 : Int32)), .val (.int (0 : Int32))] [(.int (1 : Int32)), (.int (4 : Int32)), (.ref a1)]))
  refine own_step (fun t k => XS.isub X0.here hx rfl (hb hby d8_8) rfl k) ?_
  show own_G p.tables e below _ (s₁.setTop (mkF m 9 #[.val (.ref a1), .val (.int (4 : Int32)), .val (.int (0 : Int32))] [(.int (3 : Int32)), (.ref a1)]))
  refine own_step (fun t k => XS.iloadN X0.here hx rfl (hb hby d8_9) rfl k) ?_
  show own_G p.tables e below _ (s₁.setTop (mkF m 10 #[.val (.ref a1), .val (.int (4 : Int32)), .val (.int (0 : Int32))] [(.int (0 : Int32)), (.int (3 : Int32)), (.ref a1)]))
  refine own_step (fun t k => XS.isub X0.here hx rfl (hb hby d8_10) rfl k) ?_
  show own_G p.tables e below _ (s₁.setTop (mkF m 11 #[.val (.ref a1), .val (.int (4 : Int32)), .val (.int (0 : Int32))] [(.int (3 : Int32)), (.ref a1)]))
  refine own_step (own_iaload X0 hx hZ e0 fp0 (own_inb (by decide) (Nat.le_of_ble_eq_true rfl)) (g := (mkF m 11 #[.val (.ref a1), .val (.int (4 : Int32)), .val (.int (0 : Int32))] [(.int (3 : Int32)), (.ref a1)])) rfl rfl (hb hby d8_11)) ?_
  show own_G p.tables e below _ (s₁.setTop (mkF m 12 #[.val (.ref a1), .val (.int (4 : Int32)), .val (.int (0 : Int32))] [(.int x3)]))
  obtain ⟨fs, hr, hrun, hended, hW, hsame⟩ := X0.leave (v := some (.int x3)) (fun h => by rw [Bd.returns] at h; cases h)
  refine own_done (retI X0 hx Bd.returns (hb hby d8_12) hr) hrun hended ⟨_, _, rfl, ?_, ⟨_, rfl⟩, hW, hsame.mono (by decide) (by decide)⟩
  show Q8_e4_0 Z a1 x0 x1 x2 x3 h0 n0 _ s₁.heap _
  rw [e0]
  exact ⟨congrArg (fun z => some (Value.int z)) (show x3 = x3 from rfl), N0, rfl⟩
theorem pn_8_e4_1 : plainName "com/example/same_bytes/samebytes/NodeIdsReversePinLaw" = true := by first | (simp [plainName, overriddenIn]; done) | decide +kernel
theorem ef_8_e4_1 (m : MethodId) (a1 : Addr) : entryFrame m #[(.ref a1), (.int (4 : Int32)), (.int (1 : Int32))] 3 = mkF m 0 #[.val (.ref a1), .val (.int (4 : Int32)), .val (.int (1 : Int32))] [] := by first | (simp [entryFrame, mkF, argsToLocals, Value.category]; done) | rfl
def Q8_e4_1 (Z : State) (a1 : Addr) (x0 : Int32) (x1 : Int32) (x2 : Int32) (x3 : Int32) (h0 : Heap) (n0 : Nat) (v : Option Value) (h : Heap) (L : List Loc) : Prop := v = some (.int x2) ∧ Fr n0 L ∧ h = h0
set_option maxRecDepth 65536 in
set_option maxHeartbeats 40000000 in
theorem rm8_e4_1 (l : Launch) (Z : State) (a0 : Array Value) (hw : ∀ d ∈ tables_1, d.before a0 Z = true) (ws : List Jvm.Cond) (a1 : Addr) (x0 : Int32) (x1 : Int32) (x2 : Int32) (x3 : Int32) (h0 : Heap) (n0 : Nat) (Z0 : n0 ≤ h0.size) (fp0 : own_Ari Z h0 a1 .int [x0, x1, x2, x3]) :
    MetFree l (⟨"com/example/same_bytes/samebytes/NodeIdsReversePinLaw", "expect", "([III)I"⟩ : MethodName) (head1 (Jvm.Cond.code (⟨"com/example/same_bytes/samebytes/NodeIdsReversePinLaw", "expect", "([III)I"⟩ : MethodName) method_3_code 3 (some .int) :: ws) ({ frames := 0, cells := 0, slots := 0, locals := 0 } : Room)) (fun a U => a = #[(.ref a1), (.int (4 : Int32)), (.int (1 : Int32))] ∧ Z.Warmed39 U.vm ∧ U.heap = h0) (fun _ _ _ _ _ => True) (fun _ U o U' => ∃ v L, o = .returned v ∧ Q8_e4_1 Z a1 x0 x1 x2 x3 h0 n0 v U'.heap L ∧ FrameEnd U o U' L ({ frames := 0, cells := 0, slots := 0, locals := 0 } : Room).cells ({ frames := 0, cells := 0, slots := 0, locals := 0 } : Room).slots) := by
  refine MetFree.of_bodySF (plainFor_of_name pn_8_e4_1) hisR ?_
  intro p e s m args below meth c s₁ Bd hml0 hP hK
  obtain ⟨rfl, hZ, hh⟩ := hP
  have hx := Bd.exec
  have hby := Bd.bytes
  have hml : c.maxLocals = 3 := hml0
  have hown : s.vm.findClass "com/example/same_bytes/samebytes/NodeIdsReversePinLaw" = some m.cls := findClass_of_methodNamed Bd.named
  have hnm := (name_of_methodNamed Bd.named Bd.method).1
  have X0 : Stand p l e ({ frames := 0, cells := 0, slots := 0, locals := 0 } : Room) s m #[(.ref a1), (.int (4 : Int32)), (.int (1 : Int32))] below meth c s₁ [] 0 0 := Stand.of_body Bd
  have e0 : s₁.heap = h0 := by rw [← hh, Bd.state]; rfl
  have N0 := Fr.nil n0
  refine own_start (fun t k => castTop (ef_8_e4_1 m a1) k) ?_
  show own_G p.tables e below _ (s₁.setTop (mkF m 0 #[.val (.ref a1), .val (.int (4 : Int32)), .val (.int (1 : Int32))] []))
  refine own_step (fun t k => XS.iloadN X0.here hx rfl (hb hby d8_0) rfl k) ?_
  show own_G p.tables e below _ (s₁.setTop (mkF m 1 #[.val (.ref a1), .val (.int (4 : Int32)), .val (.int (1 : Int32))] [(.int (1 : Int32))]))
  refine own_step (fun t k => XS.iloadN X0.here hx rfl (hb hby d8_1) rfl k) ?_
  show own_G p.tables e below _ (s₁.setTop (mkF m 2 #[.val (.ref a1), .val (.int (4 : Int32)), .val (.int (1 : Int32))] [(.int (4 : Int32)), (.int (1 : Int32))]))
  have hk1 : (1 : Int32) < (4 : Int32) := (by decide)
  refine own_step (fun t k => XS.icmpNo X0.here hx rfl (hb hby d8_2) rfl ((tlt hk1).2.1) k) ?_
  show own_G p.tables e below _ (s₁.setTop (mkF m 5 #[.val (.ref a1), .val (.int (4 : Int32)), .val (.int (1 : Int32))] []))
  refine own_step (fun t k => XS.aloadN X0.here hx rfl (hb hby d8_5) rfl rfl k) ?_
  show own_G p.tables e below _ (s₁.setTop (mkF m 6 #[.val (.ref a1), .val (.int (4 : Int32)), .val (.int (1 : Int32))] [(.ref a1)]))
  refine own_step (fun t k => XS.iloadN X0.here hx rfl (hb hby d8_6) rfl k) ?_
  show own_G p.tables e below _ (s₁.setTop (mkF m 7 #[.val (.ref a1), .val (.int (4 : Int32)), .val (.int (1 : Int32))] [(.int (4 : Int32)), (.ref a1)]))
  refine own_step (fun t k => XS.iconst X0.here hx rfl (hb hby d8_7) k) ?_
  show own_G p.tables e below _ (s₁.setTop (mkF m 8 #[.val (.ref a1), .val (.int (4 : Int32)), .val (.int (1 : Int32))] [(.int (1 : Int32)), (.int (4 : Int32)), (.ref a1)]))
  refine own_step (fun t k => XS.isub X0.here hx rfl (hb hby d8_8) rfl k) ?_
  show own_G p.tables e below _ (s₁.setTop (mkF m 9 #[.val (.ref a1), .val (.int (4 : Int32)), .val (.int (1 : Int32))] [(.int (3 : Int32)), (.ref a1)]))
  refine own_step (fun t k => XS.iloadN X0.here hx rfl (hb hby d8_9) rfl k) ?_
  show own_G p.tables e below _ (s₁.setTop (mkF m 10 #[.val (.ref a1), .val (.int (4 : Int32)), .val (.int (1 : Int32))] [(.int (1 : Int32)), (.int (3 : Int32)), (.ref a1)]))
  refine own_step (fun t k => XS.isub X0.here hx rfl (hb hby d8_10) rfl k) ?_
  show own_G p.tables e below _ (s₁.setTop (mkF m 11 #[.val (.ref a1), .val (.int (4 : Int32)), .val (.int (1 : Int32))] [(.int (2 : Int32)), (.ref a1)]))
  refine own_step (own_iaload X0 hx hZ e0 fp0 (own_inb (by decide) (Nat.le_of_ble_eq_true rfl)) (g := (mkF m 11 #[.val (.ref a1), .val (.int (4 : Int32)), .val (.int (1 : Int32))] [(.int (2 : Int32)), (.ref a1)])) rfl rfl (hb hby d8_11)) ?_
  show own_G p.tables e below _ (s₁.setTop (mkF m 12 #[.val (.ref a1), .val (.int (4 : Int32)), .val (.int (1 : Int32))] [(.int x2)]))
  obtain ⟨fs, hr, hrun, hended, hW, hsame⟩ := X0.leave (v := some (.int x2)) (fun h => by rw [Bd.returns] at h; cases h)
  refine own_done (retI X0 hx Bd.returns (hb hby d8_12) hr) hrun hended ⟨_, _, rfl, ?_, ⟨_, rfl⟩, hW, hsame.mono (by decide) (by decide)⟩
  show Q8_e4_1 Z a1 x0 x1 x2 x3 h0 n0 _ s₁.heap _
  rw [e0]
  exact ⟨congrArg (fun z => some (Value.int z)) (show x2 = x2 from rfl), N0, rfl⟩
theorem pn_8_e4_2 : plainName "com/example/same_bytes/samebytes/NodeIdsReversePinLaw" = true := by first | (simp [plainName, overriddenIn]; done) | decide +kernel
theorem ef_8_e4_2 (m : MethodId) (a1 : Addr) : entryFrame m #[(.ref a1), (.int (4 : Int32)), (.int (2 : Int32))] 3 = mkF m 0 #[.val (.ref a1), .val (.int (4 : Int32)), .val (.int (2 : Int32))] [] := by first | (simp [entryFrame, mkF, argsToLocals, Value.category]; done) | rfl
def Q8_e4_2 (Z : State) (a1 : Addr) (x0 : Int32) (x1 : Int32) (x2 : Int32) (x3 : Int32) (h0 : Heap) (n0 : Nat) (v : Option Value) (h : Heap) (L : List Loc) : Prop := v = some (.int x1) ∧ Fr n0 L ∧ h = h0
set_option maxRecDepth 65536 in
set_option maxHeartbeats 40000000 in
theorem rm8_e4_2 (l : Launch) (Z : State) (a0 : Array Value) (hw : ∀ d ∈ tables_1, d.before a0 Z = true) (ws : List Jvm.Cond) (a1 : Addr) (x0 : Int32) (x1 : Int32) (x2 : Int32) (x3 : Int32) (h0 : Heap) (n0 : Nat) (Z0 : n0 ≤ h0.size) (fp0 : own_Ari Z h0 a1 .int [x0, x1, x2, x3]) :
    MetFree l (⟨"com/example/same_bytes/samebytes/NodeIdsReversePinLaw", "expect", "([III)I"⟩ : MethodName) (head1 (Jvm.Cond.code (⟨"com/example/same_bytes/samebytes/NodeIdsReversePinLaw", "expect", "([III)I"⟩ : MethodName) method_3_code 3 (some .int) :: ws) ({ frames := 0, cells := 0, slots := 0, locals := 0 } : Room)) (fun a U => a = #[(.ref a1), (.int (4 : Int32)), (.int (2 : Int32))] ∧ Z.Warmed39 U.vm ∧ U.heap = h0) (fun _ _ _ _ _ => True) (fun _ U o U' => ∃ v L, o = .returned v ∧ Q8_e4_2 Z a1 x0 x1 x2 x3 h0 n0 v U'.heap L ∧ FrameEnd U o U' L ({ frames := 0, cells := 0, slots := 0, locals := 0 } : Room).cells ({ frames := 0, cells := 0, slots := 0, locals := 0 } : Room).slots) := by
  refine MetFree.of_bodySF (plainFor_of_name pn_8_e4_2) hisR ?_
  intro p e s m args below meth c s₁ Bd hml0 hP hK
  obtain ⟨rfl, hZ, hh⟩ := hP
  have hx := Bd.exec
  have hby := Bd.bytes
  have hml : c.maxLocals = 3 := hml0
  have hown : s.vm.findClass "com/example/same_bytes/samebytes/NodeIdsReversePinLaw" = some m.cls := findClass_of_methodNamed Bd.named
  have hnm := (name_of_methodNamed Bd.named Bd.method).1
  have X0 : Stand p l e ({ frames := 0, cells := 0, slots := 0, locals := 0 } : Room) s m #[(.ref a1), (.int (4 : Int32)), (.int (2 : Int32))] below meth c s₁ [] 0 0 := Stand.of_body Bd
  have e0 : s₁.heap = h0 := by rw [← hh, Bd.state]; rfl
  have N0 := Fr.nil n0
  refine own_start (fun t k => castTop (ef_8_e4_2 m a1) k) ?_
  show own_G p.tables e below _ (s₁.setTop (mkF m 0 #[.val (.ref a1), .val (.int (4 : Int32)), .val (.int (2 : Int32))] []))
  refine own_step (fun t k => XS.iloadN X0.here hx rfl (hb hby d8_0) rfl k) ?_
  show own_G p.tables e below _ (s₁.setTop (mkF m 1 #[.val (.ref a1), .val (.int (4 : Int32)), .val (.int (2 : Int32))] [(.int (2 : Int32))]))
  refine own_step (fun t k => XS.iloadN X0.here hx rfl (hb hby d8_1) rfl k) ?_
  show own_G p.tables e below _ (s₁.setTop (mkF m 2 #[.val (.ref a1), .val (.int (4 : Int32)), .val (.int (2 : Int32))] [(.int (4 : Int32)), (.int (2 : Int32))]))
  have hk1 : (2 : Int32) < (4 : Int32) := (by decide)
  refine own_step (fun t k => XS.icmpNo X0.here hx rfl (hb hby d8_2) rfl ((tlt hk1).2.1) k) ?_
  show own_G p.tables e below _ (s₁.setTop (mkF m 5 #[.val (.ref a1), .val (.int (4 : Int32)), .val (.int (2 : Int32))] []))
  refine own_step (fun t k => XS.aloadN X0.here hx rfl (hb hby d8_5) rfl rfl k) ?_
  show own_G p.tables e below _ (s₁.setTop (mkF m 6 #[.val (.ref a1), .val (.int (4 : Int32)), .val (.int (2 : Int32))] [(.ref a1)]))
  refine own_step (fun t k => XS.iloadN X0.here hx rfl (hb hby d8_6) rfl k) ?_
  show own_G p.tables e below _ (s₁.setTop (mkF m 7 #[.val (.ref a1), .val (.int (4 : Int32)), .val (.int (2 : Int32))] [(.int (4 : Int32)), (.ref a1)]))
  refine own_step (fun t k => XS.iconst X0.here hx rfl (hb hby d8_7) k) ?_
  show own_G p.tables e below _ (s₁.setTop (mkF m 8 #[.val (.ref a1), .val (.int (4 : Int32)), .val (.int (2 : Int32))] [(.int (1 : Int32)), (.int (4 : Int32)), (.ref a1)]))
  refine own_step (fun t k => XS.isub X0.here hx rfl (hb hby d8_8) rfl k) ?_
  show own_G p.tables e below _ (s₁.setTop (mkF m 9 #[.val (.ref a1), .val (.int (4 : Int32)), .val (.int (2 : Int32))] [(.int (3 : Int32)), (.ref a1)]))
  refine own_step (fun t k => XS.iloadN X0.here hx rfl (hb hby d8_9) rfl k) ?_
  show own_G p.tables e below _ (s₁.setTop (mkF m 10 #[.val (.ref a1), .val (.int (4 : Int32)), .val (.int (2 : Int32))] [(.int (2 : Int32)), (.int (3 : Int32)), (.ref a1)]))
  refine own_step (fun t k => XS.isub X0.here hx rfl (hb hby d8_10) rfl k) ?_
  show own_G p.tables e below _ (s₁.setTop (mkF m 11 #[.val (.ref a1), .val (.int (4 : Int32)), .val (.int (2 : Int32))] [(.int (1 : Int32)), (.ref a1)]))
  refine own_step (own_iaload X0 hx hZ e0 fp0 (own_inb (by decide) (Nat.le_of_ble_eq_true rfl)) (g := (mkF m 11 #[.val (.ref a1), .val (.int (4 : Int32)), .val (.int (2 : Int32))] [(.int (1 : Int32)), (.ref a1)])) rfl rfl (hb hby d8_11)) ?_
  show own_G p.tables e below _ (s₁.setTop (mkF m 12 #[.val (.ref a1), .val (.int (4 : Int32)), .val (.int (2 : Int32))] [(.int x1)]))
  obtain ⟨fs, hr, hrun, hended, hW, hsame⟩ := X0.leave (v := some (.int x1)) (fun h => by rw [Bd.returns] at h; cases h)
  refine own_done (retI X0 hx Bd.returns (hb hby d8_12) hr) hrun hended ⟨_, _, rfl, ?_, ⟨_, rfl⟩, hW, hsame.mono (by decide) (by decide)⟩
  show Q8_e4_2 Z a1 x0 x1 x2 x3 h0 n0 _ s₁.heap _
  rw [e0]
  exact ⟨congrArg (fun z => some (Value.int z)) (show x1 = x1 from rfl), N0, rfl⟩
theorem pn_8_e4_3 : plainName "com/example/same_bytes/samebytes/NodeIdsReversePinLaw" = true := by first | (simp [plainName, overriddenIn]; done) | decide +kernel
theorem ef_8_e4_3 (m : MethodId) (a1 : Addr) : entryFrame m #[(.ref a1), (.int (4 : Int32)), (.int (3 : Int32))] 3 = mkF m 0 #[.val (.ref a1), .val (.int (4 : Int32)), .val (.int (3 : Int32))] [] := by first | (simp [entryFrame, mkF, argsToLocals, Value.category]; done) | rfl
def Q8_e4_3 (Z : State) (a1 : Addr) (x0 : Int32) (x1 : Int32) (x2 : Int32) (x3 : Int32) (h0 : Heap) (n0 : Nat) (v : Option Value) (h : Heap) (L : List Loc) : Prop := v = some (.int x0) ∧ Fr n0 L ∧ h = h0
set_option maxRecDepth 65536 in
set_option maxHeartbeats 40000000 in
theorem rm8_e4_3 (l : Launch) (Z : State) (a0 : Array Value) (hw : ∀ d ∈ tables_1, d.before a0 Z = true) (ws : List Jvm.Cond) (a1 : Addr) (x0 : Int32) (x1 : Int32) (x2 : Int32) (x3 : Int32) (h0 : Heap) (n0 : Nat) (Z0 : n0 ≤ h0.size) (fp0 : own_Ari Z h0 a1 .int [x0, x1, x2, x3]) :
    MetFree l (⟨"com/example/same_bytes/samebytes/NodeIdsReversePinLaw", "expect", "([III)I"⟩ : MethodName) (head1 (Jvm.Cond.code (⟨"com/example/same_bytes/samebytes/NodeIdsReversePinLaw", "expect", "([III)I"⟩ : MethodName) method_3_code 3 (some .int) :: ws) ({ frames := 0, cells := 0, slots := 0, locals := 0 } : Room)) (fun a U => a = #[(.ref a1), (.int (4 : Int32)), (.int (3 : Int32))] ∧ Z.Warmed39 U.vm ∧ U.heap = h0) (fun _ _ _ _ _ => True) (fun _ U o U' => ∃ v L, o = .returned v ∧ Q8_e4_3 Z a1 x0 x1 x2 x3 h0 n0 v U'.heap L ∧ FrameEnd U o U' L ({ frames := 0, cells := 0, slots := 0, locals := 0 } : Room).cells ({ frames := 0, cells := 0, slots := 0, locals := 0 } : Room).slots) := by
  refine MetFree.of_bodySF (plainFor_of_name pn_8_e4_3) hisR ?_
  intro p e s m args below meth c s₁ Bd hml0 hP hK
  obtain ⟨rfl, hZ, hh⟩ := hP
  have hx := Bd.exec
  have hby := Bd.bytes
  have hml : c.maxLocals = 3 := hml0
  have hown : s.vm.findClass "com/example/same_bytes/samebytes/NodeIdsReversePinLaw" = some m.cls := findClass_of_methodNamed Bd.named
  have hnm := (name_of_methodNamed Bd.named Bd.method).1
  have X0 : Stand p l e ({ frames := 0, cells := 0, slots := 0, locals := 0 } : Room) s m #[(.ref a1), (.int (4 : Int32)), (.int (3 : Int32))] below meth c s₁ [] 0 0 := Stand.of_body Bd
  have e0 : s₁.heap = h0 := by rw [← hh, Bd.state]; rfl
  have N0 := Fr.nil n0
  refine own_start (fun t k => castTop (ef_8_e4_3 m a1) k) ?_
  show own_G p.tables e below _ (s₁.setTop (mkF m 0 #[.val (.ref a1), .val (.int (4 : Int32)), .val (.int (3 : Int32))] []))
  refine own_step (fun t k => XS.iloadN X0.here hx rfl (hb hby d8_0) rfl k) ?_
  show own_G p.tables e below _ (s₁.setTop (mkF m 1 #[.val (.ref a1), .val (.int (4 : Int32)), .val (.int (3 : Int32))] [(.int (3 : Int32))]))
  refine own_step (fun t k => XS.iloadN X0.here hx rfl (hb hby d8_1) rfl k) ?_
  show own_G p.tables e below _ (s₁.setTop (mkF m 2 #[.val (.ref a1), .val (.int (4 : Int32)), .val (.int (3 : Int32))] [(.int (4 : Int32)), (.int (3 : Int32))]))
  have hk1 : (3 : Int32) < (4 : Int32) := (by decide)
  refine own_step (fun t k => XS.icmpNo X0.here hx rfl (hb hby d8_2) rfl ((tlt hk1).2.1) k) ?_
  show own_G p.tables e below _ (s₁.setTop (mkF m 5 #[.val (.ref a1), .val (.int (4 : Int32)), .val (.int (3 : Int32))] []))
  refine own_step (fun t k => XS.aloadN X0.here hx rfl (hb hby d8_5) rfl rfl k) ?_
  show own_G p.tables e below _ (s₁.setTop (mkF m 6 #[.val (.ref a1), .val (.int (4 : Int32)), .val (.int (3 : Int32))] [(.ref a1)]))
  refine own_step (fun t k => XS.iloadN X0.here hx rfl (hb hby d8_6) rfl k) ?_
  show own_G p.tables e below _ (s₁.setTop (mkF m 7 #[.val (.ref a1), .val (.int (4 : Int32)), .val (.int (3 : Int32))] [(.int (4 : Int32)), (.ref a1)]))
  refine own_step (fun t k => XS.iconst X0.here hx rfl (hb hby d8_7) k) ?_
  show own_G p.tables e below _ (s₁.setTop (mkF m 8 #[.val (.ref a1), .val (.int (4 : Int32)), .val (.int (3 : Int32))] [(.int (1 : Int32)), (.int (4 : Int32)), (.ref a1)]))
  refine own_step (fun t k => XS.isub X0.here hx rfl (hb hby d8_8) rfl k) ?_
  show own_G p.tables e below _ (s₁.setTop (mkF m 9 #[.val (.ref a1), .val (.int (4 : Int32)), .val (.int (3 : Int32))] [(.int (3 : Int32)), (.ref a1)]))
  refine own_step (fun t k => XS.iloadN X0.here hx rfl (hb hby d8_9) rfl k) ?_
  show own_G p.tables e below _ (s₁.setTop (mkF m 10 #[.val (.ref a1), .val (.int (4 : Int32)), .val (.int (3 : Int32))] [(.int (3 : Int32)), (.int (3 : Int32)), (.ref a1)]))
  refine own_step (fun t k => XS.isub X0.here hx rfl (hb hby d8_10) rfl k) ?_
  show own_G p.tables e below _ (s₁.setTop (mkF m 11 #[.val (.ref a1), .val (.int (4 : Int32)), .val (.int (3 : Int32))] [(.int (0 : Int32)), (.ref a1)]))
  refine own_step (own_iaload X0 hx hZ e0 fp0 (own_inb (by decide) (Nat.le_of_ble_eq_true rfl)) (g := (mkF m 11 #[.val (.ref a1), .val (.int (4 : Int32)), .val (.int (3 : Int32))] [(.int (0 : Int32)), (.ref a1)])) rfl rfl (hb hby d8_11)) ?_
  show own_G p.tables e below _ (s₁.setTop (mkF m 12 #[.val (.ref a1), .val (.int (4 : Int32)), .val (.int (3 : Int32))] [(.int x0)]))
  obtain ⟨fs, hr, hrun, hended, hW, hsame⟩ := X0.leave (v := some (.int x0)) (fun h => by rw [Bd.returns] at h; cases h)
  refine own_done (retI X0 hx Bd.returns (hb hby d8_12) hr) hrun hended ⟨_, _, rfl, ?_, ⟨_, rfl⟩, hW, hsame.mono (by decide) (by decide)⟩
  show Q8_e4_3 Z a1 x0 x1 x2 x3 h0 n0 _ s₁.heap _
  rw [e0]
  exact ⟨congrArg (fun z => some (Value.int z)) (show x0 = x0 from rfl), N0, rfl⟩
theorem pn_0 : plainName "com/example/same_bytes/samebytes/NodeIdsReversePinLaw" = true := by first | (simp [plainName, overriddenIn]; done) | decide +kernel
theorem pd_0_0 : parseMethodDescriptor "()V" = some ⟨[], none⟩ := by decide +kernel
theorem pd_0_1 : parseMethodDescriptor "(I)V" = some ⟨[.int], none⟩ := by decide +kernel
theorem pd_0_2 : parseMethodDescriptor "()I" = some ⟨[], some .int⟩ := by decide +kernel
theorem pd_0_3 : parseMethodDescriptor "(I)I" = some ⟨[.int], some .int⟩ := by decide +kernel
theorem pd_0_4 : parseMethodDescriptor "([III)I" = some ⟨[(.array .int), .int, .int], some .int⟩ := by decide +kernel
theorem ef_0 (m : MethodId) (p1 : Int32) (p2 : Int32) (p3 : Int32) (p4 : Int32) (p5 : Int32) : entryFrame m #[(.int p1), (.int p2), (.int p3), (.int p4), (.int p5)] maxLocals = mkF m 0 #[.val (.int p1), .val (.int p2), .val (.int p3), .val (.int p4), .val (.int p5), .unset, .unset, .unset] [] := by first | (simp [entryFrame, mkF, argsToLocals, Value.category, maxLocals]; done) | rfl
def Q0 (Z : State) (p1 : Int32) (p2 : Int32) (p3 : Int32) (p4 : Int32) (p5 : Int32) (h0 : Heap) (n0 : Nat) (v : Option Value) (h : Heap) (L : List Loc) : Prop := v = some (.int (1 : Int32)) ∧ Fr n0 L
set_option maxRecDepth 65536 in
set_option maxHeartbeats 40000000 in
theorem rm0 (l : Launch) (Z : State) (a0 : Array Value) (hw : ∀ d ∈ tables_1, d.before a0 Z = true) (ws : List Jvm.Cond) (p1 : Int32) (p2 : Int32) (p3 : Int32) (p4 : Int32) (p5 : Int32) (h0 : Heap) (n0 : Nat) (Z0 : n0 ≤ h0.size) :
    MetFree l x (head1 (Jvm.Cond.code x code maxLocals ret :: ws) room_1) (fun a U => a = #[(.int p1), (.int p2), (.int p3), (.int p4), (.int p5)] ∧ Z.Warmed39 U.vm ∧ U.heap = h0) (fun _ _ _ _ _ => True) (fun _ U o U' => ∃ v L, o = .returned v ∧ Q0 Z p1 p2 p3 p4 p5 h0 n0 v U'.heap L ∧ FrameEnd U o U' L room_1.cells room_1.slots) := by
  refine MetFree.of_bodySF (plainFor_of_name pn_0) hisR ?_
  intro p e s m args below meth c s₁ Bd hml0 hP hK
  obtain ⟨rfl, hZ, hh⟩ := hP
  have hx := Bd.exec
  have hby := Bd.bytes
  have hml : c.maxLocals = 8 := hml0
  have hown : s.vm.findClass "com/example/same_bytes/samebytes/NodeIdsReversePinLaw" = some m.cls := findClass_of_methodNamed Bd.named
  have hnm := (name_of_methodNamed Bd.named Bd.method).1
  have X0 : Stand p l e room_1 s m #[(.int p1), (.int p2), (.int p3), (.int p4), (.int p5)] below meth c s₁ [] 0 0 := Stand.of_body Bd
  have e0 : s₁.heap = h0 := by rw [← hh, Bd.state]; rfl
  have N0 := Fr.nil n0
  refine own_start (fun t k => castTop (ef_0 m p1 p2 p3 p4 p5) k) ?_
  show own_G p.tables e below _ (s₁.setTop (mkF m 0 #[.val (.int p1), .val (.int p2), .val (.int p3), .val (.int p4), .val (.int p5), .unset, .unset, .unset] []))
  refine own_step (fun t k => XS.iload X0.here hx rfl (hb hby at_0) rfl k) ?_
  show own_G p.tables e below _ (s₁.setTop (mkF m 2 #[.val (.int p1), .val (.int p2), .val (.int p3), .val (.int p4), .val (.int p5), .unset, .unset, .unset] [(.int p5)]))
  refine own_step (X0.ldcInt hx hown (mvT hZ (hw _ (List.mem_of_getElem? (i := 0) rfl))) (g := (mkF m 2 #[.val (.int p1), .val (.int p2), .val (.int p3), .val (.int p4), .val (.int p5), .unset, .unset, .unset] [(.int p5)])) rfl (hb hby at_2)) ?_
  show own_G p.tables e below _ (s₁.setTop (mkF m 4 #[.val (.int p1), .val (.int p2), .val (.int p3), .val (.int p4), .val (.int p5), .unset, .unset, .unset] [(.int (2147483647 : Int32)), (.int p5)]))
  refine own_step (fun t k => XS.iand X0.here hx rfl (hb hby at_4) rfl k) ?_
  show own_G p.tables e below _ (s₁.setTop (mkF m 5 #[.val (.int p1), .val (.int p2), .val (.int p3), .val (.int p4), .val (.int p5), .unset, .unset, .unset] [(.int (p5 &&& (2147483647 : Int32)))]))
  refine own_step (fun t k => XS.iconst X0.here hx rfl (hb hby at_5) k) ?_
  show own_G p.tables e below _ (s₁.setTop (mkF m 6 #[.val (.int p1), .val (.int p2), .val (.int p3), .val (.int p4), .val (.int p5), .unset, .unset, .unset] [(.int (5 : Int32)), (.int (p5 &&& (2147483647 : Int32)))]))
  refine own_step (fun t k => XS.irem X0.here hx rfl (hb hby at_6) rfl (by decide) k) ?_
  show own_G p.tables e below _ (s₁.setTop (mkF m 7 #[.val (.int p1), .val (.int p2), .val (.int p3), .val (.int p4), .val (.int p5), .unset, .unset, .unset] [(.int ((p5 &&& (2147483647 : Int32)) - ((p5 &&& (2147483647 : Int32)) / (5 : Int32)) * (5 : Int32)))]))
  refine own_nm (((p5 &&& (2147483647 : Int32)) - ((p5 &&& (2147483647 : Int32)) / (5 : Int32)) * (5 : Int32)) : Int32) (fun n => s₁.setTop (mkF m 7 #[.val (.int p1), .val (.int p2), .val (.int p3), .val (.int p4), .val (.int p5), .unset, .unset, .unset] [(.int n)])) ?_
  intro n hd_n
  show own_G p.tables e below _ (s₁.setTop (mkF m 7 #[.val (.int p1), .val (.int p2), .val (.int p3), .val (.int p4), .val (.int p5), .unset, .unset, .unset] [(.int n)]))
  refine own_step (fun t k => XS.istore X0.here hx rfl (hb hby at_7) rfl (l' := #[.val (.int p1), .val (.int p2), .val (.int p3), .val (.int p4), .val (.int p5), .val (.int n), .unset, .unset]) rfl k) ?_
  show own_G p.tables e below _ (s₁.setTop (mkF m 9 #[.val (.int p1), .val (.int p2), .val (.int p3), .val (.int p4), .val (.int p5), .val (.int n), .unset, .unset] []))
  refine own_step (fun t k => XS.iconst X0.here hx rfl (hb hby at_9) k) ?_
  show own_G p.tables e below _ (s₁.setTop (mkF m 10 #[.val (.int p1), .val (.int p2), .val (.int p3), .val (.int p4), .val (.int p5), .val (.int n), .unset, .unset] [(.int (4 : Int32))]))
  obtain ⟨T2, h2, k2, X2, e2, E2, A2, st2⟩ := newP X0 hx hZ (hw _ (List.mem_of_getElem? (i := 1) rfl)) e0 (g := (mkF m 10 #[.val (.int p1), .val (.int p2), .val (.int p3), .val (.int p4), .val (.int p5), .val (.int n), .unset, .unset] [(.int (4 : Int32))])) rfl (hb hby at_10) rfl (by decide) (cap := 4) (by decide) (by decide) (by decide) (by decide)
  obtain ⟨b2, g2⟩ : ∃ z, z = h0.size := ⟨_, rfl⟩
  have sz2 : h0.size ≤ b2 := Nat.le_trans (Keep.refl h0 []).1 (Nat.le_of_eq g2.symm)
  have ge2 : n0 ≤ b2 := Nat.le_trans Z0 sz2
  have K2 : Keep h0 h2 [] := (Keep.refl h0 []).ext E2
  rw [← g2] at A2 st2
  have c3 : own_Ari Z h2 b2 .int [(0 : Int32), (0 : Int32), (0 : Int32), (0 : Int32)] := own_Ari_new (ty := .int) A2 (by decide) rfl
  refine own_step st2 ?_
  show own_G p.tables e below _ (T2.setTop (mkF m 12 #[.val (.int p1), .val (.int p2), .val (.int p3), .val (.int p4), .val (.int p5), .val (.int n), .unset, .unset] [(.ref b2)]))
  refine own_step (fun t k => XS.dup X2.here hx rfl (hb hby at_12) rfl rfl k) ?_
  show own_G p.tables e below _ (T2.setTop (mkF m 13 #[.val (.int p1), .val (.int p2), .val (.int p3), .val (.int p4), .val (.int p5), .val (.int n), .unset, .unset] [(.ref b2), (.ref b2)]))
  refine own_step (fun t k => XS.iconst X2.here hx rfl (hb hby at_13) k) ?_
  show own_G p.tables e below _ (T2.setTop (mkF m 14 #[.val (.int p1), .val (.int p2), .val (.int p3), .val (.int p4), .val (.int p5), .val (.int n), .unset, .unset] [(.int (0 : Int32)), (.ref b2), (.ref b2)]))
  refine own_step (fun t k => XS.iloadN X2.here hx rfl (hb hby at_14) rfl k) ?_
  show own_G p.tables e below _ (T2.setTop (mkF m 15 #[.val (.int p1), .val (.int p2), .val (.int p3), .val (.int p4), .val (.int p5), .val (.int n), .unset, .unset] [(.int p1), (.int (0 : Int32)), (.ref b2), (.ref b2)]))
  obtain ⟨T4, h4, X4, e4, W4, c4, st4⟩ := own_iastore X2 hx hZ e2 c3 (own_inb (by decide) (Nat.le_of_ble_eq_true rfl)) (g := (mkF m 15 #[.val (.int p1), .val (.int p2), .val (.int p3), .val (.int p4), .val (.int p5), .val (.int n), .unset, .unset] [(.int p1), (.int (0 : Int32)), (.ref b2), (.ref b2)])) rfl rfl (hb hby at_15)
  have N4 := Fr.snoc X4 N0 ge2
  have c5 : own_Ari Z h4 b2 .int [p1, (0 : Int32), (0 : Int32), (0 : Int32)] := c4
  have K4 : Keep h0 h4 [] := K2.wr W4 (Or.inr sz2)
  refine own_step st4 ?_
  show own_G p.tables e below _ (T4.setTop (mkF m 16 #[.val (.int p1), .val (.int p2), .val (.int p3), .val (.int p4), .val (.int p5), .val (.int n), .unset, .unset] [(.ref b2)]))
  refine own_step (fun t k => XS.dup X4.here hx rfl (hb hby at_16) rfl rfl k) ?_
  show own_G p.tables e below _ (T4.setTop (mkF m 17 #[.val (.int p1), .val (.int p2), .val (.int p3), .val (.int p4), .val (.int p5), .val (.int n), .unset, .unset] [(.ref b2), (.ref b2)]))
  refine own_step (fun t k => XS.iconst X4.here hx rfl (hb hby at_17) k) ?_
  show own_G p.tables e below _ (T4.setTop (mkF m 18 #[.val (.int p1), .val (.int p2), .val (.int p3), .val (.int p4), .val (.int p5), .val (.int n), .unset, .unset] [(.int (1 : Int32)), (.ref b2), (.ref b2)]))
  refine own_step (fun t k => XS.iloadN X4.here hx rfl (hb hby at_18) rfl k) ?_
  show own_G p.tables e below _ (T4.setTop (mkF m 19 #[.val (.int p1), .val (.int p2), .val (.int p3), .val (.int p4), .val (.int p5), .val (.int n), .unset, .unset] [(.int p2), (.int (1 : Int32)), (.ref b2), (.ref b2)]))
  obtain ⟨T7, h7, X7, e7, W7, c7, st7⟩ := own_iastore X4 hx hZ e4 c5 (own_inb (by decide) (Nat.le_of_ble_eq_true rfl)) (g := (mkF m 19 #[.val (.int p1), .val (.int p2), .val (.int p3), .val (.int p4), .val (.int p5), .val (.int n), .unset, .unset] [(.int p2), (.int (1 : Int32)), (.ref b2), (.ref b2)])) rfl rfl (hb hby at_19)
  have N7 := Fr.snoc X7 N4 ge2
  have c8 : own_Ari Z h7 b2 .int [p1, p2, (0 : Int32), (0 : Int32)] := c7
  have K7 : Keep h0 h7 [] := K4.wr W7 (Or.inr sz2)
  refine own_step st7 ?_
  show own_G p.tables e below _ (T7.setTop (mkF m 20 #[.val (.int p1), .val (.int p2), .val (.int p3), .val (.int p4), .val (.int p5), .val (.int n), .unset, .unset] [(.ref b2)]))
  refine own_step (fun t k => XS.dup X7.here hx rfl (hb hby at_20) rfl rfl k) ?_
  show own_G p.tables e below _ (T7.setTop (mkF m 21 #[.val (.int p1), .val (.int p2), .val (.int p3), .val (.int p4), .val (.int p5), .val (.int n), .unset, .unset] [(.ref b2), (.ref b2)]))
  refine own_step (fun t k => XS.iconst X7.here hx rfl (hb hby at_21) k) ?_
  show own_G p.tables e below _ (T7.setTop (mkF m 22 #[.val (.int p1), .val (.int p2), .val (.int p3), .val (.int p4), .val (.int p5), .val (.int n), .unset, .unset] [(.int (2 : Int32)), (.ref b2), (.ref b2)]))
  refine own_step (fun t k => XS.iloadN X7.here hx rfl (hb hby at_22) rfl k) ?_
  show own_G p.tables e below _ (T7.setTop (mkF m 23 #[.val (.int p1), .val (.int p2), .val (.int p3), .val (.int p4), .val (.int p5), .val (.int n), .unset, .unset] [(.int p3), (.int (2 : Int32)), (.ref b2), (.ref b2)]))
  obtain ⟨T10, h10, X10, e10, W10, c10, st10⟩ := own_iastore X7 hx hZ e7 c8 (own_inb (by decide) (Nat.le_of_ble_eq_true rfl)) (g := (mkF m 23 #[.val (.int p1), .val (.int p2), .val (.int p3), .val (.int p4), .val (.int p5), .val (.int n), .unset, .unset] [(.int p3), (.int (2 : Int32)), (.ref b2), (.ref b2)])) rfl rfl (hb hby at_23)
  have N10 := Fr.snoc X10 N7 ge2
  have c11 : own_Ari Z h10 b2 .int [p1, p2, p3, (0 : Int32)] := c10
  have K10 : Keep h0 h10 [] := K7.wr W10 (Or.inr sz2)
  refine own_step st10 ?_
  show own_G p.tables e below _ (T10.setTop (mkF m 24 #[.val (.int p1), .val (.int p2), .val (.int p3), .val (.int p4), .val (.int p5), .val (.int n), .unset, .unset] [(.ref b2)]))
  refine own_step (fun t k => XS.dup X10.here hx rfl (hb hby at_24) rfl rfl k) ?_
  show own_G p.tables e below _ (T10.setTop (mkF m 25 #[.val (.int p1), .val (.int p2), .val (.int p3), .val (.int p4), .val (.int p5), .val (.int n), .unset, .unset] [(.ref b2), (.ref b2)]))
  refine own_step (fun t k => XS.iconst X10.here hx rfl (hb hby at_25) k) ?_
  show own_G p.tables e below _ (T10.setTop (mkF m 26 #[.val (.int p1), .val (.int p2), .val (.int p3), .val (.int p4), .val (.int p5), .val (.int n), .unset, .unset] [(.int (3 : Int32)), (.ref b2), (.ref b2)]))
  refine own_step (fun t k => XS.iloadN X10.here hx rfl (hb hby at_26) rfl k) ?_
  show own_G p.tables e below _ (T10.setTop (mkF m 27 #[.val (.int p1), .val (.int p2), .val (.int p3), .val (.int p4), .val (.int p5), .val (.int n), .unset, .unset] [(.int p4), (.int (3 : Int32)), (.ref b2), (.ref b2)]))
  obtain ⟨T13, h13, X13, e13, W13, c13, st13⟩ := own_iastore X10 hx hZ e10 c11 (own_inb (by decide) (Nat.le_of_ble_eq_true rfl)) (g := (mkF m 27 #[.val (.int p1), .val (.int p2), .val (.int p3), .val (.int p4), .val (.int p5), .val (.int n), .unset, .unset] [(.int p4), (.int (3 : Int32)), (.ref b2), (.ref b2)])) rfl rfl (hb hby at_27)
  have N13 := Fr.snoc X13 N10 ge2
  have c14 : own_Ari Z h13 b2 .int [p1, p2, p3, p4] := c13
  have K13 : Keep h0 h13 [] := K10.wr W13 (Or.inr sz2)
  refine own_step st13 ?_
  show own_G p.tables e below _ (T13.setTop (mkF m 28 #[.val (.int p1), .val (.int p2), .val (.int p3), .val (.int p4), .val (.int p5), .val (.int n), .unset, .unset] [(.ref b2)]))
  refine own_step (fun t k => XS.astore X13.here hx rfl (hb hby at_28) rfl rfl (l' := #[.val (.int p1), .val (.int p2), .val (.int p3), .val (.int p4), .val (.int p5), .val (.int n), .val (.ref b2), .unset]) rfl k) ?_
  show own_G p.tables e below _ (T13.setTop (mkF m 30 #[.val (.int p1), .val (.int p2), .val (.int p3), .val (.int p4), .val (.int p5), .val (.int n), .val (.ref b2), .unset] []))
  obtain ⟨T16, h16, X16, e16, E16, A16, D16, -, st16⟩ := newO X13 hx hZ hown (hw _ (List.mem_of_getElem? (i := 2) rfl)) (hw _ (List.mem_of_getElem? (i := 3) rfl)) (hw _ (List.mem_of_getElem? (i := 4) rfl)) e13 (g := (mkF m 30 #[.val (.int p1), .val (.int p2), .val (.int p3), .val (.int p4), .val (.int p5), .val (.int n), .val (.ref b2), .unset] [])) rfl (hb hby at_30) (by decide) (by decide)
  obtain ⟨b16, g16⟩ : ∃ z, z = h13.size := ⟨_, rfl⟩
  have ne17 : b2 ≠ b16 := Nat.ne_of_lt (Nat.lt_of_lt_of_le c14.lt (Nat.le_of_eq g16.symm))
  have sz16 : h0.size ≤ b16 := Nat.le_trans K13.1 (Nat.le_of_eq g16.symm)
  have ge16 : n0 ≤ b16 := Nat.le_trans Z0 sz16
  have c18 : own_Ari Z h16 b2 .int [p1, p2, p3, p4] := c14.ext E16
  have K16 : Keep h0 h16 [] := K13.ext E16
  rw [← g16] at A16 D16 st16
  have c19 : Fld Z h16 b16 "com/example/same_bytes/samebytes/NodeIds" "ids" "[I" .null := D16 (Or.inl (hw _ (List.mem_of_getElem? (i := 12) rfl))) (ty := (.array .int)) (by decide)
  have c20 : Fld Z h16 b16 "com/example/same_bytes/samebytes/NodeIds" "size" "I" (.int (0 : Int32)) := D16 (Or.inl (hw _ (List.mem_of_getElem? (i := 19) rfl))) (ty := .int) (by decide)
  refine own_step st16 ?_
  show own_G p.tables e below _ (T16.setTop (mkF m 33 #[.val (.int p1), .val (.int p2), .val (.int p3), .val (.int p4), .val (.int p5), .val (.int n), .val (.ref b2), .unset] [(.ref b16)]))
  refine own_step (fun t k => XS.dup X16.here hx rfl (hb hby at_33) rfl rfl k) ?_
  show own_G p.tables e below _ (T16.setTop (mkF m 34 #[.val (.int p1), .val (.int p2), .val (.int p3), .val (.int p4), .val (.int p5), .val (.int n), .val (.ref b2), .unset] [(.ref b16), (.ref b16)]))
  obtain ⟨_, _, ⟨T21, L21, k21, n21⟩, -, X21, ⟨Lc21, hQ21, l21, y21, z21⟩, st21⟩ := X16.specialBack hx (y := (⟨"com/example/same_bytes/samebytes/NodeIds", "<init>", "()V"⟩ : MethodName)) rfl hown (mvT hZ (hw _ (List.mem_of_getElem? (i := 5) rfl))) (mvT hZ (hw _ (List.mem_of_getElem? (i := 6) rfl))) (mvT hZ (hw _ (List.mem_of_getElem? (i := 7) rfl))) (by decide) (backOf (W := 1) (rm1 l Z a0 hw [] b16 .null (.int (0 : Int32)) h16 n0 (Nat.le_trans Z0 K16.1) A16 c19 c20 ge16) hZ (hw _ (List.mem_of_getElem? (i := 7) rfl)) (hw _ (List.mem_of_getElem? (i := 4) rfl)) (by decide) (by decide)) (g := (mkF m 34 #[.val (.int p1), .val (.int p2), .val (.int p3), .val (.int p4), .val (.int p5), .val (.int n), .val (.ref b2), .unset] [(.ref b16), (.ref b16)])) rfl (by rw [hml]; rfl) (Steps.refl _) (a := b16) (argsL := []) (rest := [(.ref b16)]) (lenOf pd_0_0 rfl) rfl (by show 2 * 0 + _ ≤ _; exact Nat.le_of_eq rfl) (hb hby at_34) (fun _ _ => ⟨rfl, e16, (by decide : 2 + 1 ≤ _), (by decide : 6 + 8 ≤ _)⟩)
  dsimp only [Pt.U, Pt.locs, Pt.cells, Pt.slots] at X21 l21 y21 z21 st21 hQ21
  subst l21 y21 z21
  obtain ⟨bx21_x1, rfl, N21q, K21q, w21_0, w21_1, w21_2, sx21_0⟩ := hQ21
  have c22 : own_Ari Z T21.heap b2 .int [p1, p2, p3, p4] := c18.keep K21q (ninS ne17 nin0)
  have c23 : Exa Z T21.heap b16 "com/example/same_bytes/samebytes/NodeIds" := A16.keep K21q
  have sz21_0 : h0.size ≤ bx21_x1 := Nat.le_trans K16.1 sx21_0
  have ge21_0 : n0 ≤ bx21_x1 := Nat.le_trans Z0 sz21_0
  have ne26 : b2 ≠ bx21_x1 := Nat.ne_of_lt (Nat.lt_of_lt_of_le c18.lt sx21_0)
  have ne27 : b16 ≠ bx21_x1 := Nat.ne_of_lt (Nat.lt_of_lt_of_le A16.lt sx21_0)
  have K21 : Keep h0 T21.heap [] := K16.trans K21q (allS (Or.inr sz16) all0)
  have N21 := Fr.app N13 N21q
  refine own_step (fun t k => st21.trans k) ?_
  show own_G p.tables e below _ (T21.setTop (mkF m 37 #[.val (.int p1), .val (.int p2), .val (.int p3), .val (.int p4), .val (.int p5), .val (.int n), .val (.ref b2), .unset] [(.ref b16)]))
  refine own_step (fun t k => XS.astore X21.here hx rfl (hb hby at_37) rfl rfl (l' := #[.val (.int p1), .val (.int p2), .val (.int p3), .val (.int p4), .val (.int p5), .val (.int n), .val (.ref b2), .val (.ref b16)]) rfl k) ?_
  show own_G p.tables e below _ (T21.setTop (mkF m 39 #[.val (.int p1), .val (.int p2), .val (.int p3), .val (.int p4), .val (.int p5), .val (.int n), .val (.ref b2), .val (.ref b16)] []))
  refine own_step (fun t k => XS.aload X21.here hx rfl (hb hby at_39) rfl rfl k) ?_
  show own_G p.tables e below _ (T21.setTop (mkF m 41 #[.val (.int p1), .val (.int p2), .val (.int p3), .val (.int p4), .val (.int p5), .val (.int n), .val (.ref b2), .val (.ref b16)] [(.ref b16)]))
  refine own_step (fun t k => XS.iloadN X21.here hx rfl (hb hby at_41) rfl k) ?_
  show own_G p.tables e below _ (T21.setTop (mkF m 42 #[.val (.int p1), .val (.int p2), .val (.int p3), .val (.int p4), .val (.int p5), .val (.int n), .val (.ref b2), .val (.ref b16)] [(.int p1), (.ref b16)]))
  obtain ⟨cq28, kq28, q28a, q28b, q28c⟩ := isOf hZ rfl c23
  obtain ⟨_, _, ⟨T28, L28, k28, n28⟩, -, X28, ⟨Lc28, hQ28, l28, y28, z28⟩, st28⟩ := X21.virtualBack hx (y := (⟨"com/example/same_bytes/samebytes/NodeIds", "add", "(I)V"⟩ : MethodName)) (z := (⟨"com/example/same_bytes/samebytes/NodeIds", "add", "(I)V"⟩ : MethodName)) hown (mvT hZ (hw _ (List.mem_of_getElem? (i := 13) rfl))) (mvT hZ (hw _ (List.mem_of_getElem? (i := 14) rfl))) (notFace_of_selects (args := #[]) (mvT hZ (hw _ (List.mem_of_getElem? (i := 16) rfl)))) (mvT hZ (hw _ (List.mem_of_getElem? (i := 16) rfl))) (mvT hZ (hw _ (List.mem_of_getElem? (i := 15) rfl))) (by decide) (backOf (W := 0) (rm3_s0 l Z a0 hw [] b16 p1 bx21_x1 (0 : Int32) (0 : Int32) (0 : Int32) (0 : Int32) (0 : Int32) (0 : Int32) (0 : Int32) (0 : Int32) T21.heap n0 (Nat.le_trans Z0 K21.1) c23 w21_1 w21_0 w21_2 ge16 (Ne.symm ne27) ge21_0) hZ (hw _ (List.mem_of_getElem? (i := 17) rfl)) (hw _ (List.mem_of_getElem? (i := 4) rfl)) (by decide) (by decide)) q28a q28c (g := (mkF m 42 #[.val (.int p1), .val (.int p2), .val (.int p3), .val (.int p4), .val (.int p5), .val (.int n), .val (.ref b2), .val (.ref b16)] [(.int p1), (.ref b16)])) rfl (by rw [hml]; rfl) (Steps.refl _) (argsL := [(.int p1)]) (rest := []) (lenOf pd_0_1 rfl) rfl (by show 2 * 0 + _ ≤ _; exact Nat.le_of_eq rfl) (hb hby at_42) (fun _ _ => ⟨rfl, rfl, (by decide : 3 + 0 ≤ _), (by decide : 14 + 0 ≤ _)⟩)
  dsimp only [Pt.U, Pt.locs, Pt.cells, Pt.slots] at X28 l28 y28 z28 st28 hQ28
  subst l28 y28 z28
  obtain ⟨rfl, N28q, K28q, w28_0, w28_1, w28_2⟩ := hQ28
  have c29 : own_Ari Z T28.heap b2 .int [p1, p2, p3, p4] := c22.keep K28q (ninS ne17 (ninS ne26 nin0))
  have c30 : Exa Z T28.heap b16 "com/example/same_bytes/samebytes/NodeIds" := c23.keep K28q
  have K28 : Keep h0 T28.heap [] := K21.trans K28q (allS (Or.inr sz16) (allS (Or.inr sz21_0) all0))
  have N28 := Fr.app N21 N28q
  refine own_step (fun t k => st28.trans k) ?_
  show own_G p.tables e below _ (T28.setTop (mkF m 45 #[.val (.int p1), .val (.int p2), .val (.int p3), .val (.int p4), .val (.int p5), .val (.int n), .val (.ref b2), .val (.ref b16)] []))
  refine own_step (fun t k => XS.aload X28.here hx rfl (hb hby at_45) rfl rfl k) ?_
  show own_G p.tables e below _ (T28.setTop (mkF m 47 #[.val (.int p1), .val (.int p2), .val (.int p3), .val (.int p4), .val (.int p5), .val (.int n), .val (.ref b2), .val (.ref b16)] [(.ref b16)]))
  refine own_step (fun t k => XS.iloadN X28.here hx rfl (hb hby at_47) rfl k) ?_
  show own_G p.tables e below _ (T28.setTop (mkF m 48 #[.val (.int p1), .val (.int p2), .val (.int p3), .val (.int p4), .val (.int p5), .val (.int n), .val (.ref b2), .val (.ref b16)] [(.int p2), (.ref b16)]))
  obtain ⟨cq34, kq34, q34a, q34b, q34c⟩ := isOf hZ rfl c30
  obtain ⟨_, _, ⟨T34, L34, k34, n34⟩, -, X34, ⟨Lc34, hQ34, l34, y34, z34⟩, st34⟩ := X28.virtualBack hx (y := (⟨"com/example/same_bytes/samebytes/NodeIds", "add", "(I)V"⟩ : MethodName)) (z := (⟨"com/example/same_bytes/samebytes/NodeIds", "add", "(I)V"⟩ : MethodName)) hown (mvT hZ (hw _ (List.mem_of_getElem? (i := 13) rfl))) (mvT hZ (hw _ (List.mem_of_getElem? (i := 14) rfl))) (notFace_of_selects (args := #[]) (mvT hZ (hw _ (List.mem_of_getElem? (i := 16) rfl)))) (mvT hZ (hw _ (List.mem_of_getElem? (i := 16) rfl))) (mvT hZ (hw _ (List.mem_of_getElem? (i := 15) rfl))) (by decide) (backOf (W := 0) (rm3_s1 l Z a0 hw [] b16 p2 bx21_x1 p1 (0 : Int32) (0 : Int32) (0 : Int32) (0 : Int32) (0 : Int32) (0 : Int32) (0 : Int32) T28.heap n0 (Nat.le_trans Z0 K28.1) c30 w28_0 w28_1 w28_2 ge16 (Ne.symm ne27) ge21_0) hZ (hw _ (List.mem_of_getElem? (i := 17) rfl)) (hw _ (List.mem_of_getElem? (i := 4) rfl)) (by decide) (by decide)) q34a q34c (g := (mkF m 48 #[.val (.int p1), .val (.int p2), .val (.int p3), .val (.int p4), .val (.int p5), .val (.int n), .val (.ref b2), .val (.ref b16)] [(.int p2), (.ref b16)])) rfl (by rw [hml]; rfl) (Steps.refl _) (argsL := [(.int p2)]) (rest := []) (lenOf pd_0_1 rfl) rfl (by show 2 * 0 + _ ≤ _; exact Nat.le_of_eq rfl) (hb hby at_48) (fun _ _ => ⟨rfl, rfl, (by decide : 3 + 0 ≤ _), (by decide : 14 + 0 ≤ _)⟩)
  dsimp only [Pt.U, Pt.locs, Pt.cells, Pt.slots] at X34 l34 y34 z34 st34 hQ34
  subst l34 y34 z34
  obtain ⟨rfl, N34q, K34q, w34_0, w34_1, w34_2⟩ := hQ34
  have c35 : own_Ari Z T34.heap b2 .int [p1, p2, p3, p4] := c29.keep K34q (ninS ne17 (ninS ne26 nin0))
  have c36 : Exa Z T34.heap b16 "com/example/same_bytes/samebytes/NodeIds" := c30.keep K34q
  have K34 : Keep h0 T34.heap [] := K28.trans K34q (allS (Or.inr sz16) (allS (Or.inr sz21_0) all0))
  have N34 := Fr.app N28 N34q
  refine own_step (fun t k => st34.trans k) ?_
  show own_G p.tables e below _ (T34.setTop (mkF m 51 #[.val (.int p1), .val (.int p2), .val (.int p3), .val (.int p4), .val (.int p5), .val (.int n), .val (.ref b2), .val (.ref b16)] []))
  refine own_step (fun t k => XS.aload X34.here hx rfl (hb hby at_51) rfl rfl k) ?_
  show own_G p.tables e below _ (T34.setTop (mkF m 53 #[.val (.int p1), .val (.int p2), .val (.int p3), .val (.int p4), .val (.int p5), .val (.int n), .val (.ref b2), .val (.ref b16)] [(.ref b16)]))
  refine own_step (fun t k => XS.iloadN X34.here hx rfl (hb hby at_53) rfl k) ?_
  show own_G p.tables e below _ (T34.setTop (mkF m 54 #[.val (.int p1), .val (.int p2), .val (.int p3), .val (.int p4), .val (.int p5), .val (.int n), .val (.ref b2), .val (.ref b16)] [(.int p3), (.ref b16)]))
  obtain ⟨cq40, kq40, q40a, q40b, q40c⟩ := isOf hZ rfl c36
  obtain ⟨_, _, ⟨T40, L40, k40, n40⟩, -, X40, ⟨Lc40, hQ40, l40, y40, z40⟩, st40⟩ := X34.virtualBack hx (y := (⟨"com/example/same_bytes/samebytes/NodeIds", "add", "(I)V"⟩ : MethodName)) (z := (⟨"com/example/same_bytes/samebytes/NodeIds", "add", "(I)V"⟩ : MethodName)) hown (mvT hZ (hw _ (List.mem_of_getElem? (i := 13) rfl))) (mvT hZ (hw _ (List.mem_of_getElem? (i := 14) rfl))) (notFace_of_selects (args := #[]) (mvT hZ (hw _ (List.mem_of_getElem? (i := 16) rfl)))) (mvT hZ (hw _ (List.mem_of_getElem? (i := 16) rfl))) (mvT hZ (hw _ (List.mem_of_getElem? (i := 15) rfl))) (by decide) (backOf (W := 0) (rm3_s2 l Z a0 hw [] b16 p3 bx21_x1 p1 p2 (0 : Int32) (0 : Int32) (0 : Int32) (0 : Int32) (0 : Int32) (0 : Int32) T34.heap n0 (Nat.le_trans Z0 K34.1) c36 w34_0 w34_1 w34_2 ge16 (Ne.symm ne27) ge21_0) hZ (hw _ (List.mem_of_getElem? (i := 17) rfl)) (hw _ (List.mem_of_getElem? (i := 4) rfl)) (by decide) (by decide)) q40a q40c (g := (mkF m 54 #[.val (.int p1), .val (.int p2), .val (.int p3), .val (.int p4), .val (.int p5), .val (.int n), .val (.ref b2), .val (.ref b16)] [(.int p3), (.ref b16)])) rfl (by rw [hml]; rfl) (Steps.refl _) (argsL := [(.int p3)]) (rest := []) (lenOf pd_0_1 rfl) rfl (by show 2 * 0 + _ ≤ _; exact Nat.le_of_eq rfl) (hb hby at_54) (fun _ _ => ⟨rfl, rfl, (by decide : 3 + 0 ≤ _), (by decide : 14 + 0 ≤ _)⟩)
  dsimp only [Pt.U, Pt.locs, Pt.cells, Pt.slots] at X40 l40 y40 z40 st40 hQ40
  subst l40 y40 z40
  obtain ⟨rfl, N40q, K40q, w40_0, w40_1, w40_2⟩ := hQ40
  have c41 : own_Ari Z T40.heap b2 .int [p1, p2, p3, p4] := c35.keep K40q (ninS ne17 (ninS ne26 nin0))
  have c42 : Exa Z T40.heap b16 "com/example/same_bytes/samebytes/NodeIds" := c36.keep K40q
  have K40 : Keep h0 T40.heap [] := K34.trans K40q (allS (Or.inr sz16) (allS (Or.inr sz21_0) all0))
  have N40 := Fr.app N34 N40q
  refine own_step (fun t k => st40.trans k) ?_
  show own_G p.tables e below _ (T40.setTop (mkF m 57 #[.val (.int p1), .val (.int p2), .val (.int p3), .val (.int p4), .val (.int p5), .val (.int n), .val (.ref b2), .val (.ref b16)] []))
  refine own_step (fun t k => XS.aload X40.here hx rfl (hb hby at_57) rfl rfl k) ?_
  show own_G p.tables e below _ (T40.setTop (mkF m 59 #[.val (.int p1), .val (.int p2), .val (.int p3), .val (.int p4), .val (.int p5), .val (.int n), .val (.ref b2), .val (.ref b16)] [(.ref b16)]))
  refine own_step (fun t k => XS.iloadN X40.here hx rfl (hb hby at_59) rfl k) ?_
  show own_G p.tables e below _ (T40.setTop (mkF m 60 #[.val (.int p1), .val (.int p2), .val (.int p3), .val (.int p4), .val (.int p5), .val (.int n), .val (.ref b2), .val (.ref b16)] [(.int p4), (.ref b16)]))
  obtain ⟨cq46, kq46, q46a, q46b, q46c⟩ := isOf hZ rfl c42
  obtain ⟨_, _, ⟨T46, L46, k46, n46⟩, -, X46, ⟨Lc46, hQ46, l46, y46, z46⟩, st46⟩ := X40.virtualBack hx (y := (⟨"com/example/same_bytes/samebytes/NodeIds", "add", "(I)V"⟩ : MethodName)) (z := (⟨"com/example/same_bytes/samebytes/NodeIds", "add", "(I)V"⟩ : MethodName)) hown (mvT hZ (hw _ (List.mem_of_getElem? (i := 13) rfl))) (mvT hZ (hw _ (List.mem_of_getElem? (i := 14) rfl))) (notFace_of_selects (args := #[]) (mvT hZ (hw _ (List.mem_of_getElem? (i := 16) rfl)))) (mvT hZ (hw _ (List.mem_of_getElem? (i := 16) rfl))) (mvT hZ (hw _ (List.mem_of_getElem? (i := 15) rfl))) (by decide) (backOf (W := 0) (rm3_s3 l Z a0 hw [] b16 p4 bx21_x1 p1 p2 p3 (0 : Int32) (0 : Int32) (0 : Int32) (0 : Int32) (0 : Int32) T40.heap n0 (Nat.le_trans Z0 K40.1) c42 w40_0 w40_1 w40_2 ge16 (Ne.symm ne27) ge21_0) hZ (hw _ (List.mem_of_getElem? (i := 17) rfl)) (hw _ (List.mem_of_getElem? (i := 4) rfl)) (by decide) (by decide)) q46a q46c (g := (mkF m 60 #[.val (.int p1), .val (.int p2), .val (.int p3), .val (.int p4), .val (.int p5), .val (.int n), .val (.ref b2), .val (.ref b16)] [(.int p4), (.ref b16)])) rfl (by rw [hml]; rfl) (Steps.refl _) (argsL := [(.int p4)]) (rest := []) (lenOf pd_0_1 rfl) rfl (by show 2 * 0 + _ ≤ _; exact Nat.le_of_eq rfl) (hb hby at_60) (fun _ _ => ⟨rfl, rfl, (by decide : 3 + 0 ≤ _), (by decide : 14 + 0 ≤ _)⟩)
  dsimp only [Pt.U, Pt.locs, Pt.cells, Pt.slots] at X46 l46 y46 z46 st46 hQ46
  subst l46 y46 z46
  obtain ⟨rfl, N46q, K46q, w46_0, w46_1, w46_2⟩ := hQ46
  have c47 : own_Ari Z T46.heap b2 .int [p1, p2, p3, p4] := c41.keep K46q (ninS ne17 (ninS ne26 nin0))
  have c48 : Exa Z T46.heap b16 "com/example/same_bytes/samebytes/NodeIds" := c42.keep K46q
  have K46 : Keep h0 T46.heap [] := K40.trans K46q (allS (Or.inr sz16) (allS (Or.inr sz21_0) all0))
  have N46 := Fr.app N40 N46q
  refine own_step (fun t k => st46.trans k) ?_
  show own_G p.tables e below _ (T46.setTop (mkF m 63 #[.val (.int p1), .val (.int p2), .val (.int p3), .val (.int p4), .val (.int p5), .val (.int n), .val (.ref b2), .val (.ref b16)] []))
  rcases own_n5 _ _ hd_n with rfl | rfl | rfl | rfl | rfl
  · skip
    show own_G p.tables e below _ (T46.setTop (mkF m 63 #[.val (.int p1), .val (.int p2), .val (.int p3), .val (.int p4), .val (.int p5), .val (.int (0 : Int32)), .val (.ref b2), .val (.ref b16)] []))
    refine own_step (fun t k => XS.aload X46.here hx rfl (hb hby at_63) rfl rfl k) ?_
    show own_G p.tables e below _ (T46.setTop (mkF m 65 #[.val (.int p1), .val (.int p2), .val (.int p3), .val (.int p4), .val (.int p5), .val (.int (0 : Int32)), .val (.ref b2), .val (.ref b16)] [(.ref b16)]))
    refine own_step (fun t k => XS.iload X46.here hx rfl (hb hby at_65) rfl k) ?_
    show own_G p.tables e below _ (T46.setTop (mkF m 67 #[.val (.int p1), .val (.int p2), .val (.int p3), .val (.int p4), .val (.int p5), .val (.int (0 : Int32)), .val (.ref b2), .val (.ref b16)] [(.int (0 : Int32)), (.ref b16)]))
    obtain ⟨cq52, kq52, q52a, q52b, q52c⟩ := isOf hZ rfl c48
    obtain ⟨_, _, ⟨T52, L52, k52, n52⟩, -, X52, ⟨Lc52, hQ52, l52, y52, z52⟩, st52⟩ := X46.virtualBack hx (y := (⟨"com/example/same_bytes/samebytes/NodeIds", "truncate", "(I)V"⟩ : MethodName)) (z := (⟨"com/example/same_bytes/samebytes/NodeIds", "truncate", "(I)V"⟩ : MethodName)) hown (mvT hZ (hw _ (List.mem_of_getElem? (i := 20) rfl))) (mvT hZ (hw _ (List.mem_of_getElem? (i := 21) rfl))) (notFace_of_selects (args := #[]) (mvT hZ (hw _ (List.mem_of_getElem? (i := 23) rfl)))) (mvT hZ (hw _ (List.mem_of_getElem? (i := 23) rfl))) (mvT hZ (hw _ (List.mem_of_getElem? (i := 22) rfl))) (by decide) (backOf (W := 0) (rm4 l Z a0 hw [] b16 (0 : Int32) (.ref bx21_x1) (.int (4 : Int32)) T46.heap n0 (Nat.le_trans Z0 K46.1) c48 w46_1 w46_0 ge16) hZ (hw _ (List.mem_of_getElem? (i := 24) rfl)) (hw _ (List.mem_of_getElem? (i := 4) rfl)) (by decide) (by decide)) q52a q52c (g := (mkF m 67 #[.val (.int p1), .val (.int p2), .val (.int p3), .val (.int p4), .val (.int p5), .val (.int (0 : Int32)), .val (.ref b2), .val (.ref b16)] [(.int (0 : Int32)), (.ref b16)])) rfl (by rw [hml]; rfl) (Steps.refl _) (argsL := [(.int (0 : Int32))]) (rest := []) (lenOf pd_0_1 rfl) rfl (by show 2 * 0 + _ ≤ _; exact Nat.le_of_eq rfl) (hb hby at_67) (fun _ _ => ⟨rfl, rfl, (by decide : 3 + 0 ≤ _), (by decide : 14 + 0 ≤ _)⟩)
    dsimp only [Pt.U, Pt.locs, Pt.cells, Pt.slots] at X52 l52 y52 z52 st52 hQ52
    subst l52 y52 z52
    obtain ⟨rfl, N52q, K52q, w52_0, w52_1⟩ := hQ52
    have c53 : own_Ari Z T52.heap b2 .int [p1, p2, p3, p4] := c47.keep K52q (ninS ne17 nin0)
    have c54 : Exa Z T52.heap b16 "com/example/same_bytes/samebytes/NodeIds" := c48.keep K52q
    have c57 : own_Ari Z T52.heap bx21_x1 .int [p1, p2, p3, p4, (0 : Int32), (0 : Int32), (0 : Int32), (0 : Int32)] := w46_2.keep K52q (ninS (Ne.symm ne27) nin0)
    have K52 : Keep h0 T52.heap [] := K46.trans K52q (allS (Or.inr sz16) all0)
    have N52 := Fr.app N46 N52q
    refine own_step (fun t k => st52.trans k) ?_
    show own_G p.tables e below _ (T52.setTop (mkF m 70 #[.val (.int p1), .val (.int p2), .val (.int p3), .val (.int p4), .val (.int p5), .val (.int (0 : Int32)), .val (.ref b2), .val (.ref b16)] []))
    refine own_step (fun t k => XS.aload X52.here hx rfl (hb hby at_70) rfl rfl k) ?_
    show own_G p.tables e below _ (T52.setTop (mkF m 72 #[.val (.int p1), .val (.int p2), .val (.int p3), .val (.int p4), .val (.int p5), .val (.int (0 : Int32)), .val (.ref b2), .val (.ref b16)] [(.ref b16)]))
    obtain ⟨cq58, kq58, q58a, q58b, q58c⟩ := isOf hZ rfl c54
    obtain ⟨_, _, ⟨T58, L58, k58, n58⟩, -, X58, ⟨Lc58, hQ58, l58, y58, z58⟩, st58⟩ := X52.virtualBack hx (y := (⟨"com/example/same_bytes/samebytes/NodeIds", "reverse", "()V"⟩ : MethodName)) (z := (⟨"com/example/same_bytes/samebytes/NodeIds", "reverse", "()V"⟩ : MethodName)) hown (mvT hZ (hw _ (List.mem_of_getElem? (i := 25) rfl))) (mvT hZ (hw _ (List.mem_of_getElem? (i := 26) rfl))) (notFace_of_selects (args := #[]) (mvT hZ (hw _ (List.mem_of_getElem? (i := 28) rfl)))) (mvT hZ (hw _ (List.mem_of_getElem? (i := 28) rfl))) (mvT hZ (hw _ (List.mem_of_getElem? (i := 27) rfl))) (by decide) (backOf (W := 0) (rm5_s0 l Z a0 hw [] b16 bx21_x1 p1 p2 p3 p4 (0 : Int32) (0 : Int32) (0 : Int32) (0 : Int32) T52.heap n0 (Nat.le_trans Z0 K52.1) c54 w52_1 w52_0 c57) hZ (hw _ (List.mem_of_getElem? (i := 29) rfl)) (hw _ (List.mem_of_getElem? (i := 4) rfl)) (by decide) (by decide)) q58a q58c (g := (mkF m 72 #[.val (.int p1), .val (.int p2), .val (.int p3), .val (.int p4), .val (.int p5), .val (.int (0 : Int32)), .val (.ref b2), .val (.ref b16)] [(.ref b16)])) rfl (by rw [hml]; rfl) (Steps.refl _) (argsL := []) (rest := []) (lenOf pd_0_0 rfl) rfl (by show 2 * 0 + _ ≤ _; exact Nat.le_of_eq rfl) (hb hby at_72) (fun _ _ => ⟨rfl, rfl, (by decide : 3 + 0 ≤ _), (by decide : 14 + 0 ≤ _)⟩)
    dsimp only [Pt.U, Pt.locs, Pt.cells, Pt.slots] at X58 l58 y58 z58 st58 hQ58
    subst l58 y58 z58
    obtain ⟨rfl, N58q, e58⟩ := hQ58
    have N58 := Fr.app N52 N58q
    refine own_step (fun t k => st58.trans k) ?_
    show own_G p.tables e below _ (T58.setTop (mkF m 75 #[.val (.int p1), .val (.int p2), .val (.int p3), .val (.int p4), .val (.int p5), .val (.int (0 : Int32)), .val (.ref b2), .val (.ref b16)] []))
    refine own_step (fun t k => XS.aload X58.here hx rfl (hb hby at_75) rfl rfl k) ?_
    show own_G p.tables e below _ (T58.setTop (mkF m 77 #[.val (.int p1), .val (.int p2), .val (.int p3), .val (.int p4), .val (.int p5), .val (.int (0 : Int32)), .val (.ref b2), .val (.ref b16)] [(.ref b16)]))
    obtain ⟨cq59, kq59, q59a, q59b, q59c⟩ := isOf hZ e58 c54
    obtain ⟨_, _, ⟨T59, L59, k59, n59⟩, -, X59, ⟨Lc59, hQ59, l59, y59, z59⟩, st59⟩ := X58.virtualBack hx (y := (⟨"com/example/same_bytes/samebytes/NodeIds", "size", "()I"⟩ : MethodName)) (z := (⟨"com/example/same_bytes/samebytes/NodeIds", "size", "()I"⟩ : MethodName)) hown (mvT hZ (hw _ (List.mem_of_getElem? (i := 30) rfl))) (mvT hZ (hw _ (List.mem_of_getElem? (i := 31) rfl))) (notFace_of_selects (args := #[]) (mvT hZ (hw _ (List.mem_of_getElem? (i := 33) rfl)))) (mvT hZ (hw _ (List.mem_of_getElem? (i := 33) rfl))) (mvT hZ (hw _ (List.mem_of_getElem? (i := 32) rfl))) (by decide) (backOf (W := 0) (rm6 l Z a0 hw [] b16 (0 : Int32) T52.heap n0 (Nat.le_trans Z0 K52.1) w52_1) hZ (hw _ (List.mem_of_getElem? (i := 34) rfl)) (hw _ (List.mem_of_getElem? (i := 4) rfl)) (by decide) (by decide)) q59a q59c (g := (mkF m 77 #[.val (.int p1), .val (.int p2), .val (.int p3), .val (.int p4), .val (.int p5), .val (.int (0 : Int32)), .val (.ref b2), .val (.ref b16)] [(.ref b16)])) rfl (by rw [hml]; rfl) (Steps.refl _) (argsL := []) (rest := []) (lenOf pd_0_2 rfl) rfl (by show 2 * 0 + _ ≤ _; exact Nat.le_of_eq rfl) (hb hby at_77) (fun _ _ => ⟨rfl, e58, (by decide : 3 + 0 ≤ _), (by decide : 14 + 0 ≤ _)⟩)
    dsimp only [Pt.U, Pt.locs, Pt.cells, Pt.slots] at X59 l59 y59 z59 st59 hQ59
    subst l59 y59 z59
    obtain ⟨rfl, N59q, e59⟩ := hQ59
    have N59 := Fr.app N58 N59q
    refine own_step (fun t k => st59.trans k) ?_
    show own_G p.tables e below _ (T59.setTop (mkF m 80 #[.val (.int p1), .val (.int p2), .val (.int p3), .val (.int p4), .val (.int p5), .val (.int (0 : Int32)), .val (.ref b2), .val (.ref b16)] [(.int (0 : Int32))]))
    refine own_step (fun t k => XS.iload X59.here hx rfl (hb hby at_80) rfl k) ?_
    show own_G p.tables e below _ (T59.setTop (mkF m 82 #[.val (.int p1), .val (.int p2), .val (.int p3), .val (.int p4), .val (.int p5), .val (.int (0 : Int32)), .val (.ref b2), .val (.ref b16)] [(.int (0 : Int32)), (.int (0 : Int32))]))
    have hk60 : (0 : Int32) = (0 : Int32) := rfl
    refine own_step (fun t k => XS.icmpYes X59.here hx rfl (pc0 := 82) (pc' := 87) rfl (hb hby at_82) rfl ((teq hk60).1) (by decide) (by decide) k) ?_
    show own_G p.tables e below _ (T59.setTop (mkF m 87 #[.val (.int p1), .val (.int p2), .val (.int p3), .val (.int p4), .val (.int p5), .val (.int (0 : Int32)), .val (.ref b2), .val (.ref b16)] []))
    refine own_step (fun t k => XS.aload X59.here hx rfl (hb hby at_87) rfl rfl k) ?_
    show own_G p.tables e below _ (T59.setTop (mkF m 89 #[.val (.int p1), .val (.int p2), .val (.int p3), .val (.int p4), .val (.int p5), .val (.int (0 : Int32)), .val (.ref b2), .val (.ref b16)] [(.ref b16)]))
    refine own_step (fun t k => XS.iconst X59.here hx rfl (hb hby at_89) k) ?_
    show own_G p.tables e below _ (T59.setTop (mkF m 90 #[.val (.int p1), .val (.int p2), .val (.int p3), .val (.int p4), .val (.int p5), .val (.int (0 : Int32)), .val (.ref b2), .val (.ref b16)] [(.int (0 : Int32)), (.ref b16)]))
    obtain ⟨cq61, kq61, q61a, q61b, q61c⟩ := isOf hZ e59 c54
    obtain ⟨_, _, ⟨T61, L61, k61, n61⟩, -, X61, ⟨Lc61, hQ61, l61, y61, z61⟩, st61⟩ := X59.virtualBack hx (y := (⟨"com/example/same_bytes/samebytes/NodeIds", "get", "(I)I"⟩ : MethodName)) (z := (⟨"com/example/same_bytes/samebytes/NodeIds", "get", "(I)I"⟩ : MethodName)) hown (mvT hZ (hw _ (List.mem_of_getElem? (i := 35) rfl))) (mvT hZ (hw _ (List.mem_of_getElem? (i := 36) rfl))) (notFace_of_selects (args := #[]) (mvT hZ (hw _ (List.mem_of_getElem? (i := 38) rfl)))) (mvT hZ (hw _ (List.mem_of_getElem? (i := 38) rfl))) (mvT hZ (hw _ (List.mem_of_getElem? (i := 37) rfl))) (by decide) (backOf (W := 0) (rm7 l Z a0 hw [] b16 (0 : Int32) bx21_x1 [p1, p2, p3, p4, (0 : Int32), (0 : Int32), (0 : Int32), (0 : Int32)] T52.heap n0 (Nat.le_trans Z0 K52.1) w52_0 c57 (own_inb (by decide) (Nat.le_of_ble_eq_true rfl) : own_Inb (0 : Int32) [p1, p2, p3, p4, (0 : Int32), (0 : Int32), (0 : Int32), (0 : Int32)].length)) hZ (hw _ (List.mem_of_getElem? (i := 39) rfl)) (hw _ (List.mem_of_getElem? (i := 4) rfl)) (by decide) (by decide)) q61a q61c (g := (mkF m 90 #[.val (.int p1), .val (.int p2), .val (.int p3), .val (.int p4), .val (.int p5), .val (.int (0 : Int32)), .val (.ref b2), .val (.ref b16)] [(.int (0 : Int32)), (.ref b16)])) rfl (by rw [hml]; rfl) (Steps.refl _) (argsL := [(.int (0 : Int32))]) (rest := []) (lenOf pd_0_3 rfl) rfl (by show 2 * 0 + _ ≤ _; exact Nat.le_of_eq rfl) (hb hby at_90) (fun _ _ => ⟨rfl, e59, (by decide : 3 + 0 ≤ _), (by decide : 14 + 0 ≤ _)⟩)
    dsimp only [Pt.U, Pt.locs, Pt.cells, Pt.slots] at X61 l61 y61 z61 st61 hQ61
    subst l61 y61 z61
    obtain ⟨rfl, N61q, e61⟩ := hQ61
    have N61 := Fr.app N59 N61q
    refine own_step (fun t k => st61.trans k) ?_
    show own_G p.tables e below _ (T61.setTop (mkF m 93 #[.val (.int p1), .val (.int p2), .val (.int p3), .val (.int p4), .val (.int p5), .val (.int (0 : Int32)), .val (.ref b2), .val (.ref b16)] [(.int p1)]))
    refine own_step (fun t k => XS.aload X61.here hx rfl (hb hby at_93) rfl rfl k) ?_
    show own_G p.tables e below _ (T61.setTop (mkF m 95 #[.val (.int p1), .val (.int p2), .val (.int p3), .val (.int p4), .val (.int p5), .val (.int (0 : Int32)), .val (.ref b2), .val (.ref b16)] [(.ref b2), (.int p1)]))
    refine own_step (fun t k => XS.iload X61.here hx rfl (hb hby at_95) rfl k) ?_
    show own_G p.tables e below _ (T61.setTop (mkF m 97 #[.val (.int p1), .val (.int p2), .val (.int p3), .val (.int p4), .val (.int p5), .val (.int (0 : Int32)), .val (.ref b2), .val (.ref b16)] [(.int (0 : Int32)), (.ref b2), (.int p1)]))
    refine own_step (fun t k => XS.iconst X61.here hx rfl (hb hby at_97) k) ?_
    show own_G p.tables e below _ (T61.setTop (mkF m 98 #[.val (.int p1), .val (.int p2), .val (.int p3), .val (.int p4), .val (.int p5), .val (.int (0 : Int32)), .val (.ref b2), .val (.ref b16)] [(.int (0 : Int32)), (.int (0 : Int32)), (.ref b2), (.int p1)]))
    obtain ⟨_, _, ⟨T62, L62, k62, n62⟩, -, X62, ⟨Lc62, hQ62, l62, y62, z62⟩, st62⟩ := Jvm.LawKit.callS X61 hx (y := (⟨"com/example/same_bytes/samebytes/NodeIdsReversePinLaw", "expect", "([III)I"⟩ : MethodName)) hown (mvT hZ (hw _ (List.mem_of_getElem? (i := 40) rfl))) (mvT hZ (hw _ (List.mem_of_getElem? (i := 41) rfl))) (mvT hZ (hw _ (List.mem_of_getElem? (i := 42) rfl))) (mvT hZ (hw _ (List.mem_of_getElem? (i := 43) rfl))) (by decide) (backOf (W := 1) (rm8_e0_0 l Z a0 hw [] b2 p1 p2 p3 p4 T52.heap n0 (Nat.le_trans Z0 K52.1) c53) hZ (hw _ (List.mem_of_getElem? (i := 43) rfl)) (hw _ (List.mem_of_getElem? (i := 42) rfl)) (by decide) (by decide)) (g := (mkF m 98 #[.val (.int p1), .val (.int p2), .val (.int p3), .val (.int p4), .val (.int p5), .val (.int (0 : Int32)), .val (.ref b2), .val (.ref b16)] [(.int (0 : Int32)), (.int (0 : Int32)), (.ref b2), (.int p1)])) rfl (by rw [hml]; rfl) (argsL := [(.ref b2), (.int (0 : Int32)), (.int (0 : Int32))]) (rest := [(.int p1)]) (lenOf pd_0_4 rfl) rfl (by show 2 * 0 + _ ≤ _; exact Nat.le_of_eq rfl) (hb hby at_98) (fun _ _ => ⟨rfl, e61, (by decide : 3 + 0 ≤ _), (by decide : 14 + 0 ≤ _)⟩)
    dsimp only [Pt.U, Pt.locs, Pt.cells, Pt.slots] at X62 l62 y62 z62 st62 hQ62
    subst l62 y62 z62
    obtain ⟨rfl, N62q, e62⟩ := hQ62
    have N62 := Fr.app N61 N62q
    refine own_step st62 ?_
    show own_G p.tables e below _ (T62.setTop (mkF m 101 #[.val (.int p1), .val (.int p2), .val (.int p3), .val (.int p4), .val (.int p5), .val (.int (0 : Int32)), .val (.ref b2), .val (.ref b16)] [(.int p1), (.int p1)]))
    have hk63 : p1 = p1 := rfl
    refine own_step (fun t k => XS.icmpNo X62.here hx rfl (hb hby at_101) rfl ((teq hk63).2) k) ?_
    show own_G p.tables e below _ (T62.setTop (mkF m 104 #[.val (.int p1), .val (.int p2), .val (.int p3), .val (.int p4), .val (.int p5), .val (.int (0 : Int32)), .val (.ref b2), .val (.ref b16)] []))
    refine own_step (fun t k => XS.aload X62.here hx rfl (hb hby at_104) rfl rfl k) ?_
    show own_G p.tables e below _ (T62.setTop (mkF m 106 #[.val (.int p1), .val (.int p2), .val (.int p3), .val (.int p4), .val (.int p5), .val (.int (0 : Int32)), .val (.ref b2), .val (.ref b16)] [(.ref b16)]))
    refine own_step (fun t k => XS.iconst X62.here hx rfl (hb hby at_106) k) ?_
    show own_G p.tables e below _ (T62.setTop (mkF m 107 #[.val (.int p1), .val (.int p2), .val (.int p3), .val (.int p4), .val (.int p5), .val (.int (0 : Int32)), .val (.ref b2), .val (.ref b16)] [(.int (1 : Int32)), (.ref b16)]))
    obtain ⟨cq64, kq64, q64a, q64b, q64c⟩ := isOf hZ e62 c54
    obtain ⟨_, _, ⟨T64, L64, k64, n64⟩, -, X64, ⟨Lc64, hQ64, l64, y64, z64⟩, st64⟩ := X62.virtualBack hx (y := (⟨"com/example/same_bytes/samebytes/NodeIds", "get", "(I)I"⟩ : MethodName)) (z := (⟨"com/example/same_bytes/samebytes/NodeIds", "get", "(I)I"⟩ : MethodName)) hown (mvT hZ (hw _ (List.mem_of_getElem? (i := 35) rfl))) (mvT hZ (hw _ (List.mem_of_getElem? (i := 36) rfl))) (notFace_of_selects (args := #[]) (mvT hZ (hw _ (List.mem_of_getElem? (i := 38) rfl)))) (mvT hZ (hw _ (List.mem_of_getElem? (i := 38) rfl))) (mvT hZ (hw _ (List.mem_of_getElem? (i := 37) rfl))) (by decide) (backOf (W := 0) (rm7 l Z a0 hw [] b16 (1 : Int32) bx21_x1 [p1, p2, p3, p4, (0 : Int32), (0 : Int32), (0 : Int32), (0 : Int32)] T52.heap n0 (Nat.le_trans Z0 K52.1) w52_0 c57 (own_inb (by decide) (Nat.le_of_ble_eq_true rfl) : own_Inb (1 : Int32) [p1, p2, p3, p4, (0 : Int32), (0 : Int32), (0 : Int32), (0 : Int32)].length)) hZ (hw _ (List.mem_of_getElem? (i := 39) rfl)) (hw _ (List.mem_of_getElem? (i := 4) rfl)) (by decide) (by decide)) q64a q64c (g := (mkF m 107 #[.val (.int p1), .val (.int p2), .val (.int p3), .val (.int p4), .val (.int p5), .val (.int (0 : Int32)), .val (.ref b2), .val (.ref b16)] [(.int (1 : Int32)), (.ref b16)])) rfl (by rw [hml]; rfl) (Steps.refl _) (argsL := [(.int (1 : Int32))]) (rest := []) (lenOf pd_0_3 rfl) rfl (by show 2 * 0 + _ ≤ _; exact Nat.le_of_eq rfl) (hb hby at_107) (fun _ _ => ⟨rfl, e62, (by decide : 3 + 0 ≤ _), (by decide : 14 + 0 ≤ _)⟩)
    dsimp only [Pt.U, Pt.locs, Pt.cells, Pt.slots] at X64 l64 y64 z64 st64 hQ64
    subst l64 y64 z64
    obtain ⟨rfl, N64q, e64⟩ := hQ64
    have N64 := Fr.app N62 N64q
    refine own_step (fun t k => st64.trans k) ?_
    show own_G p.tables e below _ (T64.setTop (mkF m 110 #[.val (.int p1), .val (.int p2), .val (.int p3), .val (.int p4), .val (.int p5), .val (.int (0 : Int32)), .val (.ref b2), .val (.ref b16)] [(.int p2)]))
    refine own_step (fun t k => XS.aload X64.here hx rfl (hb hby at_110) rfl rfl k) ?_
    show own_G p.tables e below _ (T64.setTop (mkF m 112 #[.val (.int p1), .val (.int p2), .val (.int p3), .val (.int p4), .val (.int p5), .val (.int (0 : Int32)), .val (.ref b2), .val (.ref b16)] [(.ref b2), (.int p2)]))
    refine own_step (fun t k => XS.iload X64.here hx rfl (hb hby at_112) rfl k) ?_
    show own_G p.tables e below _ (T64.setTop (mkF m 114 #[.val (.int p1), .val (.int p2), .val (.int p3), .val (.int p4), .val (.int p5), .val (.int (0 : Int32)), .val (.ref b2), .val (.ref b16)] [(.int (0 : Int32)), (.ref b2), (.int p2)]))
    refine own_step (fun t k => XS.iconst X64.here hx rfl (hb hby at_114) k) ?_
    show own_G p.tables e below _ (T64.setTop (mkF m 115 #[.val (.int p1), .val (.int p2), .val (.int p3), .val (.int p4), .val (.int p5), .val (.int (0 : Int32)), .val (.ref b2), .val (.ref b16)] [(.int (1 : Int32)), (.int (0 : Int32)), (.ref b2), (.int p2)]))
    obtain ⟨_, _, ⟨T65, L65, k65, n65⟩, -, X65, ⟨Lc65, hQ65, l65, y65, z65⟩, st65⟩ := Jvm.LawKit.callS X64 hx (y := (⟨"com/example/same_bytes/samebytes/NodeIdsReversePinLaw", "expect", "([III)I"⟩ : MethodName)) hown (mvT hZ (hw _ (List.mem_of_getElem? (i := 40) rfl))) (mvT hZ (hw _ (List.mem_of_getElem? (i := 41) rfl))) (mvT hZ (hw _ (List.mem_of_getElem? (i := 42) rfl))) (mvT hZ (hw _ (List.mem_of_getElem? (i := 43) rfl))) (by decide) (backOf (W := 1) (rm8_e0_1 l Z a0 hw [] b2 p1 p2 p3 p4 T52.heap n0 (Nat.le_trans Z0 K52.1) c53) hZ (hw _ (List.mem_of_getElem? (i := 43) rfl)) (hw _ (List.mem_of_getElem? (i := 42) rfl)) (by decide) (by decide)) (g := (mkF m 115 #[.val (.int p1), .val (.int p2), .val (.int p3), .val (.int p4), .val (.int p5), .val (.int (0 : Int32)), .val (.ref b2), .val (.ref b16)] [(.int (1 : Int32)), (.int (0 : Int32)), (.ref b2), (.int p2)])) rfl (by rw [hml]; rfl) (argsL := [(.ref b2), (.int (0 : Int32)), (.int (1 : Int32))]) (rest := [(.int p2)]) (lenOf pd_0_4 rfl) rfl (by show 2 * 0 + _ ≤ _; exact Nat.le_of_eq rfl) (hb hby at_115) (fun _ _ => ⟨rfl, e64, (by decide : 3 + 0 ≤ _), (by decide : 14 + 0 ≤ _)⟩)
    dsimp only [Pt.U, Pt.locs, Pt.cells, Pt.slots] at X65 l65 y65 z65 st65 hQ65
    subst l65 y65 z65
    obtain ⟨rfl, N65q, e65⟩ := hQ65
    have N65 := Fr.app N64 N65q
    refine own_step st65 ?_
    show own_G p.tables e below _ (T65.setTop (mkF m 118 #[.val (.int p1), .val (.int p2), .val (.int p3), .val (.int p4), .val (.int p5), .val (.int (0 : Int32)), .val (.ref b2), .val (.ref b16)] [(.int p2), (.int p2)]))
    have hk66 : p2 = p2 := rfl
    refine own_step (fun t k => XS.icmpNo X65.here hx rfl (hb hby at_118) rfl ((teq hk66).2) k) ?_
    show own_G p.tables e below _ (T65.setTop (mkF m 121 #[.val (.int p1), .val (.int p2), .val (.int p3), .val (.int p4), .val (.int p5), .val (.int (0 : Int32)), .val (.ref b2), .val (.ref b16)] []))
    refine own_step (fun t k => XS.aload X65.here hx rfl (hb hby at_121) rfl rfl k) ?_
    show own_G p.tables e below _ (T65.setTop (mkF m 123 #[.val (.int p1), .val (.int p2), .val (.int p3), .val (.int p4), .val (.int p5), .val (.int (0 : Int32)), .val (.ref b2), .val (.ref b16)] [(.ref b16)]))
    refine own_step (fun t k => XS.iconst X65.here hx rfl (hb hby at_123) k) ?_
    show own_G p.tables e below _ (T65.setTop (mkF m 124 #[.val (.int p1), .val (.int p2), .val (.int p3), .val (.int p4), .val (.int p5), .val (.int (0 : Int32)), .val (.ref b2), .val (.ref b16)] [(.int (2 : Int32)), (.ref b16)]))
    obtain ⟨cq67, kq67, q67a, q67b, q67c⟩ := isOf hZ e65 c54
    obtain ⟨_, _, ⟨T67, L67, k67, n67⟩, -, X67, ⟨Lc67, hQ67, l67, y67, z67⟩, st67⟩ := X65.virtualBack hx (y := (⟨"com/example/same_bytes/samebytes/NodeIds", "get", "(I)I"⟩ : MethodName)) (z := (⟨"com/example/same_bytes/samebytes/NodeIds", "get", "(I)I"⟩ : MethodName)) hown (mvT hZ (hw _ (List.mem_of_getElem? (i := 35) rfl))) (mvT hZ (hw _ (List.mem_of_getElem? (i := 36) rfl))) (notFace_of_selects (args := #[]) (mvT hZ (hw _ (List.mem_of_getElem? (i := 38) rfl)))) (mvT hZ (hw _ (List.mem_of_getElem? (i := 38) rfl))) (mvT hZ (hw _ (List.mem_of_getElem? (i := 37) rfl))) (by decide) (backOf (W := 0) (rm7 l Z a0 hw [] b16 (2 : Int32) bx21_x1 [p1, p2, p3, p4, (0 : Int32), (0 : Int32), (0 : Int32), (0 : Int32)] T52.heap n0 (Nat.le_trans Z0 K52.1) w52_0 c57 (own_inb (by decide) (Nat.le_of_ble_eq_true rfl) : own_Inb (2 : Int32) [p1, p2, p3, p4, (0 : Int32), (0 : Int32), (0 : Int32), (0 : Int32)].length)) hZ (hw _ (List.mem_of_getElem? (i := 39) rfl)) (hw _ (List.mem_of_getElem? (i := 4) rfl)) (by decide) (by decide)) q67a q67c (g := (mkF m 124 #[.val (.int p1), .val (.int p2), .val (.int p3), .val (.int p4), .val (.int p5), .val (.int (0 : Int32)), .val (.ref b2), .val (.ref b16)] [(.int (2 : Int32)), (.ref b16)])) rfl (by rw [hml]; rfl) (Steps.refl _) (argsL := [(.int (2 : Int32))]) (rest := []) (lenOf pd_0_3 rfl) rfl (by show 2 * 0 + _ ≤ _; exact Nat.le_of_eq rfl) (hb hby at_124) (fun _ _ => ⟨rfl, e65, (by decide : 3 + 0 ≤ _), (by decide : 14 + 0 ≤ _)⟩)
    dsimp only [Pt.U, Pt.locs, Pt.cells, Pt.slots] at X67 l67 y67 z67 st67 hQ67
    subst l67 y67 z67
    obtain ⟨rfl, N67q, e67⟩ := hQ67
    have N67 := Fr.app N65 N67q
    refine own_step (fun t k => st67.trans k) ?_
    show own_G p.tables e below _ (T67.setTop (mkF m 127 #[.val (.int p1), .val (.int p2), .val (.int p3), .val (.int p4), .val (.int p5), .val (.int (0 : Int32)), .val (.ref b2), .val (.ref b16)] [(.int p3)]))
    refine own_step (fun t k => XS.aload X67.here hx rfl (hb hby at_127) rfl rfl k) ?_
    show own_G p.tables e below _ (T67.setTop (mkF m 129 #[.val (.int p1), .val (.int p2), .val (.int p3), .val (.int p4), .val (.int p5), .val (.int (0 : Int32)), .val (.ref b2), .val (.ref b16)] [(.ref b2), (.int p3)]))
    refine own_step (fun t k => XS.iload X67.here hx rfl (hb hby at_129) rfl k) ?_
    show own_G p.tables e below _ (T67.setTop (mkF m 131 #[.val (.int p1), .val (.int p2), .val (.int p3), .val (.int p4), .val (.int p5), .val (.int (0 : Int32)), .val (.ref b2), .val (.ref b16)] [(.int (0 : Int32)), (.ref b2), (.int p3)]))
    refine own_step (fun t k => XS.iconst X67.here hx rfl (hb hby at_131) k) ?_
    show own_G p.tables e below _ (T67.setTop (mkF m 132 #[.val (.int p1), .val (.int p2), .val (.int p3), .val (.int p4), .val (.int p5), .val (.int (0 : Int32)), .val (.ref b2), .val (.ref b16)] [(.int (2 : Int32)), (.int (0 : Int32)), (.ref b2), (.int p3)]))
    obtain ⟨_, _, ⟨T68, L68, k68, n68⟩, -, X68, ⟨Lc68, hQ68, l68, y68, z68⟩, st68⟩ := Jvm.LawKit.callS X67 hx (y := (⟨"com/example/same_bytes/samebytes/NodeIdsReversePinLaw", "expect", "([III)I"⟩ : MethodName)) hown (mvT hZ (hw _ (List.mem_of_getElem? (i := 40) rfl))) (mvT hZ (hw _ (List.mem_of_getElem? (i := 41) rfl))) (mvT hZ (hw _ (List.mem_of_getElem? (i := 42) rfl))) (mvT hZ (hw _ (List.mem_of_getElem? (i := 43) rfl))) (by decide) (backOf (W := 1) (rm8_e0_2 l Z a0 hw [] b2 p1 p2 p3 p4 T52.heap n0 (Nat.le_trans Z0 K52.1) c53) hZ (hw _ (List.mem_of_getElem? (i := 43) rfl)) (hw _ (List.mem_of_getElem? (i := 42) rfl)) (by decide) (by decide)) (g := (mkF m 132 #[.val (.int p1), .val (.int p2), .val (.int p3), .val (.int p4), .val (.int p5), .val (.int (0 : Int32)), .val (.ref b2), .val (.ref b16)] [(.int (2 : Int32)), (.int (0 : Int32)), (.ref b2), (.int p3)])) rfl (by rw [hml]; rfl) (argsL := [(.ref b2), (.int (0 : Int32)), (.int (2 : Int32))]) (rest := [(.int p3)]) (lenOf pd_0_4 rfl) rfl (by show 2 * 0 + _ ≤ _; exact Nat.le_of_eq rfl) (hb hby at_132) (fun _ _ => ⟨rfl, e67, (by decide : 3 + 0 ≤ _), (by decide : 14 + 0 ≤ _)⟩)
    dsimp only [Pt.U, Pt.locs, Pt.cells, Pt.slots] at X68 l68 y68 z68 st68 hQ68
    subst l68 y68 z68
    obtain ⟨rfl, N68q, e68⟩ := hQ68
    have N68 := Fr.app N67 N68q
    refine own_step st68 ?_
    show own_G p.tables e below _ (T68.setTop (mkF m 135 #[.val (.int p1), .val (.int p2), .val (.int p3), .val (.int p4), .val (.int p5), .val (.int (0 : Int32)), .val (.ref b2), .val (.ref b16)] [(.int p3), (.int p3)]))
    have hk69 : p3 = p3 := rfl
    refine own_step (fun t k => XS.icmpNo X68.here hx rfl (hb hby at_135) rfl ((teq hk69).2) k) ?_
    show own_G p.tables e below _ (T68.setTop (mkF m 138 #[.val (.int p1), .val (.int p2), .val (.int p3), .val (.int p4), .val (.int p5), .val (.int (0 : Int32)), .val (.ref b2), .val (.ref b16)] []))
    refine own_step (fun t k => XS.aload X68.here hx rfl (hb hby at_138) rfl rfl k) ?_
    show own_G p.tables e below _ (T68.setTop (mkF m 140 #[.val (.int p1), .val (.int p2), .val (.int p3), .val (.int p4), .val (.int p5), .val (.int (0 : Int32)), .val (.ref b2), .val (.ref b16)] [(.ref b16)]))
    refine own_step (fun t k => XS.iconst X68.here hx rfl (hb hby at_140) k) ?_
    show own_G p.tables e below _ (T68.setTop (mkF m 141 #[.val (.int p1), .val (.int p2), .val (.int p3), .val (.int p4), .val (.int p5), .val (.int (0 : Int32)), .val (.ref b2), .val (.ref b16)] [(.int (3 : Int32)), (.ref b16)]))
    obtain ⟨cq70, kq70, q70a, q70b, q70c⟩ := isOf hZ e68 c54
    obtain ⟨_, _, ⟨T70, L70, k70, n70⟩, -, X70, ⟨Lc70, hQ70, l70, y70, z70⟩, st70⟩ := X68.virtualBack hx (y := (⟨"com/example/same_bytes/samebytes/NodeIds", "get", "(I)I"⟩ : MethodName)) (z := (⟨"com/example/same_bytes/samebytes/NodeIds", "get", "(I)I"⟩ : MethodName)) hown (mvT hZ (hw _ (List.mem_of_getElem? (i := 35) rfl))) (mvT hZ (hw _ (List.mem_of_getElem? (i := 36) rfl))) (notFace_of_selects (args := #[]) (mvT hZ (hw _ (List.mem_of_getElem? (i := 38) rfl)))) (mvT hZ (hw _ (List.mem_of_getElem? (i := 38) rfl))) (mvT hZ (hw _ (List.mem_of_getElem? (i := 37) rfl))) (by decide) (backOf (W := 0) (rm7 l Z a0 hw [] b16 (3 : Int32) bx21_x1 [p1, p2, p3, p4, (0 : Int32), (0 : Int32), (0 : Int32), (0 : Int32)] T52.heap n0 (Nat.le_trans Z0 K52.1) w52_0 c57 (own_inb (by decide) (Nat.le_of_ble_eq_true rfl) : own_Inb (3 : Int32) [p1, p2, p3, p4, (0 : Int32), (0 : Int32), (0 : Int32), (0 : Int32)].length)) hZ (hw _ (List.mem_of_getElem? (i := 39) rfl)) (hw _ (List.mem_of_getElem? (i := 4) rfl)) (by decide) (by decide)) q70a q70c (g := (mkF m 141 #[.val (.int p1), .val (.int p2), .val (.int p3), .val (.int p4), .val (.int p5), .val (.int (0 : Int32)), .val (.ref b2), .val (.ref b16)] [(.int (3 : Int32)), (.ref b16)])) rfl (by rw [hml]; rfl) (Steps.refl _) (argsL := [(.int (3 : Int32))]) (rest := []) (lenOf pd_0_3 rfl) rfl (by show 2 * 0 + _ ≤ _; exact Nat.le_of_eq rfl) (hb hby at_141) (fun _ _ => ⟨rfl, e68, (by decide : 3 + 0 ≤ _), (by decide : 14 + 0 ≤ _)⟩)
    dsimp only [Pt.U, Pt.locs, Pt.cells, Pt.slots] at X70 l70 y70 z70 st70 hQ70
    subst l70 y70 z70
    obtain ⟨rfl, N70q, e70⟩ := hQ70
    have N70 := Fr.app N68 N70q
    refine own_step (fun t k => st70.trans k) ?_
    show own_G p.tables e below _ (T70.setTop (mkF m 144 #[.val (.int p1), .val (.int p2), .val (.int p3), .val (.int p4), .val (.int p5), .val (.int (0 : Int32)), .val (.ref b2), .val (.ref b16)] [(.int p4)]))
    refine own_step (fun t k => XS.aload X70.here hx rfl (hb hby at_144) rfl rfl k) ?_
    show own_G p.tables e below _ (T70.setTop (mkF m 146 #[.val (.int p1), .val (.int p2), .val (.int p3), .val (.int p4), .val (.int p5), .val (.int (0 : Int32)), .val (.ref b2), .val (.ref b16)] [(.ref b2), (.int p4)]))
    refine own_step (fun t k => XS.iload X70.here hx rfl (hb hby at_146) rfl k) ?_
    show own_G p.tables e below _ (T70.setTop (mkF m 148 #[.val (.int p1), .val (.int p2), .val (.int p3), .val (.int p4), .val (.int p5), .val (.int (0 : Int32)), .val (.ref b2), .val (.ref b16)] [(.int (0 : Int32)), (.ref b2), (.int p4)]))
    refine own_step (fun t k => XS.iconst X70.here hx rfl (hb hby at_148) k) ?_
    show own_G p.tables e below _ (T70.setTop (mkF m 149 #[.val (.int p1), .val (.int p2), .val (.int p3), .val (.int p4), .val (.int p5), .val (.int (0 : Int32)), .val (.ref b2), .val (.ref b16)] [(.int (3 : Int32)), (.int (0 : Int32)), (.ref b2), (.int p4)]))
    obtain ⟨_, _, ⟨T71, L71, k71, n71⟩, -, X71, ⟨Lc71, hQ71, l71, y71, z71⟩, st71⟩ := Jvm.LawKit.callS X70 hx (y := (⟨"com/example/same_bytes/samebytes/NodeIdsReversePinLaw", "expect", "([III)I"⟩ : MethodName)) hown (mvT hZ (hw _ (List.mem_of_getElem? (i := 40) rfl))) (mvT hZ (hw _ (List.mem_of_getElem? (i := 41) rfl))) (mvT hZ (hw _ (List.mem_of_getElem? (i := 42) rfl))) (mvT hZ (hw _ (List.mem_of_getElem? (i := 43) rfl))) (by decide) (backOf (W := 1) (rm8_e0_3 l Z a0 hw [] b2 p1 p2 p3 p4 T52.heap n0 (Nat.le_trans Z0 K52.1) c53) hZ (hw _ (List.mem_of_getElem? (i := 43) rfl)) (hw _ (List.mem_of_getElem? (i := 42) rfl)) (by decide) (by decide)) (g := (mkF m 149 #[.val (.int p1), .val (.int p2), .val (.int p3), .val (.int p4), .val (.int p5), .val (.int (0 : Int32)), .val (.ref b2), .val (.ref b16)] [(.int (3 : Int32)), (.int (0 : Int32)), (.ref b2), (.int p4)])) rfl (by rw [hml]; rfl) (argsL := [(.ref b2), (.int (0 : Int32)), (.int (3 : Int32))]) (rest := [(.int p4)]) (lenOf pd_0_4 rfl) rfl (by show 2 * 0 + _ ≤ _; exact Nat.le_of_eq rfl) (hb hby at_149) (fun _ _ => ⟨rfl, e70, (by decide : 3 + 0 ≤ _), (by decide : 14 + 0 ≤ _)⟩)
    dsimp only [Pt.U, Pt.locs, Pt.cells, Pt.slots] at X71 l71 y71 z71 st71 hQ71
    subst l71 y71 z71
    obtain ⟨rfl, N71q, e71⟩ := hQ71
    have N71 := Fr.app N70 N71q
    refine own_step st71 ?_
    show own_G p.tables e below _ (T71.setTop (mkF m 152 #[.val (.int p1), .val (.int p2), .val (.int p3), .val (.int p4), .val (.int p5), .val (.int (0 : Int32)), .val (.ref b2), .val (.ref b16)] [(.int p4), (.int p4)]))
    have hk72 : p4 = p4 := rfl
    refine own_step (fun t k => XS.icmpNo X71.here hx rfl (hb hby at_152) rfl ((teq hk72).2) k) ?_
    show own_G p.tables e below _ (T71.setTop (mkF m 155 #[.val (.int p1), .val (.int p2), .val (.int p3), .val (.int p4), .val (.int p5), .val (.int (0 : Int32)), .val (.ref b2), .val (.ref b16)] []))
    refine own_step (fun t k => XS.iconst X71.here hx rfl (hb hby at_155) k) ?_
    show own_G p.tables e below _ (T71.setTop (mkF m 156 #[.val (.int p1), .val (.int p2), .val (.int p3), .val (.int p4), .val (.int p5), .val (.int (0 : Int32)), .val (.ref b2), .val (.ref b16)] [(.int (1 : Int32))]))
    refine own_step (fun t k => XS.goto X71.here hx rfl (pc0 := 156) (pc' := 160) rfl (hb hby at_156) (by decide) (by decide) k) ?_
    show own_G p.tables e below _ (T71.setTop (mkF m 160 #[.val (.int p1), .val (.int p2), .val (.int p3), .val (.int p4), .val (.int p5), .val (.int (0 : Int32)), .val (.ref b2), .val (.ref b16)] [(.int (1 : Int32))]))
    obtain ⟨fs, hr, hrun, hended, hW, hsame⟩ := X71.leave (v := some (.int (1 : Int32))) (fun h => by rw [Bd.returns] at h; cases h)
    refine own_done (retN X71 hx (t := .boolean) Bd.returns (by simp) (hb hby at_160) hr) hrun hended ⟨_, _, rfl, ?_, ⟨_, rfl⟩, hW, hsame.mono (by decide) (by decide)⟩
    show Q0 Z p1 p2 p3 p4 p5 h0 n0 _ T71.heap _
    rw [e71]
    exact ⟨rfl, N71⟩
  · skip
    show own_G p.tables e below _ (T46.setTop (mkF m 63 #[.val (.int p1), .val (.int p2), .val (.int p3), .val (.int p4), .val (.int p5), .val (.int (1 : Int32)), .val (.ref b2), .val (.ref b16)] []))
    refine own_step (fun t k => XS.aload X46.here hx rfl (hb hby at_63) rfl rfl k) ?_
    show own_G p.tables e below _ (T46.setTop (mkF m 65 #[.val (.int p1), .val (.int p2), .val (.int p3), .val (.int p4), .val (.int p5), .val (.int (1 : Int32)), .val (.ref b2), .val (.ref b16)] [(.ref b16)]))
    refine own_step (fun t k => XS.iload X46.here hx rfl (hb hby at_65) rfl k) ?_
    show own_G p.tables e below _ (T46.setTop (mkF m 67 #[.val (.int p1), .val (.int p2), .val (.int p3), .val (.int p4), .val (.int p5), .val (.int (1 : Int32)), .val (.ref b2), .val (.ref b16)] [(.int (1 : Int32)), (.ref b16)]))
    obtain ⟨cq73, kq73, q73a, q73b, q73c⟩ := isOf hZ rfl c48
    obtain ⟨_, _, ⟨T73, L73, k73, n73⟩, -, X73, ⟨Lc73, hQ73, l73, y73, z73⟩, st73⟩ := X46.virtualBack hx (y := (⟨"com/example/same_bytes/samebytes/NodeIds", "truncate", "(I)V"⟩ : MethodName)) (z := (⟨"com/example/same_bytes/samebytes/NodeIds", "truncate", "(I)V"⟩ : MethodName)) hown (mvT hZ (hw _ (List.mem_of_getElem? (i := 20) rfl))) (mvT hZ (hw _ (List.mem_of_getElem? (i := 21) rfl))) (notFace_of_selects (args := #[]) (mvT hZ (hw _ (List.mem_of_getElem? (i := 23) rfl)))) (mvT hZ (hw _ (List.mem_of_getElem? (i := 23) rfl))) (mvT hZ (hw _ (List.mem_of_getElem? (i := 22) rfl))) (by decide) (backOf (W := 0) (rm4 l Z a0 hw [] b16 (1 : Int32) (.ref bx21_x1) (.int (4 : Int32)) T46.heap n0 (Nat.le_trans Z0 K46.1) c48 w46_1 w46_0 ge16) hZ (hw _ (List.mem_of_getElem? (i := 24) rfl)) (hw _ (List.mem_of_getElem? (i := 4) rfl)) (by decide) (by decide)) q73a q73c (g := (mkF m 67 #[.val (.int p1), .val (.int p2), .val (.int p3), .val (.int p4), .val (.int p5), .val (.int (1 : Int32)), .val (.ref b2), .val (.ref b16)] [(.int (1 : Int32)), (.ref b16)])) rfl (by rw [hml]; rfl) (Steps.refl _) (argsL := [(.int (1 : Int32))]) (rest := []) (lenOf pd_0_1 rfl) rfl (by show 2 * 0 + _ ≤ _; exact Nat.le_of_eq rfl) (hb hby at_67) (fun _ _ => ⟨rfl, rfl, (by decide : 3 + 0 ≤ _), (by decide : 14 + 0 ≤ _)⟩)
    dsimp only [Pt.U, Pt.locs, Pt.cells, Pt.slots] at X73 l73 y73 z73 st73 hQ73
    subst l73 y73 z73
    obtain ⟨rfl, N73q, K73q, w73_0, w73_1⟩ := hQ73
    have c74 : own_Ari Z T73.heap b2 .int [p1, p2, p3, p4] := c47.keep K73q (ninS ne17 nin0)
    have c75 : Exa Z T73.heap b16 "com/example/same_bytes/samebytes/NodeIds" := c48.keep K73q
    have c78 : own_Ari Z T73.heap bx21_x1 .int [p1, p2, p3, p4, (0 : Int32), (0 : Int32), (0 : Int32), (0 : Int32)] := w46_2.keep K73q (ninS (Ne.symm ne27) nin0)
    have K73 : Keep h0 T73.heap [] := K46.trans K73q (allS (Or.inr sz16) all0)
    have N73 := Fr.app N46 N73q
    refine own_step (fun t k => st73.trans k) ?_
    show own_G p.tables e below _ (T73.setTop (mkF m 70 #[.val (.int p1), .val (.int p2), .val (.int p3), .val (.int p4), .val (.int p5), .val (.int (1 : Int32)), .val (.ref b2), .val (.ref b16)] []))
    refine own_step (fun t k => XS.aload X73.here hx rfl (hb hby at_70) rfl rfl k) ?_
    show own_G p.tables e below _ (T73.setTop (mkF m 72 #[.val (.int p1), .val (.int p2), .val (.int p3), .val (.int p4), .val (.int p5), .val (.int (1 : Int32)), .val (.ref b2), .val (.ref b16)] [(.ref b16)]))
    obtain ⟨cq79, kq79, q79a, q79b, q79c⟩ := isOf hZ rfl c75
    obtain ⟨_, _, ⟨T79, L79, k79, n79⟩, -, X79, ⟨Lc79, hQ79, l79, y79, z79⟩, st79⟩ := X73.virtualBack hx (y := (⟨"com/example/same_bytes/samebytes/NodeIds", "reverse", "()V"⟩ : MethodName)) (z := (⟨"com/example/same_bytes/samebytes/NodeIds", "reverse", "()V"⟩ : MethodName)) hown (mvT hZ (hw _ (List.mem_of_getElem? (i := 25) rfl))) (mvT hZ (hw _ (List.mem_of_getElem? (i := 26) rfl))) (notFace_of_selects (args := #[]) (mvT hZ (hw _ (List.mem_of_getElem? (i := 28) rfl)))) (mvT hZ (hw _ (List.mem_of_getElem? (i := 28) rfl))) (mvT hZ (hw _ (List.mem_of_getElem? (i := 27) rfl))) (by decide) (backOf (W := 0) (rm5_s1 l Z a0 hw [] b16 bx21_x1 p1 p2 p3 p4 (0 : Int32) (0 : Int32) (0 : Int32) (0 : Int32) T73.heap n0 (Nat.le_trans Z0 K73.1) c75 w73_1 w73_0 c78) hZ (hw _ (List.mem_of_getElem? (i := 29) rfl)) (hw _ (List.mem_of_getElem? (i := 4) rfl)) (by decide) (by decide)) q79a q79c (g := (mkF m 72 #[.val (.int p1), .val (.int p2), .val (.int p3), .val (.int p4), .val (.int p5), .val (.int (1 : Int32)), .val (.ref b2), .val (.ref b16)] [(.ref b16)])) rfl (by rw [hml]; rfl) (Steps.refl _) (argsL := []) (rest := []) (lenOf pd_0_0 rfl) rfl (by show 2 * 0 + _ ≤ _; exact Nat.le_of_eq rfl) (hb hby at_72) (fun _ _ => ⟨rfl, rfl, (by decide : 3 + 0 ≤ _), (by decide : 14 + 0 ≤ _)⟩)
    dsimp only [Pt.U, Pt.locs, Pt.cells, Pt.slots] at X79 l79 y79 z79 st79 hQ79
    subst l79 y79 z79
    obtain ⟨rfl, N79q, e79⟩ := hQ79
    have N79 := Fr.app N73 N79q
    refine own_step (fun t k => st79.trans k) ?_
    show own_G p.tables e below _ (T79.setTop (mkF m 75 #[.val (.int p1), .val (.int p2), .val (.int p3), .val (.int p4), .val (.int p5), .val (.int (1 : Int32)), .val (.ref b2), .val (.ref b16)] []))
    refine own_step (fun t k => XS.aload X79.here hx rfl (hb hby at_75) rfl rfl k) ?_
    show own_G p.tables e below _ (T79.setTop (mkF m 77 #[.val (.int p1), .val (.int p2), .val (.int p3), .val (.int p4), .val (.int p5), .val (.int (1 : Int32)), .val (.ref b2), .val (.ref b16)] [(.ref b16)]))
    obtain ⟨cq80, kq80, q80a, q80b, q80c⟩ := isOf hZ e79 c75
    obtain ⟨_, _, ⟨T80, L80, k80, n80⟩, -, X80, ⟨Lc80, hQ80, l80, y80, z80⟩, st80⟩ := X79.virtualBack hx (y := (⟨"com/example/same_bytes/samebytes/NodeIds", "size", "()I"⟩ : MethodName)) (z := (⟨"com/example/same_bytes/samebytes/NodeIds", "size", "()I"⟩ : MethodName)) hown (mvT hZ (hw _ (List.mem_of_getElem? (i := 30) rfl))) (mvT hZ (hw _ (List.mem_of_getElem? (i := 31) rfl))) (notFace_of_selects (args := #[]) (mvT hZ (hw _ (List.mem_of_getElem? (i := 33) rfl)))) (mvT hZ (hw _ (List.mem_of_getElem? (i := 33) rfl))) (mvT hZ (hw _ (List.mem_of_getElem? (i := 32) rfl))) (by decide) (backOf (W := 0) (rm6 l Z a0 hw [] b16 (1 : Int32) T73.heap n0 (Nat.le_trans Z0 K73.1) w73_1) hZ (hw _ (List.mem_of_getElem? (i := 34) rfl)) (hw _ (List.mem_of_getElem? (i := 4) rfl)) (by decide) (by decide)) q80a q80c (g := (mkF m 77 #[.val (.int p1), .val (.int p2), .val (.int p3), .val (.int p4), .val (.int p5), .val (.int (1 : Int32)), .val (.ref b2), .val (.ref b16)] [(.ref b16)])) rfl (by rw [hml]; rfl) (Steps.refl _) (argsL := []) (rest := []) (lenOf pd_0_2 rfl) rfl (by show 2 * 0 + _ ≤ _; exact Nat.le_of_eq rfl) (hb hby at_77) (fun _ _ => ⟨rfl, e79, (by decide : 3 + 0 ≤ _), (by decide : 14 + 0 ≤ _)⟩)
    dsimp only [Pt.U, Pt.locs, Pt.cells, Pt.slots] at X80 l80 y80 z80 st80 hQ80
    subst l80 y80 z80
    obtain ⟨rfl, N80q, e80⟩ := hQ80
    have N80 := Fr.app N79 N80q
    refine own_step (fun t k => st80.trans k) ?_
    show own_G p.tables e below _ (T80.setTop (mkF m 80 #[.val (.int p1), .val (.int p2), .val (.int p3), .val (.int p4), .val (.int p5), .val (.int (1 : Int32)), .val (.ref b2), .val (.ref b16)] [(.int (1 : Int32))]))
    refine own_step (fun t k => XS.iload X80.here hx rfl (hb hby at_80) rfl k) ?_
    show own_G p.tables e below _ (T80.setTop (mkF m 82 #[.val (.int p1), .val (.int p2), .val (.int p3), .val (.int p4), .val (.int p5), .val (.int (1 : Int32)), .val (.ref b2), .val (.ref b16)] [(.int (1 : Int32)), (.int (1 : Int32))]))
    have hk81 : (1 : Int32) = (1 : Int32) := rfl
    refine own_step (fun t k => XS.icmpYes X80.here hx rfl (pc0 := 82) (pc' := 87) rfl (hb hby at_82) rfl ((teq hk81).1) (by decide) (by decide) k) ?_
    show own_G p.tables e below _ (T80.setTop (mkF m 87 #[.val (.int p1), .val (.int p2), .val (.int p3), .val (.int p4), .val (.int p5), .val (.int (1 : Int32)), .val (.ref b2), .val (.ref b16)] []))
    refine own_step (fun t k => XS.aload X80.here hx rfl (hb hby at_87) rfl rfl k) ?_
    show own_G p.tables e below _ (T80.setTop (mkF m 89 #[.val (.int p1), .val (.int p2), .val (.int p3), .val (.int p4), .val (.int p5), .val (.int (1 : Int32)), .val (.ref b2), .val (.ref b16)] [(.ref b16)]))
    refine own_step (fun t k => XS.iconst X80.here hx rfl (hb hby at_89) k) ?_
    show own_G p.tables e below _ (T80.setTop (mkF m 90 #[.val (.int p1), .val (.int p2), .val (.int p3), .val (.int p4), .val (.int p5), .val (.int (1 : Int32)), .val (.ref b2), .val (.ref b16)] [(.int (0 : Int32)), (.ref b16)]))
    obtain ⟨cq82, kq82, q82a, q82b, q82c⟩ := isOf hZ e80 c75
    obtain ⟨_, _, ⟨T82, L82, k82, n82⟩, -, X82, ⟨Lc82, hQ82, l82, y82, z82⟩, st82⟩ := X80.virtualBack hx (y := (⟨"com/example/same_bytes/samebytes/NodeIds", "get", "(I)I"⟩ : MethodName)) (z := (⟨"com/example/same_bytes/samebytes/NodeIds", "get", "(I)I"⟩ : MethodName)) hown (mvT hZ (hw _ (List.mem_of_getElem? (i := 35) rfl))) (mvT hZ (hw _ (List.mem_of_getElem? (i := 36) rfl))) (notFace_of_selects (args := #[]) (mvT hZ (hw _ (List.mem_of_getElem? (i := 38) rfl)))) (mvT hZ (hw _ (List.mem_of_getElem? (i := 38) rfl))) (mvT hZ (hw _ (List.mem_of_getElem? (i := 37) rfl))) (by decide) (backOf (W := 0) (rm7 l Z a0 hw [] b16 (0 : Int32) bx21_x1 [p1, p2, p3, p4, (0 : Int32), (0 : Int32), (0 : Int32), (0 : Int32)] T73.heap n0 (Nat.le_trans Z0 K73.1) w73_0 c78 (own_inb (by decide) (Nat.le_of_ble_eq_true rfl) : own_Inb (0 : Int32) [p1, p2, p3, p4, (0 : Int32), (0 : Int32), (0 : Int32), (0 : Int32)].length)) hZ (hw _ (List.mem_of_getElem? (i := 39) rfl)) (hw _ (List.mem_of_getElem? (i := 4) rfl)) (by decide) (by decide)) q82a q82c (g := (mkF m 90 #[.val (.int p1), .val (.int p2), .val (.int p3), .val (.int p4), .val (.int p5), .val (.int (1 : Int32)), .val (.ref b2), .val (.ref b16)] [(.int (0 : Int32)), (.ref b16)])) rfl (by rw [hml]; rfl) (Steps.refl _) (argsL := [(.int (0 : Int32))]) (rest := []) (lenOf pd_0_3 rfl) rfl (by show 2 * 0 + _ ≤ _; exact Nat.le_of_eq rfl) (hb hby at_90) (fun _ _ => ⟨rfl, e80, (by decide : 3 + 0 ≤ _), (by decide : 14 + 0 ≤ _)⟩)
    dsimp only [Pt.U, Pt.locs, Pt.cells, Pt.slots] at X82 l82 y82 z82 st82 hQ82
    subst l82 y82 z82
    obtain ⟨rfl, N82q, e82⟩ := hQ82
    have N82 := Fr.app N80 N82q
    refine own_step (fun t k => st82.trans k) ?_
    show own_G p.tables e below _ (T82.setTop (mkF m 93 #[.val (.int p1), .val (.int p2), .val (.int p3), .val (.int p4), .val (.int p5), .val (.int (1 : Int32)), .val (.ref b2), .val (.ref b16)] [(.int p1)]))
    refine own_step (fun t k => XS.aload X82.here hx rfl (hb hby at_93) rfl rfl k) ?_
    show own_G p.tables e below _ (T82.setTop (mkF m 95 #[.val (.int p1), .val (.int p2), .val (.int p3), .val (.int p4), .val (.int p5), .val (.int (1 : Int32)), .val (.ref b2), .val (.ref b16)] [(.ref b2), (.int p1)]))
    refine own_step (fun t k => XS.iload X82.here hx rfl (hb hby at_95) rfl k) ?_
    show own_G p.tables e below _ (T82.setTop (mkF m 97 #[.val (.int p1), .val (.int p2), .val (.int p3), .val (.int p4), .val (.int p5), .val (.int (1 : Int32)), .val (.ref b2), .val (.ref b16)] [(.int (1 : Int32)), (.ref b2), (.int p1)]))
    refine own_step (fun t k => XS.iconst X82.here hx rfl (hb hby at_97) k) ?_
    show own_G p.tables e below _ (T82.setTop (mkF m 98 #[.val (.int p1), .val (.int p2), .val (.int p3), .val (.int p4), .val (.int p5), .val (.int (1 : Int32)), .val (.ref b2), .val (.ref b16)] [(.int (0 : Int32)), (.int (1 : Int32)), (.ref b2), (.int p1)]))
    obtain ⟨_, _, ⟨T83, L83, k83, n83⟩, -, X83, ⟨Lc83, hQ83, l83, y83, z83⟩, st83⟩ := Jvm.LawKit.callS X82 hx (y := (⟨"com/example/same_bytes/samebytes/NodeIdsReversePinLaw", "expect", "([III)I"⟩ : MethodName)) hown (mvT hZ (hw _ (List.mem_of_getElem? (i := 40) rfl))) (mvT hZ (hw _ (List.mem_of_getElem? (i := 41) rfl))) (mvT hZ (hw _ (List.mem_of_getElem? (i := 42) rfl))) (mvT hZ (hw _ (List.mem_of_getElem? (i := 43) rfl))) (by decide) (backOf (W := 1) (rm8_e1_0 l Z a0 hw [] b2 p1 p2 p3 p4 T73.heap n0 (Nat.le_trans Z0 K73.1) c74) hZ (hw _ (List.mem_of_getElem? (i := 43) rfl)) (hw _ (List.mem_of_getElem? (i := 42) rfl)) (by decide) (by decide)) (g := (mkF m 98 #[.val (.int p1), .val (.int p2), .val (.int p3), .val (.int p4), .val (.int p5), .val (.int (1 : Int32)), .val (.ref b2), .val (.ref b16)] [(.int (0 : Int32)), (.int (1 : Int32)), (.ref b2), (.int p1)])) rfl (by rw [hml]; rfl) (argsL := [(.ref b2), (.int (1 : Int32)), (.int (0 : Int32))]) (rest := [(.int p1)]) (lenOf pd_0_4 rfl) rfl (by show 2 * 0 + _ ≤ _; exact Nat.le_of_eq rfl) (hb hby at_98) (fun _ _ => ⟨rfl, e82, (by decide : 3 + 0 ≤ _), (by decide : 14 + 0 ≤ _)⟩)
    dsimp only [Pt.U, Pt.locs, Pt.cells, Pt.slots] at X83 l83 y83 z83 st83 hQ83
    subst l83 y83 z83
    obtain ⟨rfl, N83q, e83⟩ := hQ83
    have N83 := Fr.app N82 N83q
    refine own_step st83 ?_
    show own_G p.tables e below _ (T83.setTop (mkF m 101 #[.val (.int p1), .val (.int p2), .val (.int p3), .val (.int p4), .val (.int p5), .val (.int (1 : Int32)), .val (.ref b2), .val (.ref b16)] [(.int p1), (.int p1)]))
    have hk84 : p1 = p1 := rfl
    refine own_step (fun t k => XS.icmpNo X83.here hx rfl (hb hby at_101) rfl ((teq hk84).2) k) ?_
    show own_G p.tables e below _ (T83.setTop (mkF m 104 #[.val (.int p1), .val (.int p2), .val (.int p3), .val (.int p4), .val (.int p5), .val (.int (1 : Int32)), .val (.ref b2), .val (.ref b16)] []))
    refine own_step (fun t k => XS.aload X83.here hx rfl (hb hby at_104) rfl rfl k) ?_
    show own_G p.tables e below _ (T83.setTop (mkF m 106 #[.val (.int p1), .val (.int p2), .val (.int p3), .val (.int p4), .val (.int p5), .val (.int (1 : Int32)), .val (.ref b2), .val (.ref b16)] [(.ref b16)]))
    refine own_step (fun t k => XS.iconst X83.here hx rfl (hb hby at_106) k) ?_
    show own_G p.tables e below _ (T83.setTop (mkF m 107 #[.val (.int p1), .val (.int p2), .val (.int p3), .val (.int p4), .val (.int p5), .val (.int (1 : Int32)), .val (.ref b2), .val (.ref b16)] [(.int (1 : Int32)), (.ref b16)]))
    obtain ⟨cq85, kq85, q85a, q85b, q85c⟩ := isOf hZ e83 c75
    obtain ⟨_, _, ⟨T85, L85, k85, n85⟩, -, X85, ⟨Lc85, hQ85, l85, y85, z85⟩, st85⟩ := X83.virtualBack hx (y := (⟨"com/example/same_bytes/samebytes/NodeIds", "get", "(I)I"⟩ : MethodName)) (z := (⟨"com/example/same_bytes/samebytes/NodeIds", "get", "(I)I"⟩ : MethodName)) hown (mvT hZ (hw _ (List.mem_of_getElem? (i := 35) rfl))) (mvT hZ (hw _ (List.mem_of_getElem? (i := 36) rfl))) (notFace_of_selects (args := #[]) (mvT hZ (hw _ (List.mem_of_getElem? (i := 38) rfl)))) (mvT hZ (hw _ (List.mem_of_getElem? (i := 38) rfl))) (mvT hZ (hw _ (List.mem_of_getElem? (i := 37) rfl))) (by decide) (backOf (W := 0) (rm7 l Z a0 hw [] b16 (1 : Int32) bx21_x1 [p1, p2, p3, p4, (0 : Int32), (0 : Int32), (0 : Int32), (0 : Int32)] T73.heap n0 (Nat.le_trans Z0 K73.1) w73_0 c78 (own_inb (by decide) (Nat.le_of_ble_eq_true rfl) : own_Inb (1 : Int32) [p1, p2, p3, p4, (0 : Int32), (0 : Int32), (0 : Int32), (0 : Int32)].length)) hZ (hw _ (List.mem_of_getElem? (i := 39) rfl)) (hw _ (List.mem_of_getElem? (i := 4) rfl)) (by decide) (by decide)) q85a q85c (g := (mkF m 107 #[.val (.int p1), .val (.int p2), .val (.int p3), .val (.int p4), .val (.int p5), .val (.int (1 : Int32)), .val (.ref b2), .val (.ref b16)] [(.int (1 : Int32)), (.ref b16)])) rfl (by rw [hml]; rfl) (Steps.refl _) (argsL := [(.int (1 : Int32))]) (rest := []) (lenOf pd_0_3 rfl) rfl (by show 2 * 0 + _ ≤ _; exact Nat.le_of_eq rfl) (hb hby at_107) (fun _ _ => ⟨rfl, e83, (by decide : 3 + 0 ≤ _), (by decide : 14 + 0 ≤ _)⟩)
    dsimp only [Pt.U, Pt.locs, Pt.cells, Pt.slots] at X85 l85 y85 z85 st85 hQ85
    subst l85 y85 z85
    obtain ⟨rfl, N85q, e85⟩ := hQ85
    have N85 := Fr.app N83 N85q
    refine own_step (fun t k => st85.trans k) ?_
    show own_G p.tables e below _ (T85.setTop (mkF m 110 #[.val (.int p1), .val (.int p2), .val (.int p3), .val (.int p4), .val (.int p5), .val (.int (1 : Int32)), .val (.ref b2), .val (.ref b16)] [(.int p2)]))
    refine own_step (fun t k => XS.aload X85.here hx rfl (hb hby at_110) rfl rfl k) ?_
    show own_G p.tables e below _ (T85.setTop (mkF m 112 #[.val (.int p1), .val (.int p2), .val (.int p3), .val (.int p4), .val (.int p5), .val (.int (1 : Int32)), .val (.ref b2), .val (.ref b16)] [(.ref b2), (.int p2)]))
    refine own_step (fun t k => XS.iload X85.here hx rfl (hb hby at_112) rfl k) ?_
    show own_G p.tables e below _ (T85.setTop (mkF m 114 #[.val (.int p1), .val (.int p2), .val (.int p3), .val (.int p4), .val (.int p5), .val (.int (1 : Int32)), .val (.ref b2), .val (.ref b16)] [(.int (1 : Int32)), (.ref b2), (.int p2)]))
    refine own_step (fun t k => XS.iconst X85.here hx rfl (hb hby at_114) k) ?_
    show own_G p.tables e below _ (T85.setTop (mkF m 115 #[.val (.int p1), .val (.int p2), .val (.int p3), .val (.int p4), .val (.int p5), .val (.int (1 : Int32)), .val (.ref b2), .val (.ref b16)] [(.int (1 : Int32)), (.int (1 : Int32)), (.ref b2), (.int p2)]))
    obtain ⟨_, _, ⟨T86, L86, k86, n86⟩, -, X86, ⟨Lc86, hQ86, l86, y86, z86⟩, st86⟩ := Jvm.LawKit.callS X85 hx (y := (⟨"com/example/same_bytes/samebytes/NodeIdsReversePinLaw", "expect", "([III)I"⟩ : MethodName)) hown (mvT hZ (hw _ (List.mem_of_getElem? (i := 40) rfl))) (mvT hZ (hw _ (List.mem_of_getElem? (i := 41) rfl))) (mvT hZ (hw _ (List.mem_of_getElem? (i := 42) rfl))) (mvT hZ (hw _ (List.mem_of_getElem? (i := 43) rfl))) (by decide) (backOf (W := 1) (rm8_e1_1 l Z a0 hw [] b2 p1 p2 p3 p4 T73.heap n0 (Nat.le_trans Z0 K73.1) c74) hZ (hw _ (List.mem_of_getElem? (i := 43) rfl)) (hw _ (List.mem_of_getElem? (i := 42) rfl)) (by decide) (by decide)) (g := (mkF m 115 #[.val (.int p1), .val (.int p2), .val (.int p3), .val (.int p4), .val (.int p5), .val (.int (1 : Int32)), .val (.ref b2), .val (.ref b16)] [(.int (1 : Int32)), (.int (1 : Int32)), (.ref b2), (.int p2)])) rfl (by rw [hml]; rfl) (argsL := [(.ref b2), (.int (1 : Int32)), (.int (1 : Int32))]) (rest := [(.int p2)]) (lenOf pd_0_4 rfl) rfl (by show 2 * 0 + _ ≤ _; exact Nat.le_of_eq rfl) (hb hby at_115) (fun _ _ => ⟨rfl, e85, (by decide : 3 + 0 ≤ _), (by decide : 14 + 0 ≤ _)⟩)
    dsimp only [Pt.U, Pt.locs, Pt.cells, Pt.slots] at X86 l86 y86 z86 st86 hQ86
    subst l86 y86 z86
    obtain ⟨rfl, N86q, e86⟩ := hQ86
    have N86 := Fr.app N85 N86q
    refine own_step st86 ?_
    show own_G p.tables e below _ (T86.setTop (mkF m 118 #[.val (.int p1), .val (.int p2), .val (.int p3), .val (.int p4), .val (.int p5), .val (.int (1 : Int32)), .val (.ref b2), .val (.ref b16)] [(.int p2), (.int p2)]))
    have hk87 : p2 = p2 := rfl
    refine own_step (fun t k => XS.icmpNo X86.here hx rfl (hb hby at_118) rfl ((teq hk87).2) k) ?_
    show own_G p.tables e below _ (T86.setTop (mkF m 121 #[.val (.int p1), .val (.int p2), .val (.int p3), .val (.int p4), .val (.int p5), .val (.int (1 : Int32)), .val (.ref b2), .val (.ref b16)] []))
    refine own_step (fun t k => XS.aload X86.here hx rfl (hb hby at_121) rfl rfl k) ?_
    show own_G p.tables e below _ (T86.setTop (mkF m 123 #[.val (.int p1), .val (.int p2), .val (.int p3), .val (.int p4), .val (.int p5), .val (.int (1 : Int32)), .val (.ref b2), .val (.ref b16)] [(.ref b16)]))
    refine own_step (fun t k => XS.iconst X86.here hx rfl (hb hby at_123) k) ?_
    show own_G p.tables e below _ (T86.setTop (mkF m 124 #[.val (.int p1), .val (.int p2), .val (.int p3), .val (.int p4), .val (.int p5), .val (.int (1 : Int32)), .val (.ref b2), .val (.ref b16)] [(.int (2 : Int32)), (.ref b16)]))
    obtain ⟨cq88, kq88, q88a, q88b, q88c⟩ := isOf hZ e86 c75
    obtain ⟨_, _, ⟨T88, L88, k88, n88⟩, -, X88, ⟨Lc88, hQ88, l88, y88, z88⟩, st88⟩ := X86.virtualBack hx (y := (⟨"com/example/same_bytes/samebytes/NodeIds", "get", "(I)I"⟩ : MethodName)) (z := (⟨"com/example/same_bytes/samebytes/NodeIds", "get", "(I)I"⟩ : MethodName)) hown (mvT hZ (hw _ (List.mem_of_getElem? (i := 35) rfl))) (mvT hZ (hw _ (List.mem_of_getElem? (i := 36) rfl))) (notFace_of_selects (args := #[]) (mvT hZ (hw _ (List.mem_of_getElem? (i := 38) rfl)))) (mvT hZ (hw _ (List.mem_of_getElem? (i := 38) rfl))) (mvT hZ (hw _ (List.mem_of_getElem? (i := 37) rfl))) (by decide) (backOf (W := 0) (rm7 l Z a0 hw [] b16 (2 : Int32) bx21_x1 [p1, p2, p3, p4, (0 : Int32), (0 : Int32), (0 : Int32), (0 : Int32)] T73.heap n0 (Nat.le_trans Z0 K73.1) w73_0 c78 (own_inb (by decide) (Nat.le_of_ble_eq_true rfl) : own_Inb (2 : Int32) [p1, p2, p3, p4, (0 : Int32), (0 : Int32), (0 : Int32), (0 : Int32)].length)) hZ (hw _ (List.mem_of_getElem? (i := 39) rfl)) (hw _ (List.mem_of_getElem? (i := 4) rfl)) (by decide) (by decide)) q88a q88c (g := (mkF m 124 #[.val (.int p1), .val (.int p2), .val (.int p3), .val (.int p4), .val (.int p5), .val (.int (1 : Int32)), .val (.ref b2), .val (.ref b16)] [(.int (2 : Int32)), (.ref b16)])) rfl (by rw [hml]; rfl) (Steps.refl _) (argsL := [(.int (2 : Int32))]) (rest := []) (lenOf pd_0_3 rfl) rfl (by show 2 * 0 + _ ≤ _; exact Nat.le_of_eq rfl) (hb hby at_124) (fun _ _ => ⟨rfl, e86, (by decide : 3 + 0 ≤ _), (by decide : 14 + 0 ≤ _)⟩)
    dsimp only [Pt.U, Pt.locs, Pt.cells, Pt.slots] at X88 l88 y88 z88 st88 hQ88
    subst l88 y88 z88
    obtain ⟨rfl, N88q, e88⟩ := hQ88
    have N88 := Fr.app N86 N88q
    refine own_step (fun t k => st88.trans k) ?_
    show own_G p.tables e below _ (T88.setTop (mkF m 127 #[.val (.int p1), .val (.int p2), .val (.int p3), .val (.int p4), .val (.int p5), .val (.int (1 : Int32)), .val (.ref b2), .val (.ref b16)] [(.int p3)]))
    refine own_step (fun t k => XS.aload X88.here hx rfl (hb hby at_127) rfl rfl k) ?_
    show own_G p.tables e below _ (T88.setTop (mkF m 129 #[.val (.int p1), .val (.int p2), .val (.int p3), .val (.int p4), .val (.int p5), .val (.int (1 : Int32)), .val (.ref b2), .val (.ref b16)] [(.ref b2), (.int p3)]))
    refine own_step (fun t k => XS.iload X88.here hx rfl (hb hby at_129) rfl k) ?_
    show own_G p.tables e below _ (T88.setTop (mkF m 131 #[.val (.int p1), .val (.int p2), .val (.int p3), .val (.int p4), .val (.int p5), .val (.int (1 : Int32)), .val (.ref b2), .val (.ref b16)] [(.int (1 : Int32)), (.ref b2), (.int p3)]))
    refine own_step (fun t k => XS.iconst X88.here hx rfl (hb hby at_131) k) ?_
    show own_G p.tables e below _ (T88.setTop (mkF m 132 #[.val (.int p1), .val (.int p2), .val (.int p3), .val (.int p4), .val (.int p5), .val (.int (1 : Int32)), .val (.ref b2), .val (.ref b16)] [(.int (2 : Int32)), (.int (1 : Int32)), (.ref b2), (.int p3)]))
    obtain ⟨_, _, ⟨T89, L89, k89, n89⟩, -, X89, ⟨Lc89, hQ89, l89, y89, z89⟩, st89⟩ := Jvm.LawKit.callS X88 hx (y := (⟨"com/example/same_bytes/samebytes/NodeIdsReversePinLaw", "expect", "([III)I"⟩ : MethodName)) hown (mvT hZ (hw _ (List.mem_of_getElem? (i := 40) rfl))) (mvT hZ (hw _ (List.mem_of_getElem? (i := 41) rfl))) (mvT hZ (hw _ (List.mem_of_getElem? (i := 42) rfl))) (mvT hZ (hw _ (List.mem_of_getElem? (i := 43) rfl))) (by decide) (backOf (W := 1) (rm8_e1_2 l Z a0 hw [] b2 p1 p2 p3 p4 T73.heap n0 (Nat.le_trans Z0 K73.1) c74) hZ (hw _ (List.mem_of_getElem? (i := 43) rfl)) (hw _ (List.mem_of_getElem? (i := 42) rfl)) (by decide) (by decide)) (g := (mkF m 132 #[.val (.int p1), .val (.int p2), .val (.int p3), .val (.int p4), .val (.int p5), .val (.int (1 : Int32)), .val (.ref b2), .val (.ref b16)] [(.int (2 : Int32)), (.int (1 : Int32)), (.ref b2), (.int p3)])) rfl (by rw [hml]; rfl) (argsL := [(.ref b2), (.int (1 : Int32)), (.int (2 : Int32))]) (rest := [(.int p3)]) (lenOf pd_0_4 rfl) rfl (by show 2 * 0 + _ ≤ _; exact Nat.le_of_eq rfl) (hb hby at_132) (fun _ _ => ⟨rfl, e88, (by decide : 3 + 0 ≤ _), (by decide : 14 + 0 ≤ _)⟩)
    dsimp only [Pt.U, Pt.locs, Pt.cells, Pt.slots] at X89 l89 y89 z89 st89 hQ89
    subst l89 y89 z89
    obtain ⟨rfl, N89q, e89⟩ := hQ89
    have N89 := Fr.app N88 N89q
    refine own_step st89 ?_
    show own_G p.tables e below _ (T89.setTop (mkF m 135 #[.val (.int p1), .val (.int p2), .val (.int p3), .val (.int p4), .val (.int p5), .val (.int (1 : Int32)), .val (.ref b2), .val (.ref b16)] [(.int p3), (.int p3)]))
    have hk90 : p3 = p3 := rfl
    refine own_step (fun t k => XS.icmpNo X89.here hx rfl (hb hby at_135) rfl ((teq hk90).2) k) ?_
    show own_G p.tables e below _ (T89.setTop (mkF m 138 #[.val (.int p1), .val (.int p2), .val (.int p3), .val (.int p4), .val (.int p5), .val (.int (1 : Int32)), .val (.ref b2), .val (.ref b16)] []))
    refine own_step (fun t k => XS.aload X89.here hx rfl (hb hby at_138) rfl rfl k) ?_
    show own_G p.tables e below _ (T89.setTop (mkF m 140 #[.val (.int p1), .val (.int p2), .val (.int p3), .val (.int p4), .val (.int p5), .val (.int (1 : Int32)), .val (.ref b2), .val (.ref b16)] [(.ref b16)]))
    refine own_step (fun t k => XS.iconst X89.here hx rfl (hb hby at_140) k) ?_
    show own_G p.tables e below _ (T89.setTop (mkF m 141 #[.val (.int p1), .val (.int p2), .val (.int p3), .val (.int p4), .val (.int p5), .val (.int (1 : Int32)), .val (.ref b2), .val (.ref b16)] [(.int (3 : Int32)), (.ref b16)]))
    obtain ⟨cq91, kq91, q91a, q91b, q91c⟩ := isOf hZ e89 c75
    obtain ⟨_, _, ⟨T91, L91, k91, n91⟩, -, X91, ⟨Lc91, hQ91, l91, y91, z91⟩, st91⟩ := X89.virtualBack hx (y := (⟨"com/example/same_bytes/samebytes/NodeIds", "get", "(I)I"⟩ : MethodName)) (z := (⟨"com/example/same_bytes/samebytes/NodeIds", "get", "(I)I"⟩ : MethodName)) hown (mvT hZ (hw _ (List.mem_of_getElem? (i := 35) rfl))) (mvT hZ (hw _ (List.mem_of_getElem? (i := 36) rfl))) (notFace_of_selects (args := #[]) (mvT hZ (hw _ (List.mem_of_getElem? (i := 38) rfl)))) (mvT hZ (hw _ (List.mem_of_getElem? (i := 38) rfl))) (mvT hZ (hw _ (List.mem_of_getElem? (i := 37) rfl))) (by decide) (backOf (W := 0) (rm7 l Z a0 hw [] b16 (3 : Int32) bx21_x1 [p1, p2, p3, p4, (0 : Int32), (0 : Int32), (0 : Int32), (0 : Int32)] T73.heap n0 (Nat.le_trans Z0 K73.1) w73_0 c78 (own_inb (by decide) (Nat.le_of_ble_eq_true rfl) : own_Inb (3 : Int32) [p1, p2, p3, p4, (0 : Int32), (0 : Int32), (0 : Int32), (0 : Int32)].length)) hZ (hw _ (List.mem_of_getElem? (i := 39) rfl)) (hw _ (List.mem_of_getElem? (i := 4) rfl)) (by decide) (by decide)) q91a q91c (g := (mkF m 141 #[.val (.int p1), .val (.int p2), .val (.int p3), .val (.int p4), .val (.int p5), .val (.int (1 : Int32)), .val (.ref b2), .val (.ref b16)] [(.int (3 : Int32)), (.ref b16)])) rfl (by rw [hml]; rfl) (Steps.refl _) (argsL := [(.int (3 : Int32))]) (rest := []) (lenOf pd_0_3 rfl) rfl (by show 2 * 0 + _ ≤ _; exact Nat.le_of_eq rfl) (hb hby at_141) (fun _ _ => ⟨rfl, e89, (by decide : 3 + 0 ≤ _), (by decide : 14 + 0 ≤ _)⟩)
    dsimp only [Pt.U, Pt.locs, Pt.cells, Pt.slots] at X91 l91 y91 z91 st91 hQ91
    subst l91 y91 z91
    obtain ⟨rfl, N91q, e91⟩ := hQ91
    have N91 := Fr.app N89 N91q
    refine own_step (fun t k => st91.trans k) ?_
    show own_G p.tables e below _ (T91.setTop (mkF m 144 #[.val (.int p1), .val (.int p2), .val (.int p3), .val (.int p4), .val (.int p5), .val (.int (1 : Int32)), .val (.ref b2), .val (.ref b16)] [(.int p4)]))
    refine own_step (fun t k => XS.aload X91.here hx rfl (hb hby at_144) rfl rfl k) ?_
    show own_G p.tables e below _ (T91.setTop (mkF m 146 #[.val (.int p1), .val (.int p2), .val (.int p3), .val (.int p4), .val (.int p5), .val (.int (1 : Int32)), .val (.ref b2), .val (.ref b16)] [(.ref b2), (.int p4)]))
    refine own_step (fun t k => XS.iload X91.here hx rfl (hb hby at_146) rfl k) ?_
    show own_G p.tables e below _ (T91.setTop (mkF m 148 #[.val (.int p1), .val (.int p2), .val (.int p3), .val (.int p4), .val (.int p5), .val (.int (1 : Int32)), .val (.ref b2), .val (.ref b16)] [(.int (1 : Int32)), (.ref b2), (.int p4)]))
    refine own_step (fun t k => XS.iconst X91.here hx rfl (hb hby at_148) k) ?_
    show own_G p.tables e below _ (T91.setTop (mkF m 149 #[.val (.int p1), .val (.int p2), .val (.int p3), .val (.int p4), .val (.int p5), .val (.int (1 : Int32)), .val (.ref b2), .val (.ref b16)] [(.int (3 : Int32)), (.int (1 : Int32)), (.ref b2), (.int p4)]))
    obtain ⟨_, _, ⟨T92, L92, k92, n92⟩, -, X92, ⟨Lc92, hQ92, l92, y92, z92⟩, st92⟩ := Jvm.LawKit.callS X91 hx (y := (⟨"com/example/same_bytes/samebytes/NodeIdsReversePinLaw", "expect", "([III)I"⟩ : MethodName)) hown (mvT hZ (hw _ (List.mem_of_getElem? (i := 40) rfl))) (mvT hZ (hw _ (List.mem_of_getElem? (i := 41) rfl))) (mvT hZ (hw _ (List.mem_of_getElem? (i := 42) rfl))) (mvT hZ (hw _ (List.mem_of_getElem? (i := 43) rfl))) (by decide) (backOf (W := 1) (rm8_e1_3 l Z a0 hw [] b2 p1 p2 p3 p4 T73.heap n0 (Nat.le_trans Z0 K73.1) c74) hZ (hw _ (List.mem_of_getElem? (i := 43) rfl)) (hw _ (List.mem_of_getElem? (i := 42) rfl)) (by decide) (by decide)) (g := (mkF m 149 #[.val (.int p1), .val (.int p2), .val (.int p3), .val (.int p4), .val (.int p5), .val (.int (1 : Int32)), .val (.ref b2), .val (.ref b16)] [(.int (3 : Int32)), (.int (1 : Int32)), (.ref b2), (.int p4)])) rfl (by rw [hml]; rfl) (argsL := [(.ref b2), (.int (1 : Int32)), (.int (3 : Int32))]) (rest := [(.int p4)]) (lenOf pd_0_4 rfl) rfl (by show 2 * 0 + _ ≤ _; exact Nat.le_of_eq rfl) (hb hby at_149) (fun _ _ => ⟨rfl, e91, (by decide : 3 + 0 ≤ _), (by decide : 14 + 0 ≤ _)⟩)
    dsimp only [Pt.U, Pt.locs, Pt.cells, Pt.slots] at X92 l92 y92 z92 st92 hQ92
    subst l92 y92 z92
    obtain ⟨rfl, N92q, e92⟩ := hQ92
    have N92 := Fr.app N91 N92q
    refine own_step st92 ?_
    show own_G p.tables e below _ (T92.setTop (mkF m 152 #[.val (.int p1), .val (.int p2), .val (.int p3), .val (.int p4), .val (.int p5), .val (.int (1 : Int32)), .val (.ref b2), .val (.ref b16)] [(.int p4), (.int p4)]))
    have hk93 : p4 = p4 := rfl
    refine own_step (fun t k => XS.icmpNo X92.here hx rfl (hb hby at_152) rfl ((teq hk93).2) k) ?_
    show own_G p.tables e below _ (T92.setTop (mkF m 155 #[.val (.int p1), .val (.int p2), .val (.int p3), .val (.int p4), .val (.int p5), .val (.int (1 : Int32)), .val (.ref b2), .val (.ref b16)] []))
    refine own_step (fun t k => XS.iconst X92.here hx rfl (hb hby at_155) k) ?_
    show own_G p.tables e below _ (T92.setTop (mkF m 156 #[.val (.int p1), .val (.int p2), .val (.int p3), .val (.int p4), .val (.int p5), .val (.int (1 : Int32)), .val (.ref b2), .val (.ref b16)] [(.int (1 : Int32))]))
    refine own_step (fun t k => XS.goto X92.here hx rfl (pc0 := 156) (pc' := 160) rfl (hb hby at_156) (by decide) (by decide) k) ?_
    show own_G p.tables e below _ (T92.setTop (mkF m 160 #[.val (.int p1), .val (.int p2), .val (.int p3), .val (.int p4), .val (.int p5), .val (.int (1 : Int32)), .val (.ref b2), .val (.ref b16)] [(.int (1 : Int32))]))
    obtain ⟨fs, hr, hrun, hended, hW, hsame⟩ := X92.leave (v := some (.int (1 : Int32))) (fun h => by rw [Bd.returns] at h; cases h)
    refine own_done (retN X92 hx (t := .boolean) Bd.returns (by simp) (hb hby at_160) hr) hrun hended ⟨_, _, rfl, ?_, ⟨_, rfl⟩, hW, hsame.mono (by decide) (by decide)⟩
    show Q0 Z p1 p2 p3 p4 p5 h0 n0 _ T92.heap _
    rw [e92]
    exact ⟨rfl, N92⟩
  · skip
    show own_G p.tables e below _ (T46.setTop (mkF m 63 #[.val (.int p1), .val (.int p2), .val (.int p3), .val (.int p4), .val (.int p5), .val (.int (2 : Int32)), .val (.ref b2), .val (.ref b16)] []))
    refine own_step (fun t k => XS.aload X46.here hx rfl (hb hby at_63) rfl rfl k) ?_
    show own_G p.tables e below _ (T46.setTop (mkF m 65 #[.val (.int p1), .val (.int p2), .val (.int p3), .val (.int p4), .val (.int p5), .val (.int (2 : Int32)), .val (.ref b2), .val (.ref b16)] [(.ref b16)]))
    refine own_step (fun t k => XS.iload X46.here hx rfl (hb hby at_65) rfl k) ?_
    show own_G p.tables e below _ (T46.setTop (mkF m 67 #[.val (.int p1), .val (.int p2), .val (.int p3), .val (.int p4), .val (.int p5), .val (.int (2 : Int32)), .val (.ref b2), .val (.ref b16)] [(.int (2 : Int32)), (.ref b16)]))
    obtain ⟨cq94, kq94, q94a, q94b, q94c⟩ := isOf hZ rfl c48
    obtain ⟨_, _, ⟨T94, L94, k94, n94⟩, -, X94, ⟨Lc94, hQ94, l94, y94, z94⟩, st94⟩ := X46.virtualBack hx (y := (⟨"com/example/same_bytes/samebytes/NodeIds", "truncate", "(I)V"⟩ : MethodName)) (z := (⟨"com/example/same_bytes/samebytes/NodeIds", "truncate", "(I)V"⟩ : MethodName)) hown (mvT hZ (hw _ (List.mem_of_getElem? (i := 20) rfl))) (mvT hZ (hw _ (List.mem_of_getElem? (i := 21) rfl))) (notFace_of_selects (args := #[]) (mvT hZ (hw _ (List.mem_of_getElem? (i := 23) rfl)))) (mvT hZ (hw _ (List.mem_of_getElem? (i := 23) rfl))) (mvT hZ (hw _ (List.mem_of_getElem? (i := 22) rfl))) (by decide) (backOf (W := 0) (rm4 l Z a0 hw [] b16 (2 : Int32) (.ref bx21_x1) (.int (4 : Int32)) T46.heap n0 (Nat.le_trans Z0 K46.1) c48 w46_1 w46_0 ge16) hZ (hw _ (List.mem_of_getElem? (i := 24) rfl)) (hw _ (List.mem_of_getElem? (i := 4) rfl)) (by decide) (by decide)) q94a q94c (g := (mkF m 67 #[.val (.int p1), .val (.int p2), .val (.int p3), .val (.int p4), .val (.int p5), .val (.int (2 : Int32)), .val (.ref b2), .val (.ref b16)] [(.int (2 : Int32)), (.ref b16)])) rfl (by rw [hml]; rfl) (Steps.refl _) (argsL := [(.int (2 : Int32))]) (rest := []) (lenOf pd_0_1 rfl) rfl (by show 2 * 0 + _ ≤ _; exact Nat.le_of_eq rfl) (hb hby at_67) (fun _ _ => ⟨rfl, rfl, (by decide : 3 + 0 ≤ _), (by decide : 14 + 0 ≤ _)⟩)
    dsimp only [Pt.U, Pt.locs, Pt.cells, Pt.slots] at X94 l94 y94 z94 st94 hQ94
    subst l94 y94 z94
    obtain ⟨rfl, N94q, K94q, w94_0, w94_1⟩ := hQ94
    have c95 : own_Ari Z T94.heap b2 .int [p1, p2, p3, p4] := c47.keep K94q (ninS ne17 nin0)
    have c96 : Exa Z T94.heap b16 "com/example/same_bytes/samebytes/NodeIds" := c48.keep K94q
    have c99 : own_Ari Z T94.heap bx21_x1 .int [p1, p2, p3, p4, (0 : Int32), (0 : Int32), (0 : Int32), (0 : Int32)] := w46_2.keep K94q (ninS (Ne.symm ne27) nin0)
    have K94 : Keep h0 T94.heap [] := K46.trans K94q (allS (Or.inr sz16) all0)
    have N94 := Fr.app N46 N94q
    refine own_step (fun t k => st94.trans k) ?_
    show own_G p.tables e below _ (T94.setTop (mkF m 70 #[.val (.int p1), .val (.int p2), .val (.int p3), .val (.int p4), .val (.int p5), .val (.int (2 : Int32)), .val (.ref b2), .val (.ref b16)] []))
    refine own_step (fun t k => XS.aload X94.here hx rfl (hb hby at_70) rfl rfl k) ?_
    show own_G p.tables e below _ (T94.setTop (mkF m 72 #[.val (.int p1), .val (.int p2), .val (.int p3), .val (.int p4), .val (.int p5), .val (.int (2 : Int32)), .val (.ref b2), .val (.ref b16)] [(.ref b16)]))
    obtain ⟨cq100, kq100, q100a, q100b, q100c⟩ := isOf hZ rfl c96
    obtain ⟨_, _, ⟨T100, L100, k100, n100⟩, -, X100, ⟨Lc100, hQ100, l100, y100, z100⟩, st100⟩ := X94.virtualBack hx (y := (⟨"com/example/same_bytes/samebytes/NodeIds", "reverse", "()V"⟩ : MethodName)) (z := (⟨"com/example/same_bytes/samebytes/NodeIds", "reverse", "()V"⟩ : MethodName)) hown (mvT hZ (hw _ (List.mem_of_getElem? (i := 25) rfl))) (mvT hZ (hw _ (List.mem_of_getElem? (i := 26) rfl))) (notFace_of_selects (args := #[]) (mvT hZ (hw _ (List.mem_of_getElem? (i := 28) rfl)))) (mvT hZ (hw _ (List.mem_of_getElem? (i := 28) rfl))) (mvT hZ (hw _ (List.mem_of_getElem? (i := 27) rfl))) (by decide) (backOf (W := 0) (rm5_s2 l Z a0 hw [] b16 bx21_x1 p1 p2 p3 p4 (0 : Int32) (0 : Int32) (0 : Int32) (0 : Int32) T94.heap n0 (Nat.le_trans Z0 K94.1) c96 w94_1 w94_0 c99 ge21_0 ne27) hZ (hw _ (List.mem_of_getElem? (i := 29) rfl)) (hw _ (List.mem_of_getElem? (i := 4) rfl)) (by decide) (by decide)) q100a q100c (g := (mkF m 72 #[.val (.int p1), .val (.int p2), .val (.int p3), .val (.int p4), .val (.int p5), .val (.int (2 : Int32)), .val (.ref b2), .val (.ref b16)] [(.ref b16)])) rfl (by rw [hml]; rfl) (Steps.refl _) (argsL := []) (rest := []) (lenOf pd_0_0 rfl) rfl (by show 2 * 0 + _ ≤ _; exact Nat.le_of_eq rfl) (hb hby at_72) (fun _ _ => ⟨rfl, rfl, (by decide : 3 + 0 ≤ _), (by decide : 14 + 0 ≤ _)⟩)
    dsimp only [Pt.U, Pt.locs, Pt.cells, Pt.slots] at X100 l100 y100 z100 st100 hQ100
    subst l100 y100 z100
    obtain ⟨rfl, N100q, K100q, w100_0⟩ := hQ100
    have c101 : own_Ari Z T100.heap b2 .int [p1, p2, p3, p4] := c95.keep K100q (ninS ne26 nin0)
    have c102 : Exa Z T100.heap b16 "com/example/same_bytes/samebytes/NodeIds" := c96.keep K100q
    have c104 : Fld Z T100.heap b16 "com/example/same_bytes/samebytes/NodeIds" "ids" "[I" (.ref bx21_x1) := w94_0.keep K100q (ninS ne27 nin0)
    have c105 : Fld Z T100.heap b16 "com/example/same_bytes/samebytes/NodeIds" "size" "I" (.int (2 : Int32)) := w94_1.keep K100q (ninS ne27 nin0)
    have K100 : Keep h0 T100.heap [] := K94.trans K100q (allS (Or.inr sz21_0) all0)
    have N100 := Fr.app N94 N100q
    refine own_step (fun t k => st100.trans k) ?_
    show own_G p.tables e below _ (T100.setTop (mkF m 75 #[.val (.int p1), .val (.int p2), .val (.int p3), .val (.int p4), .val (.int p5), .val (.int (2 : Int32)), .val (.ref b2), .val (.ref b16)] []))
    refine own_step (fun t k => XS.aload X100.here hx rfl (hb hby at_75) rfl rfl k) ?_
    show own_G p.tables e below _ (T100.setTop (mkF m 77 #[.val (.int p1), .val (.int p2), .val (.int p3), .val (.int p4), .val (.int p5), .val (.int (2 : Int32)), .val (.ref b2), .val (.ref b16)] [(.ref b16)]))
    obtain ⟨cq106, kq106, q106a, q106b, q106c⟩ := isOf hZ rfl c102
    obtain ⟨_, _, ⟨T106, L106, k106, n106⟩, -, X106, ⟨Lc106, hQ106, l106, y106, z106⟩, st106⟩ := X100.virtualBack hx (y := (⟨"com/example/same_bytes/samebytes/NodeIds", "size", "()I"⟩ : MethodName)) (z := (⟨"com/example/same_bytes/samebytes/NodeIds", "size", "()I"⟩ : MethodName)) hown (mvT hZ (hw _ (List.mem_of_getElem? (i := 30) rfl))) (mvT hZ (hw _ (List.mem_of_getElem? (i := 31) rfl))) (notFace_of_selects (args := #[]) (mvT hZ (hw _ (List.mem_of_getElem? (i := 33) rfl)))) (mvT hZ (hw _ (List.mem_of_getElem? (i := 33) rfl))) (mvT hZ (hw _ (List.mem_of_getElem? (i := 32) rfl))) (by decide) (backOf (W := 0) (rm6 l Z a0 hw [] b16 (2 : Int32) T100.heap n0 (Nat.le_trans Z0 K100.1) c105) hZ (hw _ (List.mem_of_getElem? (i := 34) rfl)) (hw _ (List.mem_of_getElem? (i := 4) rfl)) (by decide) (by decide)) q106a q106c (g := (mkF m 77 #[.val (.int p1), .val (.int p2), .val (.int p3), .val (.int p4), .val (.int p5), .val (.int (2 : Int32)), .val (.ref b2), .val (.ref b16)] [(.ref b16)])) rfl (by rw [hml]; rfl) (Steps.refl _) (argsL := []) (rest := []) (lenOf pd_0_2 rfl) rfl (by show 2 * 0 + _ ≤ _; exact Nat.le_of_eq rfl) (hb hby at_77) (fun _ _ => ⟨rfl, rfl, (by decide : 3 + 0 ≤ _), (by decide : 14 + 0 ≤ _)⟩)
    dsimp only [Pt.U, Pt.locs, Pt.cells, Pt.slots] at X106 l106 y106 z106 st106 hQ106
    subst l106 y106 z106
    obtain ⟨rfl, N106q, e106⟩ := hQ106
    have N106 := Fr.app N100 N106q
    refine own_step (fun t k => st106.trans k) ?_
    show own_G p.tables e below _ (T106.setTop (mkF m 80 #[.val (.int p1), .val (.int p2), .val (.int p3), .val (.int p4), .val (.int p5), .val (.int (2 : Int32)), .val (.ref b2), .val (.ref b16)] [(.int (2 : Int32))]))
    refine own_step (fun t k => XS.iload X106.here hx rfl (hb hby at_80) rfl k) ?_
    show own_G p.tables e below _ (T106.setTop (mkF m 82 #[.val (.int p1), .val (.int p2), .val (.int p3), .val (.int p4), .val (.int p5), .val (.int (2 : Int32)), .val (.ref b2), .val (.ref b16)] [(.int (2 : Int32)), (.int (2 : Int32))]))
    have hk107 : (2 : Int32) = (2 : Int32) := rfl
    refine own_step (fun t k => XS.icmpYes X106.here hx rfl (pc0 := 82) (pc' := 87) rfl (hb hby at_82) rfl ((teq hk107).1) (by decide) (by decide) k) ?_
    show own_G p.tables e below _ (T106.setTop (mkF m 87 #[.val (.int p1), .val (.int p2), .val (.int p3), .val (.int p4), .val (.int p5), .val (.int (2 : Int32)), .val (.ref b2), .val (.ref b16)] []))
    refine own_step (fun t k => XS.aload X106.here hx rfl (hb hby at_87) rfl rfl k) ?_
    show own_G p.tables e below _ (T106.setTop (mkF m 89 #[.val (.int p1), .val (.int p2), .val (.int p3), .val (.int p4), .val (.int p5), .val (.int (2 : Int32)), .val (.ref b2), .val (.ref b16)] [(.ref b16)]))
    refine own_step (fun t k => XS.iconst X106.here hx rfl (hb hby at_89) k) ?_
    show own_G p.tables e below _ (T106.setTop (mkF m 90 #[.val (.int p1), .val (.int p2), .val (.int p3), .val (.int p4), .val (.int p5), .val (.int (2 : Int32)), .val (.ref b2), .val (.ref b16)] [(.int (0 : Int32)), (.ref b16)]))
    obtain ⟨cq108, kq108, q108a, q108b, q108c⟩ := isOf hZ e106 c102
    obtain ⟨_, _, ⟨T108, L108, k108, n108⟩, -, X108, ⟨Lc108, hQ108, l108, y108, z108⟩, st108⟩ := X106.virtualBack hx (y := (⟨"com/example/same_bytes/samebytes/NodeIds", "get", "(I)I"⟩ : MethodName)) (z := (⟨"com/example/same_bytes/samebytes/NodeIds", "get", "(I)I"⟩ : MethodName)) hown (mvT hZ (hw _ (List.mem_of_getElem? (i := 35) rfl))) (mvT hZ (hw _ (List.mem_of_getElem? (i := 36) rfl))) (notFace_of_selects (args := #[]) (mvT hZ (hw _ (List.mem_of_getElem? (i := 38) rfl)))) (mvT hZ (hw _ (List.mem_of_getElem? (i := 38) rfl))) (mvT hZ (hw _ (List.mem_of_getElem? (i := 37) rfl))) (by decide) (backOf (W := 0) (rm7 l Z a0 hw [] b16 (0 : Int32) bx21_x1 [p2, p1, p3, p4, (0 : Int32), (0 : Int32), (0 : Int32), (0 : Int32)] T100.heap n0 (Nat.le_trans Z0 K100.1) c104 w100_0 (own_inb (by decide) (Nat.le_of_ble_eq_true rfl) : own_Inb (0 : Int32) [p2, p1, p3, p4, (0 : Int32), (0 : Int32), (0 : Int32), (0 : Int32)].length)) hZ (hw _ (List.mem_of_getElem? (i := 39) rfl)) (hw _ (List.mem_of_getElem? (i := 4) rfl)) (by decide) (by decide)) q108a q108c (g := (mkF m 90 #[.val (.int p1), .val (.int p2), .val (.int p3), .val (.int p4), .val (.int p5), .val (.int (2 : Int32)), .val (.ref b2), .val (.ref b16)] [(.int (0 : Int32)), (.ref b16)])) rfl (by rw [hml]; rfl) (Steps.refl _) (argsL := [(.int (0 : Int32))]) (rest := []) (lenOf pd_0_3 rfl) rfl (by show 2 * 0 + _ ≤ _; exact Nat.le_of_eq rfl) (hb hby at_90) (fun _ _ => ⟨rfl, e106, (by decide : 3 + 0 ≤ _), (by decide : 14 + 0 ≤ _)⟩)
    dsimp only [Pt.U, Pt.locs, Pt.cells, Pt.slots] at X108 l108 y108 z108 st108 hQ108
    subst l108 y108 z108
    obtain ⟨rfl, N108q, e108⟩ := hQ108
    have N108 := Fr.app N106 N108q
    refine own_step (fun t k => st108.trans k) ?_
    show own_G p.tables e below _ (T108.setTop (mkF m 93 #[.val (.int p1), .val (.int p2), .val (.int p3), .val (.int p4), .val (.int p5), .val (.int (2 : Int32)), .val (.ref b2), .val (.ref b16)] [(.int p2)]))
    refine own_step (fun t k => XS.aload X108.here hx rfl (hb hby at_93) rfl rfl k) ?_
    show own_G p.tables e below _ (T108.setTop (mkF m 95 #[.val (.int p1), .val (.int p2), .val (.int p3), .val (.int p4), .val (.int p5), .val (.int (2 : Int32)), .val (.ref b2), .val (.ref b16)] [(.ref b2), (.int p2)]))
    refine own_step (fun t k => XS.iload X108.here hx rfl (hb hby at_95) rfl k) ?_
    show own_G p.tables e below _ (T108.setTop (mkF m 97 #[.val (.int p1), .val (.int p2), .val (.int p3), .val (.int p4), .val (.int p5), .val (.int (2 : Int32)), .val (.ref b2), .val (.ref b16)] [(.int (2 : Int32)), (.ref b2), (.int p2)]))
    refine own_step (fun t k => XS.iconst X108.here hx rfl (hb hby at_97) k) ?_
    show own_G p.tables e below _ (T108.setTop (mkF m 98 #[.val (.int p1), .val (.int p2), .val (.int p3), .val (.int p4), .val (.int p5), .val (.int (2 : Int32)), .val (.ref b2), .val (.ref b16)] [(.int (0 : Int32)), (.int (2 : Int32)), (.ref b2), (.int p2)]))
    obtain ⟨_, _, ⟨T109, L109, k109, n109⟩, -, X109, ⟨Lc109, hQ109, l109, y109, z109⟩, st109⟩ := Jvm.LawKit.callS X108 hx (y := (⟨"com/example/same_bytes/samebytes/NodeIdsReversePinLaw", "expect", "([III)I"⟩ : MethodName)) hown (mvT hZ (hw _ (List.mem_of_getElem? (i := 40) rfl))) (mvT hZ (hw _ (List.mem_of_getElem? (i := 41) rfl))) (mvT hZ (hw _ (List.mem_of_getElem? (i := 42) rfl))) (mvT hZ (hw _ (List.mem_of_getElem? (i := 43) rfl))) (by decide) (backOf (W := 1) (rm8_e2_0 l Z a0 hw [] b2 p1 p2 p3 p4 T100.heap n0 (Nat.le_trans Z0 K100.1) c101) hZ (hw _ (List.mem_of_getElem? (i := 43) rfl)) (hw _ (List.mem_of_getElem? (i := 42) rfl)) (by decide) (by decide)) (g := (mkF m 98 #[.val (.int p1), .val (.int p2), .val (.int p3), .val (.int p4), .val (.int p5), .val (.int (2 : Int32)), .val (.ref b2), .val (.ref b16)] [(.int (0 : Int32)), (.int (2 : Int32)), (.ref b2), (.int p2)])) rfl (by rw [hml]; rfl) (argsL := [(.ref b2), (.int (2 : Int32)), (.int (0 : Int32))]) (rest := [(.int p2)]) (lenOf pd_0_4 rfl) rfl (by show 2 * 0 + _ ≤ _; exact Nat.le_of_eq rfl) (hb hby at_98) (fun _ _ => ⟨rfl, e108, (by decide : 3 + 0 ≤ _), (by decide : 14 + 0 ≤ _)⟩)
    dsimp only [Pt.U, Pt.locs, Pt.cells, Pt.slots] at X109 l109 y109 z109 st109 hQ109
    subst l109 y109 z109
    obtain ⟨rfl, N109q, e109⟩ := hQ109
    have N109 := Fr.app N108 N109q
    refine own_step st109 ?_
    show own_G p.tables e below _ (T109.setTop (mkF m 101 #[.val (.int p1), .val (.int p2), .val (.int p3), .val (.int p4), .val (.int p5), .val (.int (2 : Int32)), .val (.ref b2), .val (.ref b16)] [(.int p2), (.int p2)]))
    have hk110 : p2 = p2 := rfl
    refine own_step (fun t k => XS.icmpNo X109.here hx rfl (hb hby at_101) rfl ((teq hk110).2) k) ?_
    show own_G p.tables e below _ (T109.setTop (mkF m 104 #[.val (.int p1), .val (.int p2), .val (.int p3), .val (.int p4), .val (.int p5), .val (.int (2 : Int32)), .val (.ref b2), .val (.ref b16)] []))
    refine own_step (fun t k => XS.aload X109.here hx rfl (hb hby at_104) rfl rfl k) ?_
    show own_G p.tables e below _ (T109.setTop (mkF m 106 #[.val (.int p1), .val (.int p2), .val (.int p3), .val (.int p4), .val (.int p5), .val (.int (2 : Int32)), .val (.ref b2), .val (.ref b16)] [(.ref b16)]))
    refine own_step (fun t k => XS.iconst X109.here hx rfl (hb hby at_106) k) ?_
    show own_G p.tables e below _ (T109.setTop (mkF m 107 #[.val (.int p1), .val (.int p2), .val (.int p3), .val (.int p4), .val (.int p5), .val (.int (2 : Int32)), .val (.ref b2), .val (.ref b16)] [(.int (1 : Int32)), (.ref b16)]))
    obtain ⟨cq111, kq111, q111a, q111b, q111c⟩ := isOf hZ e109 c102
    obtain ⟨_, _, ⟨T111, L111, k111, n111⟩, -, X111, ⟨Lc111, hQ111, l111, y111, z111⟩, st111⟩ := X109.virtualBack hx (y := (⟨"com/example/same_bytes/samebytes/NodeIds", "get", "(I)I"⟩ : MethodName)) (z := (⟨"com/example/same_bytes/samebytes/NodeIds", "get", "(I)I"⟩ : MethodName)) hown (mvT hZ (hw _ (List.mem_of_getElem? (i := 35) rfl))) (mvT hZ (hw _ (List.mem_of_getElem? (i := 36) rfl))) (notFace_of_selects (args := #[]) (mvT hZ (hw _ (List.mem_of_getElem? (i := 38) rfl)))) (mvT hZ (hw _ (List.mem_of_getElem? (i := 38) rfl))) (mvT hZ (hw _ (List.mem_of_getElem? (i := 37) rfl))) (by decide) (backOf (W := 0) (rm7 l Z a0 hw [] b16 (1 : Int32) bx21_x1 [p2, p1, p3, p4, (0 : Int32), (0 : Int32), (0 : Int32), (0 : Int32)] T100.heap n0 (Nat.le_trans Z0 K100.1) c104 w100_0 (own_inb (by decide) (Nat.le_of_ble_eq_true rfl) : own_Inb (1 : Int32) [p2, p1, p3, p4, (0 : Int32), (0 : Int32), (0 : Int32), (0 : Int32)].length)) hZ (hw _ (List.mem_of_getElem? (i := 39) rfl)) (hw _ (List.mem_of_getElem? (i := 4) rfl)) (by decide) (by decide)) q111a q111c (g := (mkF m 107 #[.val (.int p1), .val (.int p2), .val (.int p3), .val (.int p4), .val (.int p5), .val (.int (2 : Int32)), .val (.ref b2), .val (.ref b16)] [(.int (1 : Int32)), (.ref b16)])) rfl (by rw [hml]; rfl) (Steps.refl _) (argsL := [(.int (1 : Int32))]) (rest := []) (lenOf pd_0_3 rfl) rfl (by show 2 * 0 + _ ≤ _; exact Nat.le_of_eq rfl) (hb hby at_107) (fun _ _ => ⟨rfl, e109, (by decide : 3 + 0 ≤ _), (by decide : 14 + 0 ≤ _)⟩)
    dsimp only [Pt.U, Pt.locs, Pt.cells, Pt.slots] at X111 l111 y111 z111 st111 hQ111
    subst l111 y111 z111
    obtain ⟨rfl, N111q, e111⟩ := hQ111
    have N111 := Fr.app N109 N111q
    refine own_step (fun t k => st111.trans k) ?_
    show own_G p.tables e below _ (T111.setTop (mkF m 110 #[.val (.int p1), .val (.int p2), .val (.int p3), .val (.int p4), .val (.int p5), .val (.int (2 : Int32)), .val (.ref b2), .val (.ref b16)] [(.int p1)]))
    refine own_step (fun t k => XS.aload X111.here hx rfl (hb hby at_110) rfl rfl k) ?_
    show own_G p.tables e below _ (T111.setTop (mkF m 112 #[.val (.int p1), .val (.int p2), .val (.int p3), .val (.int p4), .val (.int p5), .val (.int (2 : Int32)), .val (.ref b2), .val (.ref b16)] [(.ref b2), (.int p1)]))
    refine own_step (fun t k => XS.iload X111.here hx rfl (hb hby at_112) rfl k) ?_
    show own_G p.tables e below _ (T111.setTop (mkF m 114 #[.val (.int p1), .val (.int p2), .val (.int p3), .val (.int p4), .val (.int p5), .val (.int (2 : Int32)), .val (.ref b2), .val (.ref b16)] [(.int (2 : Int32)), (.ref b2), (.int p1)]))
    refine own_step (fun t k => XS.iconst X111.here hx rfl (hb hby at_114) k) ?_
    show own_G p.tables e below _ (T111.setTop (mkF m 115 #[.val (.int p1), .val (.int p2), .val (.int p3), .val (.int p4), .val (.int p5), .val (.int (2 : Int32)), .val (.ref b2), .val (.ref b16)] [(.int (1 : Int32)), (.int (2 : Int32)), (.ref b2), (.int p1)]))
    obtain ⟨_, _, ⟨T112, L112, k112, n112⟩, -, X112, ⟨Lc112, hQ112, l112, y112, z112⟩, st112⟩ := Jvm.LawKit.callS X111 hx (y := (⟨"com/example/same_bytes/samebytes/NodeIdsReversePinLaw", "expect", "([III)I"⟩ : MethodName)) hown (mvT hZ (hw _ (List.mem_of_getElem? (i := 40) rfl))) (mvT hZ (hw _ (List.mem_of_getElem? (i := 41) rfl))) (mvT hZ (hw _ (List.mem_of_getElem? (i := 42) rfl))) (mvT hZ (hw _ (List.mem_of_getElem? (i := 43) rfl))) (by decide) (backOf (W := 1) (rm8_e2_1 l Z a0 hw [] b2 p1 p2 p3 p4 T100.heap n0 (Nat.le_trans Z0 K100.1) c101) hZ (hw _ (List.mem_of_getElem? (i := 43) rfl)) (hw _ (List.mem_of_getElem? (i := 42) rfl)) (by decide) (by decide)) (g := (mkF m 115 #[.val (.int p1), .val (.int p2), .val (.int p3), .val (.int p4), .val (.int p5), .val (.int (2 : Int32)), .val (.ref b2), .val (.ref b16)] [(.int (1 : Int32)), (.int (2 : Int32)), (.ref b2), (.int p1)])) rfl (by rw [hml]; rfl) (argsL := [(.ref b2), (.int (2 : Int32)), (.int (1 : Int32))]) (rest := [(.int p1)]) (lenOf pd_0_4 rfl) rfl (by show 2 * 0 + _ ≤ _; exact Nat.le_of_eq rfl) (hb hby at_115) (fun _ _ => ⟨rfl, e111, (by decide : 3 + 0 ≤ _), (by decide : 14 + 0 ≤ _)⟩)
    dsimp only [Pt.U, Pt.locs, Pt.cells, Pt.slots] at X112 l112 y112 z112 st112 hQ112
    subst l112 y112 z112
    obtain ⟨rfl, N112q, e112⟩ := hQ112
    have N112 := Fr.app N111 N112q
    refine own_step st112 ?_
    show own_G p.tables e below _ (T112.setTop (mkF m 118 #[.val (.int p1), .val (.int p2), .val (.int p3), .val (.int p4), .val (.int p5), .val (.int (2 : Int32)), .val (.ref b2), .val (.ref b16)] [(.int p1), (.int p1)]))
    have hk113 : p1 = p1 := rfl
    refine own_step (fun t k => XS.icmpNo X112.here hx rfl (hb hby at_118) rfl ((teq hk113).2) k) ?_
    show own_G p.tables e below _ (T112.setTop (mkF m 121 #[.val (.int p1), .val (.int p2), .val (.int p3), .val (.int p4), .val (.int p5), .val (.int (2 : Int32)), .val (.ref b2), .val (.ref b16)] []))
    refine own_step (fun t k => XS.aload X112.here hx rfl (hb hby at_121) rfl rfl k) ?_
    show own_G p.tables e below _ (T112.setTop (mkF m 123 #[.val (.int p1), .val (.int p2), .val (.int p3), .val (.int p4), .val (.int p5), .val (.int (2 : Int32)), .val (.ref b2), .val (.ref b16)] [(.ref b16)]))
    refine own_step (fun t k => XS.iconst X112.here hx rfl (hb hby at_123) k) ?_
    show own_G p.tables e below _ (T112.setTop (mkF m 124 #[.val (.int p1), .val (.int p2), .val (.int p3), .val (.int p4), .val (.int p5), .val (.int (2 : Int32)), .val (.ref b2), .val (.ref b16)] [(.int (2 : Int32)), (.ref b16)]))
    obtain ⟨cq114, kq114, q114a, q114b, q114c⟩ := isOf hZ e112 c102
    obtain ⟨_, _, ⟨T114, L114, k114, n114⟩, -, X114, ⟨Lc114, hQ114, l114, y114, z114⟩, st114⟩ := X112.virtualBack hx (y := (⟨"com/example/same_bytes/samebytes/NodeIds", "get", "(I)I"⟩ : MethodName)) (z := (⟨"com/example/same_bytes/samebytes/NodeIds", "get", "(I)I"⟩ : MethodName)) hown (mvT hZ (hw _ (List.mem_of_getElem? (i := 35) rfl))) (mvT hZ (hw _ (List.mem_of_getElem? (i := 36) rfl))) (notFace_of_selects (args := #[]) (mvT hZ (hw _ (List.mem_of_getElem? (i := 38) rfl)))) (mvT hZ (hw _ (List.mem_of_getElem? (i := 38) rfl))) (mvT hZ (hw _ (List.mem_of_getElem? (i := 37) rfl))) (by decide) (backOf (W := 0) (rm7 l Z a0 hw [] b16 (2 : Int32) bx21_x1 [p2, p1, p3, p4, (0 : Int32), (0 : Int32), (0 : Int32), (0 : Int32)] T100.heap n0 (Nat.le_trans Z0 K100.1) c104 w100_0 (own_inb (by decide) (Nat.le_of_ble_eq_true rfl) : own_Inb (2 : Int32) [p2, p1, p3, p4, (0 : Int32), (0 : Int32), (0 : Int32), (0 : Int32)].length)) hZ (hw _ (List.mem_of_getElem? (i := 39) rfl)) (hw _ (List.mem_of_getElem? (i := 4) rfl)) (by decide) (by decide)) q114a q114c (g := (mkF m 124 #[.val (.int p1), .val (.int p2), .val (.int p3), .val (.int p4), .val (.int p5), .val (.int (2 : Int32)), .val (.ref b2), .val (.ref b16)] [(.int (2 : Int32)), (.ref b16)])) rfl (by rw [hml]; rfl) (Steps.refl _) (argsL := [(.int (2 : Int32))]) (rest := []) (lenOf pd_0_3 rfl) rfl (by show 2 * 0 + _ ≤ _; exact Nat.le_of_eq rfl) (hb hby at_124) (fun _ _ => ⟨rfl, e112, (by decide : 3 + 0 ≤ _), (by decide : 14 + 0 ≤ _)⟩)
    dsimp only [Pt.U, Pt.locs, Pt.cells, Pt.slots] at X114 l114 y114 z114 st114 hQ114
    subst l114 y114 z114
    obtain ⟨rfl, N114q, e114⟩ := hQ114
    have N114 := Fr.app N112 N114q
    refine own_step (fun t k => st114.trans k) ?_
    show own_G p.tables e below _ (T114.setTop (mkF m 127 #[.val (.int p1), .val (.int p2), .val (.int p3), .val (.int p4), .val (.int p5), .val (.int (2 : Int32)), .val (.ref b2), .val (.ref b16)] [(.int p3)]))
    refine own_step (fun t k => XS.aload X114.here hx rfl (hb hby at_127) rfl rfl k) ?_
    show own_G p.tables e below _ (T114.setTop (mkF m 129 #[.val (.int p1), .val (.int p2), .val (.int p3), .val (.int p4), .val (.int p5), .val (.int (2 : Int32)), .val (.ref b2), .val (.ref b16)] [(.ref b2), (.int p3)]))
    refine own_step (fun t k => XS.iload X114.here hx rfl (hb hby at_129) rfl k) ?_
    show own_G p.tables e below _ (T114.setTop (mkF m 131 #[.val (.int p1), .val (.int p2), .val (.int p3), .val (.int p4), .val (.int p5), .val (.int (2 : Int32)), .val (.ref b2), .val (.ref b16)] [(.int (2 : Int32)), (.ref b2), (.int p3)]))
    refine own_step (fun t k => XS.iconst X114.here hx rfl (hb hby at_131) k) ?_
    show own_G p.tables e below _ (T114.setTop (mkF m 132 #[.val (.int p1), .val (.int p2), .val (.int p3), .val (.int p4), .val (.int p5), .val (.int (2 : Int32)), .val (.ref b2), .val (.ref b16)] [(.int (2 : Int32)), (.int (2 : Int32)), (.ref b2), (.int p3)]))
    obtain ⟨_, _, ⟨T115, L115, k115, n115⟩, -, X115, ⟨Lc115, hQ115, l115, y115, z115⟩, st115⟩ := Jvm.LawKit.callS X114 hx (y := (⟨"com/example/same_bytes/samebytes/NodeIdsReversePinLaw", "expect", "([III)I"⟩ : MethodName)) hown (mvT hZ (hw _ (List.mem_of_getElem? (i := 40) rfl))) (mvT hZ (hw _ (List.mem_of_getElem? (i := 41) rfl))) (mvT hZ (hw _ (List.mem_of_getElem? (i := 42) rfl))) (mvT hZ (hw _ (List.mem_of_getElem? (i := 43) rfl))) (by decide) (backOf (W := 1) (rm8_e2_2 l Z a0 hw [] b2 p1 p2 p3 p4 T100.heap n0 (Nat.le_trans Z0 K100.1) c101) hZ (hw _ (List.mem_of_getElem? (i := 43) rfl)) (hw _ (List.mem_of_getElem? (i := 42) rfl)) (by decide) (by decide)) (g := (mkF m 132 #[.val (.int p1), .val (.int p2), .val (.int p3), .val (.int p4), .val (.int p5), .val (.int (2 : Int32)), .val (.ref b2), .val (.ref b16)] [(.int (2 : Int32)), (.int (2 : Int32)), (.ref b2), (.int p3)])) rfl (by rw [hml]; rfl) (argsL := [(.ref b2), (.int (2 : Int32)), (.int (2 : Int32))]) (rest := [(.int p3)]) (lenOf pd_0_4 rfl) rfl (by show 2 * 0 + _ ≤ _; exact Nat.le_of_eq rfl) (hb hby at_132) (fun _ _ => ⟨rfl, e114, (by decide : 3 + 0 ≤ _), (by decide : 14 + 0 ≤ _)⟩)
    dsimp only [Pt.U, Pt.locs, Pt.cells, Pt.slots] at X115 l115 y115 z115 st115 hQ115
    subst l115 y115 z115
    obtain ⟨rfl, N115q, e115⟩ := hQ115
    have N115 := Fr.app N114 N115q
    refine own_step st115 ?_
    show own_G p.tables e below _ (T115.setTop (mkF m 135 #[.val (.int p1), .val (.int p2), .val (.int p3), .val (.int p4), .val (.int p5), .val (.int (2 : Int32)), .val (.ref b2), .val (.ref b16)] [(.int p3), (.int p3)]))
    have hk116 : p3 = p3 := rfl
    refine own_step (fun t k => XS.icmpNo X115.here hx rfl (hb hby at_135) rfl ((teq hk116).2) k) ?_
    show own_G p.tables e below _ (T115.setTop (mkF m 138 #[.val (.int p1), .val (.int p2), .val (.int p3), .val (.int p4), .val (.int p5), .val (.int (2 : Int32)), .val (.ref b2), .val (.ref b16)] []))
    refine own_step (fun t k => XS.aload X115.here hx rfl (hb hby at_138) rfl rfl k) ?_
    show own_G p.tables e below _ (T115.setTop (mkF m 140 #[.val (.int p1), .val (.int p2), .val (.int p3), .val (.int p4), .val (.int p5), .val (.int (2 : Int32)), .val (.ref b2), .val (.ref b16)] [(.ref b16)]))
    refine own_step (fun t k => XS.iconst X115.here hx rfl (hb hby at_140) k) ?_
    show own_G p.tables e below _ (T115.setTop (mkF m 141 #[.val (.int p1), .val (.int p2), .val (.int p3), .val (.int p4), .val (.int p5), .val (.int (2 : Int32)), .val (.ref b2), .val (.ref b16)] [(.int (3 : Int32)), (.ref b16)]))
    obtain ⟨cq117, kq117, q117a, q117b, q117c⟩ := isOf hZ e115 c102
    obtain ⟨_, _, ⟨T117, L117, k117, n117⟩, -, X117, ⟨Lc117, hQ117, l117, y117, z117⟩, st117⟩ := X115.virtualBack hx (y := (⟨"com/example/same_bytes/samebytes/NodeIds", "get", "(I)I"⟩ : MethodName)) (z := (⟨"com/example/same_bytes/samebytes/NodeIds", "get", "(I)I"⟩ : MethodName)) hown (mvT hZ (hw _ (List.mem_of_getElem? (i := 35) rfl))) (mvT hZ (hw _ (List.mem_of_getElem? (i := 36) rfl))) (notFace_of_selects (args := #[]) (mvT hZ (hw _ (List.mem_of_getElem? (i := 38) rfl)))) (mvT hZ (hw _ (List.mem_of_getElem? (i := 38) rfl))) (mvT hZ (hw _ (List.mem_of_getElem? (i := 37) rfl))) (by decide) (backOf (W := 0) (rm7 l Z a0 hw [] b16 (3 : Int32) bx21_x1 [p2, p1, p3, p4, (0 : Int32), (0 : Int32), (0 : Int32), (0 : Int32)] T100.heap n0 (Nat.le_trans Z0 K100.1) c104 w100_0 (own_inb (by decide) (Nat.le_of_ble_eq_true rfl) : own_Inb (3 : Int32) [p2, p1, p3, p4, (0 : Int32), (0 : Int32), (0 : Int32), (0 : Int32)].length)) hZ (hw _ (List.mem_of_getElem? (i := 39) rfl)) (hw _ (List.mem_of_getElem? (i := 4) rfl)) (by decide) (by decide)) q117a q117c (g := (mkF m 141 #[.val (.int p1), .val (.int p2), .val (.int p3), .val (.int p4), .val (.int p5), .val (.int (2 : Int32)), .val (.ref b2), .val (.ref b16)] [(.int (3 : Int32)), (.ref b16)])) rfl (by rw [hml]; rfl) (Steps.refl _) (argsL := [(.int (3 : Int32))]) (rest := []) (lenOf pd_0_3 rfl) rfl (by show 2 * 0 + _ ≤ _; exact Nat.le_of_eq rfl) (hb hby at_141) (fun _ _ => ⟨rfl, e115, (by decide : 3 + 0 ≤ _), (by decide : 14 + 0 ≤ _)⟩)
    dsimp only [Pt.U, Pt.locs, Pt.cells, Pt.slots] at X117 l117 y117 z117 st117 hQ117
    subst l117 y117 z117
    obtain ⟨rfl, N117q, e117⟩ := hQ117
    have N117 := Fr.app N115 N117q
    refine own_step (fun t k => st117.trans k) ?_
    show own_G p.tables e below _ (T117.setTop (mkF m 144 #[.val (.int p1), .val (.int p2), .val (.int p3), .val (.int p4), .val (.int p5), .val (.int (2 : Int32)), .val (.ref b2), .val (.ref b16)] [(.int p4)]))
    refine own_step (fun t k => XS.aload X117.here hx rfl (hb hby at_144) rfl rfl k) ?_
    show own_G p.tables e below _ (T117.setTop (mkF m 146 #[.val (.int p1), .val (.int p2), .val (.int p3), .val (.int p4), .val (.int p5), .val (.int (2 : Int32)), .val (.ref b2), .val (.ref b16)] [(.ref b2), (.int p4)]))
    refine own_step (fun t k => XS.iload X117.here hx rfl (hb hby at_146) rfl k) ?_
    show own_G p.tables e below _ (T117.setTop (mkF m 148 #[.val (.int p1), .val (.int p2), .val (.int p3), .val (.int p4), .val (.int p5), .val (.int (2 : Int32)), .val (.ref b2), .val (.ref b16)] [(.int (2 : Int32)), (.ref b2), (.int p4)]))
    refine own_step (fun t k => XS.iconst X117.here hx rfl (hb hby at_148) k) ?_
    show own_G p.tables e below _ (T117.setTop (mkF m 149 #[.val (.int p1), .val (.int p2), .val (.int p3), .val (.int p4), .val (.int p5), .val (.int (2 : Int32)), .val (.ref b2), .val (.ref b16)] [(.int (3 : Int32)), (.int (2 : Int32)), (.ref b2), (.int p4)]))
    obtain ⟨_, _, ⟨T118, L118, k118, n118⟩, -, X118, ⟨Lc118, hQ118, l118, y118, z118⟩, st118⟩ := Jvm.LawKit.callS X117 hx (y := (⟨"com/example/same_bytes/samebytes/NodeIdsReversePinLaw", "expect", "([III)I"⟩ : MethodName)) hown (mvT hZ (hw _ (List.mem_of_getElem? (i := 40) rfl))) (mvT hZ (hw _ (List.mem_of_getElem? (i := 41) rfl))) (mvT hZ (hw _ (List.mem_of_getElem? (i := 42) rfl))) (mvT hZ (hw _ (List.mem_of_getElem? (i := 43) rfl))) (by decide) (backOf (W := 1) (rm8_e2_3 l Z a0 hw [] b2 p1 p2 p3 p4 T100.heap n0 (Nat.le_trans Z0 K100.1) c101) hZ (hw _ (List.mem_of_getElem? (i := 43) rfl)) (hw _ (List.mem_of_getElem? (i := 42) rfl)) (by decide) (by decide)) (g := (mkF m 149 #[.val (.int p1), .val (.int p2), .val (.int p3), .val (.int p4), .val (.int p5), .val (.int (2 : Int32)), .val (.ref b2), .val (.ref b16)] [(.int (3 : Int32)), (.int (2 : Int32)), (.ref b2), (.int p4)])) rfl (by rw [hml]; rfl) (argsL := [(.ref b2), (.int (2 : Int32)), (.int (3 : Int32))]) (rest := [(.int p4)]) (lenOf pd_0_4 rfl) rfl (by show 2 * 0 + _ ≤ _; exact Nat.le_of_eq rfl) (hb hby at_149) (fun _ _ => ⟨rfl, e117, (by decide : 3 + 0 ≤ _), (by decide : 14 + 0 ≤ _)⟩)
    dsimp only [Pt.U, Pt.locs, Pt.cells, Pt.slots] at X118 l118 y118 z118 st118 hQ118
    subst l118 y118 z118
    obtain ⟨rfl, N118q, e118⟩ := hQ118
    have N118 := Fr.app N117 N118q
    refine own_step st118 ?_
    show own_G p.tables e below _ (T118.setTop (mkF m 152 #[.val (.int p1), .val (.int p2), .val (.int p3), .val (.int p4), .val (.int p5), .val (.int (2 : Int32)), .val (.ref b2), .val (.ref b16)] [(.int p4), (.int p4)]))
    have hk119 : p4 = p4 := rfl
    refine own_step (fun t k => XS.icmpNo X118.here hx rfl (hb hby at_152) rfl ((teq hk119).2) k) ?_
    show own_G p.tables e below _ (T118.setTop (mkF m 155 #[.val (.int p1), .val (.int p2), .val (.int p3), .val (.int p4), .val (.int p5), .val (.int (2 : Int32)), .val (.ref b2), .val (.ref b16)] []))
    refine own_step (fun t k => XS.iconst X118.here hx rfl (hb hby at_155) k) ?_
    show own_G p.tables e below _ (T118.setTop (mkF m 156 #[.val (.int p1), .val (.int p2), .val (.int p3), .val (.int p4), .val (.int p5), .val (.int (2 : Int32)), .val (.ref b2), .val (.ref b16)] [(.int (1 : Int32))]))
    refine own_step (fun t k => XS.goto X118.here hx rfl (pc0 := 156) (pc' := 160) rfl (hb hby at_156) (by decide) (by decide) k) ?_
    show own_G p.tables e below _ (T118.setTop (mkF m 160 #[.val (.int p1), .val (.int p2), .val (.int p3), .val (.int p4), .val (.int p5), .val (.int (2 : Int32)), .val (.ref b2), .val (.ref b16)] [(.int (1 : Int32))]))
    obtain ⟨fs, hr, hrun, hended, hW, hsame⟩ := X118.leave (v := some (.int (1 : Int32))) (fun h => by rw [Bd.returns] at h; cases h)
    refine own_done (retN X118 hx (t := .boolean) Bd.returns (by simp) (hb hby at_160) hr) hrun hended ⟨_, _, rfl, ?_, ⟨_, rfl⟩, hW, hsame.mono (by decide) (by decide)⟩
    show Q0 Z p1 p2 p3 p4 p5 h0 n0 _ T118.heap _
    rw [e118]
    exact ⟨rfl, N118⟩
  · skip
    show own_G p.tables e below _ (T46.setTop (mkF m 63 #[.val (.int p1), .val (.int p2), .val (.int p3), .val (.int p4), .val (.int p5), .val (.int (3 : Int32)), .val (.ref b2), .val (.ref b16)] []))
    refine own_step (fun t k => XS.aload X46.here hx rfl (hb hby at_63) rfl rfl k) ?_
    show own_G p.tables e below _ (T46.setTop (mkF m 65 #[.val (.int p1), .val (.int p2), .val (.int p3), .val (.int p4), .val (.int p5), .val (.int (3 : Int32)), .val (.ref b2), .val (.ref b16)] [(.ref b16)]))
    refine own_step (fun t k => XS.iload X46.here hx rfl (hb hby at_65) rfl k) ?_
    show own_G p.tables e below _ (T46.setTop (mkF m 67 #[.val (.int p1), .val (.int p2), .val (.int p3), .val (.int p4), .val (.int p5), .val (.int (3 : Int32)), .val (.ref b2), .val (.ref b16)] [(.int (3 : Int32)), (.ref b16)]))
    obtain ⟨cq120, kq120, q120a, q120b, q120c⟩ := isOf hZ rfl c48
    obtain ⟨_, _, ⟨T120, L120, k120, n120⟩, -, X120, ⟨Lc120, hQ120, l120, y120, z120⟩, st120⟩ := X46.virtualBack hx (y := (⟨"com/example/same_bytes/samebytes/NodeIds", "truncate", "(I)V"⟩ : MethodName)) (z := (⟨"com/example/same_bytes/samebytes/NodeIds", "truncate", "(I)V"⟩ : MethodName)) hown (mvT hZ (hw _ (List.mem_of_getElem? (i := 20) rfl))) (mvT hZ (hw _ (List.mem_of_getElem? (i := 21) rfl))) (notFace_of_selects (args := #[]) (mvT hZ (hw _ (List.mem_of_getElem? (i := 23) rfl)))) (mvT hZ (hw _ (List.mem_of_getElem? (i := 23) rfl))) (mvT hZ (hw _ (List.mem_of_getElem? (i := 22) rfl))) (by decide) (backOf (W := 0) (rm4 l Z a0 hw [] b16 (3 : Int32) (.ref bx21_x1) (.int (4 : Int32)) T46.heap n0 (Nat.le_trans Z0 K46.1) c48 w46_1 w46_0 ge16) hZ (hw _ (List.mem_of_getElem? (i := 24) rfl)) (hw _ (List.mem_of_getElem? (i := 4) rfl)) (by decide) (by decide)) q120a q120c (g := (mkF m 67 #[.val (.int p1), .val (.int p2), .val (.int p3), .val (.int p4), .val (.int p5), .val (.int (3 : Int32)), .val (.ref b2), .val (.ref b16)] [(.int (3 : Int32)), (.ref b16)])) rfl (by rw [hml]; rfl) (Steps.refl _) (argsL := [(.int (3 : Int32))]) (rest := []) (lenOf pd_0_1 rfl) rfl (by show 2 * 0 + _ ≤ _; exact Nat.le_of_eq rfl) (hb hby at_67) (fun _ _ => ⟨rfl, rfl, (by decide : 3 + 0 ≤ _), (by decide : 14 + 0 ≤ _)⟩)
    dsimp only [Pt.U, Pt.locs, Pt.cells, Pt.slots] at X120 l120 y120 z120 st120 hQ120
    subst l120 y120 z120
    obtain ⟨rfl, N120q, K120q, w120_0, w120_1⟩ := hQ120
    have c121 : own_Ari Z T120.heap b2 .int [p1, p2, p3, p4] := c47.keep K120q (ninS ne17 nin0)
    have c122 : Exa Z T120.heap b16 "com/example/same_bytes/samebytes/NodeIds" := c48.keep K120q
    have c125 : own_Ari Z T120.heap bx21_x1 .int [p1, p2, p3, p4, (0 : Int32), (0 : Int32), (0 : Int32), (0 : Int32)] := w46_2.keep K120q (ninS (Ne.symm ne27) nin0)
    have K120 : Keep h0 T120.heap [] := K46.trans K120q (allS (Or.inr sz16) all0)
    have N120 := Fr.app N46 N120q
    refine own_step (fun t k => st120.trans k) ?_
    show own_G p.tables e below _ (T120.setTop (mkF m 70 #[.val (.int p1), .val (.int p2), .val (.int p3), .val (.int p4), .val (.int p5), .val (.int (3 : Int32)), .val (.ref b2), .val (.ref b16)] []))
    refine own_step (fun t k => XS.aload X120.here hx rfl (hb hby at_70) rfl rfl k) ?_
    show own_G p.tables e below _ (T120.setTop (mkF m 72 #[.val (.int p1), .val (.int p2), .val (.int p3), .val (.int p4), .val (.int p5), .val (.int (3 : Int32)), .val (.ref b2), .val (.ref b16)] [(.ref b16)]))
    obtain ⟨cq126, kq126, q126a, q126b, q126c⟩ := isOf hZ rfl c122
    obtain ⟨_, _, ⟨T126, L126, k126, n126⟩, -, X126, ⟨Lc126, hQ126, l126, y126, z126⟩, st126⟩ := X120.virtualBack hx (y := (⟨"com/example/same_bytes/samebytes/NodeIds", "reverse", "()V"⟩ : MethodName)) (z := (⟨"com/example/same_bytes/samebytes/NodeIds", "reverse", "()V"⟩ : MethodName)) hown (mvT hZ (hw _ (List.mem_of_getElem? (i := 25) rfl))) (mvT hZ (hw _ (List.mem_of_getElem? (i := 26) rfl))) (notFace_of_selects (args := #[]) (mvT hZ (hw _ (List.mem_of_getElem? (i := 28) rfl)))) (mvT hZ (hw _ (List.mem_of_getElem? (i := 28) rfl))) (mvT hZ (hw _ (List.mem_of_getElem? (i := 27) rfl))) (by decide) (backOf (W := 0) (rm5_s3 l Z a0 hw [] b16 bx21_x1 p1 p2 p3 p4 (0 : Int32) (0 : Int32) (0 : Int32) (0 : Int32) T120.heap n0 (Nat.le_trans Z0 K120.1) c122 w120_1 w120_0 c125 ge21_0 ne27) hZ (hw _ (List.mem_of_getElem? (i := 29) rfl)) (hw _ (List.mem_of_getElem? (i := 4) rfl)) (by decide) (by decide)) q126a q126c (g := (mkF m 72 #[.val (.int p1), .val (.int p2), .val (.int p3), .val (.int p4), .val (.int p5), .val (.int (3 : Int32)), .val (.ref b2), .val (.ref b16)] [(.ref b16)])) rfl (by rw [hml]; rfl) (Steps.refl _) (argsL := []) (rest := []) (lenOf pd_0_0 rfl) rfl (by show 2 * 0 + _ ≤ _; exact Nat.le_of_eq rfl) (hb hby at_72) (fun _ _ => ⟨rfl, rfl, (by decide : 3 + 0 ≤ _), (by decide : 14 + 0 ≤ _)⟩)
    dsimp only [Pt.U, Pt.locs, Pt.cells, Pt.slots] at X126 l126 y126 z126 st126 hQ126
    subst l126 y126 z126
    obtain ⟨rfl, N126q, K126q, w126_0⟩ := hQ126
    have c127 : own_Ari Z T126.heap b2 .int [p1, p2, p3, p4] := c121.keep K126q (ninS ne26 nin0)
    have c128 : Exa Z T126.heap b16 "com/example/same_bytes/samebytes/NodeIds" := c122.keep K126q
    have c130 : Fld Z T126.heap b16 "com/example/same_bytes/samebytes/NodeIds" "ids" "[I" (.ref bx21_x1) := w120_0.keep K126q (ninS ne27 nin0)
    have c131 : Fld Z T126.heap b16 "com/example/same_bytes/samebytes/NodeIds" "size" "I" (.int (3 : Int32)) := w120_1.keep K126q (ninS ne27 nin0)
    have K126 : Keep h0 T126.heap [] := K120.trans K126q (allS (Or.inr sz21_0) all0)
    have N126 := Fr.app N120 N126q
    refine own_step (fun t k => st126.trans k) ?_
    show own_G p.tables e below _ (T126.setTop (mkF m 75 #[.val (.int p1), .val (.int p2), .val (.int p3), .val (.int p4), .val (.int p5), .val (.int (3 : Int32)), .val (.ref b2), .val (.ref b16)] []))
    refine own_step (fun t k => XS.aload X126.here hx rfl (hb hby at_75) rfl rfl k) ?_
    show own_G p.tables e below _ (T126.setTop (mkF m 77 #[.val (.int p1), .val (.int p2), .val (.int p3), .val (.int p4), .val (.int p5), .val (.int (3 : Int32)), .val (.ref b2), .val (.ref b16)] [(.ref b16)]))
    obtain ⟨cq132, kq132, q132a, q132b, q132c⟩ := isOf hZ rfl c128
    obtain ⟨_, _, ⟨T132, L132, k132, n132⟩, -, X132, ⟨Lc132, hQ132, l132, y132, z132⟩, st132⟩ := X126.virtualBack hx (y := (⟨"com/example/same_bytes/samebytes/NodeIds", "size", "()I"⟩ : MethodName)) (z := (⟨"com/example/same_bytes/samebytes/NodeIds", "size", "()I"⟩ : MethodName)) hown (mvT hZ (hw _ (List.mem_of_getElem? (i := 30) rfl))) (mvT hZ (hw _ (List.mem_of_getElem? (i := 31) rfl))) (notFace_of_selects (args := #[]) (mvT hZ (hw _ (List.mem_of_getElem? (i := 33) rfl)))) (mvT hZ (hw _ (List.mem_of_getElem? (i := 33) rfl))) (mvT hZ (hw _ (List.mem_of_getElem? (i := 32) rfl))) (by decide) (backOf (W := 0) (rm6 l Z a0 hw [] b16 (3 : Int32) T126.heap n0 (Nat.le_trans Z0 K126.1) c131) hZ (hw _ (List.mem_of_getElem? (i := 34) rfl)) (hw _ (List.mem_of_getElem? (i := 4) rfl)) (by decide) (by decide)) q132a q132c (g := (mkF m 77 #[.val (.int p1), .val (.int p2), .val (.int p3), .val (.int p4), .val (.int p5), .val (.int (3 : Int32)), .val (.ref b2), .val (.ref b16)] [(.ref b16)])) rfl (by rw [hml]; rfl) (Steps.refl _) (argsL := []) (rest := []) (lenOf pd_0_2 rfl) rfl (by show 2 * 0 + _ ≤ _; exact Nat.le_of_eq rfl) (hb hby at_77) (fun _ _ => ⟨rfl, rfl, (by decide : 3 + 0 ≤ _), (by decide : 14 + 0 ≤ _)⟩)
    dsimp only [Pt.U, Pt.locs, Pt.cells, Pt.slots] at X132 l132 y132 z132 st132 hQ132
    subst l132 y132 z132
    obtain ⟨rfl, N132q, e132⟩ := hQ132
    have N132 := Fr.app N126 N132q
    refine own_step (fun t k => st132.trans k) ?_
    show own_G p.tables e below _ (T132.setTop (mkF m 80 #[.val (.int p1), .val (.int p2), .val (.int p3), .val (.int p4), .val (.int p5), .val (.int (3 : Int32)), .val (.ref b2), .val (.ref b16)] [(.int (3 : Int32))]))
    refine own_step (fun t k => XS.iload X132.here hx rfl (hb hby at_80) rfl k) ?_
    show own_G p.tables e below _ (T132.setTop (mkF m 82 #[.val (.int p1), .val (.int p2), .val (.int p3), .val (.int p4), .val (.int p5), .val (.int (3 : Int32)), .val (.ref b2), .val (.ref b16)] [(.int (3 : Int32)), (.int (3 : Int32))]))
    have hk133 : (3 : Int32) = (3 : Int32) := rfl
    refine own_step (fun t k => XS.icmpYes X132.here hx rfl (pc0 := 82) (pc' := 87) rfl (hb hby at_82) rfl ((teq hk133).1) (by decide) (by decide) k) ?_
    show own_G p.tables e below _ (T132.setTop (mkF m 87 #[.val (.int p1), .val (.int p2), .val (.int p3), .val (.int p4), .val (.int p5), .val (.int (3 : Int32)), .val (.ref b2), .val (.ref b16)] []))
    refine own_step (fun t k => XS.aload X132.here hx rfl (hb hby at_87) rfl rfl k) ?_
    show own_G p.tables e below _ (T132.setTop (mkF m 89 #[.val (.int p1), .val (.int p2), .val (.int p3), .val (.int p4), .val (.int p5), .val (.int (3 : Int32)), .val (.ref b2), .val (.ref b16)] [(.ref b16)]))
    refine own_step (fun t k => XS.iconst X132.here hx rfl (hb hby at_89) k) ?_
    show own_G p.tables e below _ (T132.setTop (mkF m 90 #[.val (.int p1), .val (.int p2), .val (.int p3), .val (.int p4), .val (.int p5), .val (.int (3 : Int32)), .val (.ref b2), .val (.ref b16)] [(.int (0 : Int32)), (.ref b16)]))
    obtain ⟨cq134, kq134, q134a, q134b, q134c⟩ := isOf hZ e132 c128
    obtain ⟨_, _, ⟨T134, L134, k134, n134⟩, -, X134, ⟨Lc134, hQ134, l134, y134, z134⟩, st134⟩ := X132.virtualBack hx (y := (⟨"com/example/same_bytes/samebytes/NodeIds", "get", "(I)I"⟩ : MethodName)) (z := (⟨"com/example/same_bytes/samebytes/NodeIds", "get", "(I)I"⟩ : MethodName)) hown (mvT hZ (hw _ (List.mem_of_getElem? (i := 35) rfl))) (mvT hZ (hw _ (List.mem_of_getElem? (i := 36) rfl))) (notFace_of_selects (args := #[]) (mvT hZ (hw _ (List.mem_of_getElem? (i := 38) rfl)))) (mvT hZ (hw _ (List.mem_of_getElem? (i := 38) rfl))) (mvT hZ (hw _ (List.mem_of_getElem? (i := 37) rfl))) (by decide) (backOf (W := 0) (rm7 l Z a0 hw [] b16 (0 : Int32) bx21_x1 [p3, p2, p1, p4, (0 : Int32), (0 : Int32), (0 : Int32), (0 : Int32)] T126.heap n0 (Nat.le_trans Z0 K126.1) c130 w126_0 (own_inb (by decide) (Nat.le_of_ble_eq_true rfl) : own_Inb (0 : Int32) [p3, p2, p1, p4, (0 : Int32), (0 : Int32), (0 : Int32), (0 : Int32)].length)) hZ (hw _ (List.mem_of_getElem? (i := 39) rfl)) (hw _ (List.mem_of_getElem? (i := 4) rfl)) (by decide) (by decide)) q134a q134c (g := (mkF m 90 #[.val (.int p1), .val (.int p2), .val (.int p3), .val (.int p4), .val (.int p5), .val (.int (3 : Int32)), .val (.ref b2), .val (.ref b16)] [(.int (0 : Int32)), (.ref b16)])) rfl (by rw [hml]; rfl) (Steps.refl _) (argsL := [(.int (0 : Int32))]) (rest := []) (lenOf pd_0_3 rfl) rfl (by show 2 * 0 + _ ≤ _; exact Nat.le_of_eq rfl) (hb hby at_90) (fun _ _ => ⟨rfl, e132, (by decide : 3 + 0 ≤ _), (by decide : 14 + 0 ≤ _)⟩)
    dsimp only [Pt.U, Pt.locs, Pt.cells, Pt.slots] at X134 l134 y134 z134 st134 hQ134
    subst l134 y134 z134
    obtain ⟨rfl, N134q, e134⟩ := hQ134
    have N134 := Fr.app N132 N134q
    refine own_step (fun t k => st134.trans k) ?_
    show own_G p.tables e below _ (T134.setTop (mkF m 93 #[.val (.int p1), .val (.int p2), .val (.int p3), .val (.int p4), .val (.int p5), .val (.int (3 : Int32)), .val (.ref b2), .val (.ref b16)] [(.int p3)]))
    refine own_step (fun t k => XS.aload X134.here hx rfl (hb hby at_93) rfl rfl k) ?_
    show own_G p.tables e below _ (T134.setTop (mkF m 95 #[.val (.int p1), .val (.int p2), .val (.int p3), .val (.int p4), .val (.int p5), .val (.int (3 : Int32)), .val (.ref b2), .val (.ref b16)] [(.ref b2), (.int p3)]))
    refine own_step (fun t k => XS.iload X134.here hx rfl (hb hby at_95) rfl k) ?_
    show own_G p.tables e below _ (T134.setTop (mkF m 97 #[.val (.int p1), .val (.int p2), .val (.int p3), .val (.int p4), .val (.int p5), .val (.int (3 : Int32)), .val (.ref b2), .val (.ref b16)] [(.int (3 : Int32)), (.ref b2), (.int p3)]))
    refine own_step (fun t k => XS.iconst X134.here hx rfl (hb hby at_97) k) ?_
    show own_G p.tables e below _ (T134.setTop (mkF m 98 #[.val (.int p1), .val (.int p2), .val (.int p3), .val (.int p4), .val (.int p5), .val (.int (3 : Int32)), .val (.ref b2), .val (.ref b16)] [(.int (0 : Int32)), (.int (3 : Int32)), (.ref b2), (.int p3)]))
    obtain ⟨_, _, ⟨T135, L135, k135, n135⟩, -, X135, ⟨Lc135, hQ135, l135, y135, z135⟩, st135⟩ := Jvm.LawKit.callS X134 hx (y := (⟨"com/example/same_bytes/samebytes/NodeIdsReversePinLaw", "expect", "([III)I"⟩ : MethodName)) hown (mvT hZ (hw _ (List.mem_of_getElem? (i := 40) rfl))) (mvT hZ (hw _ (List.mem_of_getElem? (i := 41) rfl))) (mvT hZ (hw _ (List.mem_of_getElem? (i := 42) rfl))) (mvT hZ (hw _ (List.mem_of_getElem? (i := 43) rfl))) (by decide) (backOf (W := 1) (rm8_e3_0 l Z a0 hw [] b2 p1 p2 p3 p4 T126.heap n0 (Nat.le_trans Z0 K126.1) c127) hZ (hw _ (List.mem_of_getElem? (i := 43) rfl)) (hw _ (List.mem_of_getElem? (i := 42) rfl)) (by decide) (by decide)) (g := (mkF m 98 #[.val (.int p1), .val (.int p2), .val (.int p3), .val (.int p4), .val (.int p5), .val (.int (3 : Int32)), .val (.ref b2), .val (.ref b16)] [(.int (0 : Int32)), (.int (3 : Int32)), (.ref b2), (.int p3)])) rfl (by rw [hml]; rfl) (argsL := [(.ref b2), (.int (3 : Int32)), (.int (0 : Int32))]) (rest := [(.int p3)]) (lenOf pd_0_4 rfl) rfl (by show 2 * 0 + _ ≤ _; exact Nat.le_of_eq rfl) (hb hby at_98) (fun _ _ => ⟨rfl, e134, (by decide : 3 + 0 ≤ _), (by decide : 14 + 0 ≤ _)⟩)
    dsimp only [Pt.U, Pt.locs, Pt.cells, Pt.slots] at X135 l135 y135 z135 st135 hQ135
    subst l135 y135 z135
    obtain ⟨rfl, N135q, e135⟩ := hQ135
    have N135 := Fr.app N134 N135q
    refine own_step st135 ?_
    show own_G p.tables e below _ (T135.setTop (mkF m 101 #[.val (.int p1), .val (.int p2), .val (.int p3), .val (.int p4), .val (.int p5), .val (.int (3 : Int32)), .val (.ref b2), .val (.ref b16)] [(.int p3), (.int p3)]))
    have hk136 : p3 = p3 := rfl
    refine own_step (fun t k => XS.icmpNo X135.here hx rfl (hb hby at_101) rfl ((teq hk136).2) k) ?_
    show own_G p.tables e below _ (T135.setTop (mkF m 104 #[.val (.int p1), .val (.int p2), .val (.int p3), .val (.int p4), .val (.int p5), .val (.int (3 : Int32)), .val (.ref b2), .val (.ref b16)] []))
    refine own_step (fun t k => XS.aload X135.here hx rfl (hb hby at_104) rfl rfl k) ?_
    show own_G p.tables e below _ (T135.setTop (mkF m 106 #[.val (.int p1), .val (.int p2), .val (.int p3), .val (.int p4), .val (.int p5), .val (.int (3 : Int32)), .val (.ref b2), .val (.ref b16)] [(.ref b16)]))
    refine own_step (fun t k => XS.iconst X135.here hx rfl (hb hby at_106) k) ?_
    show own_G p.tables e below _ (T135.setTop (mkF m 107 #[.val (.int p1), .val (.int p2), .val (.int p3), .val (.int p4), .val (.int p5), .val (.int (3 : Int32)), .val (.ref b2), .val (.ref b16)] [(.int (1 : Int32)), (.ref b16)]))
    obtain ⟨cq137, kq137, q137a, q137b, q137c⟩ := isOf hZ e135 c128
    obtain ⟨_, _, ⟨T137, L137, k137, n137⟩, -, X137, ⟨Lc137, hQ137, l137, y137, z137⟩, st137⟩ := X135.virtualBack hx (y := (⟨"com/example/same_bytes/samebytes/NodeIds", "get", "(I)I"⟩ : MethodName)) (z := (⟨"com/example/same_bytes/samebytes/NodeIds", "get", "(I)I"⟩ : MethodName)) hown (mvT hZ (hw _ (List.mem_of_getElem? (i := 35) rfl))) (mvT hZ (hw _ (List.mem_of_getElem? (i := 36) rfl))) (notFace_of_selects (args := #[]) (mvT hZ (hw _ (List.mem_of_getElem? (i := 38) rfl)))) (mvT hZ (hw _ (List.mem_of_getElem? (i := 38) rfl))) (mvT hZ (hw _ (List.mem_of_getElem? (i := 37) rfl))) (by decide) (backOf (W := 0) (rm7 l Z a0 hw [] b16 (1 : Int32) bx21_x1 [p3, p2, p1, p4, (0 : Int32), (0 : Int32), (0 : Int32), (0 : Int32)] T126.heap n0 (Nat.le_trans Z0 K126.1) c130 w126_0 (own_inb (by decide) (Nat.le_of_ble_eq_true rfl) : own_Inb (1 : Int32) [p3, p2, p1, p4, (0 : Int32), (0 : Int32), (0 : Int32), (0 : Int32)].length)) hZ (hw _ (List.mem_of_getElem? (i := 39) rfl)) (hw _ (List.mem_of_getElem? (i := 4) rfl)) (by decide) (by decide)) q137a q137c (g := (mkF m 107 #[.val (.int p1), .val (.int p2), .val (.int p3), .val (.int p4), .val (.int p5), .val (.int (3 : Int32)), .val (.ref b2), .val (.ref b16)] [(.int (1 : Int32)), (.ref b16)])) rfl (by rw [hml]; rfl) (Steps.refl _) (argsL := [(.int (1 : Int32))]) (rest := []) (lenOf pd_0_3 rfl) rfl (by show 2 * 0 + _ ≤ _; exact Nat.le_of_eq rfl) (hb hby at_107) (fun _ _ => ⟨rfl, e135, (by decide : 3 + 0 ≤ _), (by decide : 14 + 0 ≤ _)⟩)
    dsimp only [Pt.U, Pt.locs, Pt.cells, Pt.slots] at X137 l137 y137 z137 st137 hQ137
    subst l137 y137 z137
    obtain ⟨rfl, N137q, e137⟩ := hQ137
    have N137 := Fr.app N135 N137q
    refine own_step (fun t k => st137.trans k) ?_
    show own_G p.tables e below _ (T137.setTop (mkF m 110 #[.val (.int p1), .val (.int p2), .val (.int p3), .val (.int p4), .val (.int p5), .val (.int (3 : Int32)), .val (.ref b2), .val (.ref b16)] [(.int p2)]))
    refine own_step (fun t k => XS.aload X137.here hx rfl (hb hby at_110) rfl rfl k) ?_
    show own_G p.tables e below _ (T137.setTop (mkF m 112 #[.val (.int p1), .val (.int p2), .val (.int p3), .val (.int p4), .val (.int p5), .val (.int (3 : Int32)), .val (.ref b2), .val (.ref b16)] [(.ref b2), (.int p2)]))
    refine own_step (fun t k => XS.iload X137.here hx rfl (hb hby at_112) rfl k) ?_
    show own_G p.tables e below _ (T137.setTop (mkF m 114 #[.val (.int p1), .val (.int p2), .val (.int p3), .val (.int p4), .val (.int p5), .val (.int (3 : Int32)), .val (.ref b2), .val (.ref b16)] [(.int (3 : Int32)), (.ref b2), (.int p2)]))
    refine own_step (fun t k => XS.iconst X137.here hx rfl (hb hby at_114) k) ?_
    show own_G p.tables e below _ (T137.setTop (mkF m 115 #[.val (.int p1), .val (.int p2), .val (.int p3), .val (.int p4), .val (.int p5), .val (.int (3 : Int32)), .val (.ref b2), .val (.ref b16)] [(.int (1 : Int32)), (.int (3 : Int32)), (.ref b2), (.int p2)]))
    obtain ⟨_, _, ⟨T138, L138, k138, n138⟩, -, X138, ⟨Lc138, hQ138, l138, y138, z138⟩, st138⟩ := Jvm.LawKit.callS X137 hx (y := (⟨"com/example/same_bytes/samebytes/NodeIdsReversePinLaw", "expect", "([III)I"⟩ : MethodName)) hown (mvT hZ (hw _ (List.mem_of_getElem? (i := 40) rfl))) (mvT hZ (hw _ (List.mem_of_getElem? (i := 41) rfl))) (mvT hZ (hw _ (List.mem_of_getElem? (i := 42) rfl))) (mvT hZ (hw _ (List.mem_of_getElem? (i := 43) rfl))) (by decide) (backOf (W := 1) (rm8_e3_1 l Z a0 hw [] b2 p1 p2 p3 p4 T126.heap n0 (Nat.le_trans Z0 K126.1) c127) hZ (hw _ (List.mem_of_getElem? (i := 43) rfl)) (hw _ (List.mem_of_getElem? (i := 42) rfl)) (by decide) (by decide)) (g := (mkF m 115 #[.val (.int p1), .val (.int p2), .val (.int p3), .val (.int p4), .val (.int p5), .val (.int (3 : Int32)), .val (.ref b2), .val (.ref b16)] [(.int (1 : Int32)), (.int (3 : Int32)), (.ref b2), (.int p2)])) rfl (by rw [hml]; rfl) (argsL := [(.ref b2), (.int (3 : Int32)), (.int (1 : Int32))]) (rest := [(.int p2)]) (lenOf pd_0_4 rfl) rfl (by show 2 * 0 + _ ≤ _; exact Nat.le_of_eq rfl) (hb hby at_115) (fun _ _ => ⟨rfl, e137, (by decide : 3 + 0 ≤ _), (by decide : 14 + 0 ≤ _)⟩)
    dsimp only [Pt.U, Pt.locs, Pt.cells, Pt.slots] at X138 l138 y138 z138 st138 hQ138
    subst l138 y138 z138
    obtain ⟨rfl, N138q, e138⟩ := hQ138
    have N138 := Fr.app N137 N138q
    refine own_step st138 ?_
    show own_G p.tables e below _ (T138.setTop (mkF m 118 #[.val (.int p1), .val (.int p2), .val (.int p3), .val (.int p4), .val (.int p5), .val (.int (3 : Int32)), .val (.ref b2), .val (.ref b16)] [(.int p2), (.int p2)]))
    have hk139 : p2 = p2 := rfl
    refine own_step (fun t k => XS.icmpNo X138.here hx rfl (hb hby at_118) rfl ((teq hk139).2) k) ?_
    show own_G p.tables e below _ (T138.setTop (mkF m 121 #[.val (.int p1), .val (.int p2), .val (.int p3), .val (.int p4), .val (.int p5), .val (.int (3 : Int32)), .val (.ref b2), .val (.ref b16)] []))
    refine own_step (fun t k => XS.aload X138.here hx rfl (hb hby at_121) rfl rfl k) ?_
    show own_G p.tables e below _ (T138.setTop (mkF m 123 #[.val (.int p1), .val (.int p2), .val (.int p3), .val (.int p4), .val (.int p5), .val (.int (3 : Int32)), .val (.ref b2), .val (.ref b16)] [(.ref b16)]))
    refine own_step (fun t k => XS.iconst X138.here hx rfl (hb hby at_123) k) ?_
    show own_G p.tables e below _ (T138.setTop (mkF m 124 #[.val (.int p1), .val (.int p2), .val (.int p3), .val (.int p4), .val (.int p5), .val (.int (3 : Int32)), .val (.ref b2), .val (.ref b16)] [(.int (2 : Int32)), (.ref b16)]))
    obtain ⟨cq140, kq140, q140a, q140b, q140c⟩ := isOf hZ e138 c128
    obtain ⟨_, _, ⟨T140, L140, k140, n140⟩, -, X140, ⟨Lc140, hQ140, l140, y140, z140⟩, st140⟩ := X138.virtualBack hx (y := (⟨"com/example/same_bytes/samebytes/NodeIds", "get", "(I)I"⟩ : MethodName)) (z := (⟨"com/example/same_bytes/samebytes/NodeIds", "get", "(I)I"⟩ : MethodName)) hown (mvT hZ (hw _ (List.mem_of_getElem? (i := 35) rfl))) (mvT hZ (hw _ (List.mem_of_getElem? (i := 36) rfl))) (notFace_of_selects (args := #[]) (mvT hZ (hw _ (List.mem_of_getElem? (i := 38) rfl)))) (mvT hZ (hw _ (List.mem_of_getElem? (i := 38) rfl))) (mvT hZ (hw _ (List.mem_of_getElem? (i := 37) rfl))) (by decide) (backOf (W := 0) (rm7 l Z a0 hw [] b16 (2 : Int32) bx21_x1 [p3, p2, p1, p4, (0 : Int32), (0 : Int32), (0 : Int32), (0 : Int32)] T126.heap n0 (Nat.le_trans Z0 K126.1) c130 w126_0 (own_inb (by decide) (Nat.le_of_ble_eq_true rfl) : own_Inb (2 : Int32) [p3, p2, p1, p4, (0 : Int32), (0 : Int32), (0 : Int32), (0 : Int32)].length)) hZ (hw _ (List.mem_of_getElem? (i := 39) rfl)) (hw _ (List.mem_of_getElem? (i := 4) rfl)) (by decide) (by decide)) q140a q140c (g := (mkF m 124 #[.val (.int p1), .val (.int p2), .val (.int p3), .val (.int p4), .val (.int p5), .val (.int (3 : Int32)), .val (.ref b2), .val (.ref b16)] [(.int (2 : Int32)), (.ref b16)])) rfl (by rw [hml]; rfl) (Steps.refl _) (argsL := [(.int (2 : Int32))]) (rest := []) (lenOf pd_0_3 rfl) rfl (by show 2 * 0 + _ ≤ _; exact Nat.le_of_eq rfl) (hb hby at_124) (fun _ _ => ⟨rfl, e138, (by decide : 3 + 0 ≤ _), (by decide : 14 + 0 ≤ _)⟩)
    dsimp only [Pt.U, Pt.locs, Pt.cells, Pt.slots] at X140 l140 y140 z140 st140 hQ140
    subst l140 y140 z140
    obtain ⟨rfl, N140q, e140⟩ := hQ140
    have N140 := Fr.app N138 N140q
    refine own_step (fun t k => st140.trans k) ?_
    show own_G p.tables e below _ (T140.setTop (mkF m 127 #[.val (.int p1), .val (.int p2), .val (.int p3), .val (.int p4), .val (.int p5), .val (.int (3 : Int32)), .val (.ref b2), .val (.ref b16)] [(.int p1)]))
    refine own_step (fun t k => XS.aload X140.here hx rfl (hb hby at_127) rfl rfl k) ?_
    show own_G p.tables e below _ (T140.setTop (mkF m 129 #[.val (.int p1), .val (.int p2), .val (.int p3), .val (.int p4), .val (.int p5), .val (.int (3 : Int32)), .val (.ref b2), .val (.ref b16)] [(.ref b2), (.int p1)]))
    refine own_step (fun t k => XS.iload X140.here hx rfl (hb hby at_129) rfl k) ?_
    show own_G p.tables e below _ (T140.setTop (mkF m 131 #[.val (.int p1), .val (.int p2), .val (.int p3), .val (.int p4), .val (.int p5), .val (.int (3 : Int32)), .val (.ref b2), .val (.ref b16)] [(.int (3 : Int32)), (.ref b2), (.int p1)]))
    refine own_step (fun t k => XS.iconst X140.here hx rfl (hb hby at_131) k) ?_
    show own_G p.tables e below _ (T140.setTop (mkF m 132 #[.val (.int p1), .val (.int p2), .val (.int p3), .val (.int p4), .val (.int p5), .val (.int (3 : Int32)), .val (.ref b2), .val (.ref b16)] [(.int (2 : Int32)), (.int (3 : Int32)), (.ref b2), (.int p1)]))
    obtain ⟨_, _, ⟨T141, L141, k141, n141⟩, -, X141, ⟨Lc141, hQ141, l141, y141, z141⟩, st141⟩ := Jvm.LawKit.callS X140 hx (y := (⟨"com/example/same_bytes/samebytes/NodeIdsReversePinLaw", "expect", "([III)I"⟩ : MethodName)) hown (mvT hZ (hw _ (List.mem_of_getElem? (i := 40) rfl))) (mvT hZ (hw _ (List.mem_of_getElem? (i := 41) rfl))) (mvT hZ (hw _ (List.mem_of_getElem? (i := 42) rfl))) (mvT hZ (hw _ (List.mem_of_getElem? (i := 43) rfl))) (by decide) (backOf (W := 1) (rm8_e3_2 l Z a0 hw [] b2 p1 p2 p3 p4 T126.heap n0 (Nat.le_trans Z0 K126.1) c127) hZ (hw _ (List.mem_of_getElem? (i := 43) rfl)) (hw _ (List.mem_of_getElem? (i := 42) rfl)) (by decide) (by decide)) (g := (mkF m 132 #[.val (.int p1), .val (.int p2), .val (.int p3), .val (.int p4), .val (.int p5), .val (.int (3 : Int32)), .val (.ref b2), .val (.ref b16)] [(.int (2 : Int32)), (.int (3 : Int32)), (.ref b2), (.int p1)])) rfl (by rw [hml]; rfl) (argsL := [(.ref b2), (.int (3 : Int32)), (.int (2 : Int32))]) (rest := [(.int p1)]) (lenOf pd_0_4 rfl) rfl (by show 2 * 0 + _ ≤ _; exact Nat.le_of_eq rfl) (hb hby at_132) (fun _ _ => ⟨rfl, e140, (by decide : 3 + 0 ≤ _), (by decide : 14 + 0 ≤ _)⟩)
    dsimp only [Pt.U, Pt.locs, Pt.cells, Pt.slots] at X141 l141 y141 z141 st141 hQ141
    subst l141 y141 z141
    obtain ⟨rfl, N141q, e141⟩ := hQ141
    have N141 := Fr.app N140 N141q
    refine own_step st141 ?_
    show own_G p.tables e below _ (T141.setTop (mkF m 135 #[.val (.int p1), .val (.int p2), .val (.int p3), .val (.int p4), .val (.int p5), .val (.int (3 : Int32)), .val (.ref b2), .val (.ref b16)] [(.int p1), (.int p1)]))
    have hk142 : p1 = p1 := rfl
    refine own_step (fun t k => XS.icmpNo X141.here hx rfl (hb hby at_135) rfl ((teq hk142).2) k) ?_
    show own_G p.tables e below _ (T141.setTop (mkF m 138 #[.val (.int p1), .val (.int p2), .val (.int p3), .val (.int p4), .val (.int p5), .val (.int (3 : Int32)), .val (.ref b2), .val (.ref b16)] []))
    refine own_step (fun t k => XS.aload X141.here hx rfl (hb hby at_138) rfl rfl k) ?_
    show own_G p.tables e below _ (T141.setTop (mkF m 140 #[.val (.int p1), .val (.int p2), .val (.int p3), .val (.int p4), .val (.int p5), .val (.int (3 : Int32)), .val (.ref b2), .val (.ref b16)] [(.ref b16)]))
    refine own_step (fun t k => XS.iconst X141.here hx rfl (hb hby at_140) k) ?_
    show own_G p.tables e below _ (T141.setTop (mkF m 141 #[.val (.int p1), .val (.int p2), .val (.int p3), .val (.int p4), .val (.int p5), .val (.int (3 : Int32)), .val (.ref b2), .val (.ref b16)] [(.int (3 : Int32)), (.ref b16)]))
    obtain ⟨cq143, kq143, q143a, q143b, q143c⟩ := isOf hZ e141 c128
    obtain ⟨_, _, ⟨T143, L143, k143, n143⟩, -, X143, ⟨Lc143, hQ143, l143, y143, z143⟩, st143⟩ := X141.virtualBack hx (y := (⟨"com/example/same_bytes/samebytes/NodeIds", "get", "(I)I"⟩ : MethodName)) (z := (⟨"com/example/same_bytes/samebytes/NodeIds", "get", "(I)I"⟩ : MethodName)) hown (mvT hZ (hw _ (List.mem_of_getElem? (i := 35) rfl))) (mvT hZ (hw _ (List.mem_of_getElem? (i := 36) rfl))) (notFace_of_selects (args := #[]) (mvT hZ (hw _ (List.mem_of_getElem? (i := 38) rfl)))) (mvT hZ (hw _ (List.mem_of_getElem? (i := 38) rfl))) (mvT hZ (hw _ (List.mem_of_getElem? (i := 37) rfl))) (by decide) (backOf (W := 0) (rm7 l Z a0 hw [] b16 (3 : Int32) bx21_x1 [p3, p2, p1, p4, (0 : Int32), (0 : Int32), (0 : Int32), (0 : Int32)] T126.heap n0 (Nat.le_trans Z0 K126.1) c130 w126_0 (own_inb (by decide) (Nat.le_of_ble_eq_true rfl) : own_Inb (3 : Int32) [p3, p2, p1, p4, (0 : Int32), (0 : Int32), (0 : Int32), (0 : Int32)].length)) hZ (hw _ (List.mem_of_getElem? (i := 39) rfl)) (hw _ (List.mem_of_getElem? (i := 4) rfl)) (by decide) (by decide)) q143a q143c (g := (mkF m 141 #[.val (.int p1), .val (.int p2), .val (.int p3), .val (.int p4), .val (.int p5), .val (.int (3 : Int32)), .val (.ref b2), .val (.ref b16)] [(.int (3 : Int32)), (.ref b16)])) rfl (by rw [hml]; rfl) (Steps.refl _) (argsL := [(.int (3 : Int32))]) (rest := []) (lenOf pd_0_3 rfl) rfl (by show 2 * 0 + _ ≤ _; exact Nat.le_of_eq rfl) (hb hby at_141) (fun _ _ => ⟨rfl, e141, (by decide : 3 + 0 ≤ _), (by decide : 14 + 0 ≤ _)⟩)
    dsimp only [Pt.U, Pt.locs, Pt.cells, Pt.slots] at X143 l143 y143 z143 st143 hQ143
    subst l143 y143 z143
    obtain ⟨rfl, N143q, e143⟩ := hQ143
    have N143 := Fr.app N141 N143q
    refine own_step (fun t k => st143.trans k) ?_
    show own_G p.tables e below _ (T143.setTop (mkF m 144 #[.val (.int p1), .val (.int p2), .val (.int p3), .val (.int p4), .val (.int p5), .val (.int (3 : Int32)), .val (.ref b2), .val (.ref b16)] [(.int p4)]))
    refine own_step (fun t k => XS.aload X143.here hx rfl (hb hby at_144) rfl rfl k) ?_
    show own_G p.tables e below _ (T143.setTop (mkF m 146 #[.val (.int p1), .val (.int p2), .val (.int p3), .val (.int p4), .val (.int p5), .val (.int (3 : Int32)), .val (.ref b2), .val (.ref b16)] [(.ref b2), (.int p4)]))
    refine own_step (fun t k => XS.iload X143.here hx rfl (hb hby at_146) rfl k) ?_
    show own_G p.tables e below _ (T143.setTop (mkF m 148 #[.val (.int p1), .val (.int p2), .val (.int p3), .val (.int p4), .val (.int p5), .val (.int (3 : Int32)), .val (.ref b2), .val (.ref b16)] [(.int (3 : Int32)), (.ref b2), (.int p4)]))
    refine own_step (fun t k => XS.iconst X143.here hx rfl (hb hby at_148) k) ?_
    show own_G p.tables e below _ (T143.setTop (mkF m 149 #[.val (.int p1), .val (.int p2), .val (.int p3), .val (.int p4), .val (.int p5), .val (.int (3 : Int32)), .val (.ref b2), .val (.ref b16)] [(.int (3 : Int32)), (.int (3 : Int32)), (.ref b2), (.int p4)]))
    obtain ⟨_, _, ⟨T144, L144, k144, n144⟩, -, X144, ⟨Lc144, hQ144, l144, y144, z144⟩, st144⟩ := Jvm.LawKit.callS X143 hx (y := (⟨"com/example/same_bytes/samebytes/NodeIdsReversePinLaw", "expect", "([III)I"⟩ : MethodName)) hown (mvT hZ (hw _ (List.mem_of_getElem? (i := 40) rfl))) (mvT hZ (hw _ (List.mem_of_getElem? (i := 41) rfl))) (mvT hZ (hw _ (List.mem_of_getElem? (i := 42) rfl))) (mvT hZ (hw _ (List.mem_of_getElem? (i := 43) rfl))) (by decide) (backOf (W := 1) (rm8_e3_3 l Z a0 hw [] b2 p1 p2 p3 p4 T126.heap n0 (Nat.le_trans Z0 K126.1) c127) hZ (hw _ (List.mem_of_getElem? (i := 43) rfl)) (hw _ (List.mem_of_getElem? (i := 42) rfl)) (by decide) (by decide)) (g := (mkF m 149 #[.val (.int p1), .val (.int p2), .val (.int p3), .val (.int p4), .val (.int p5), .val (.int (3 : Int32)), .val (.ref b2), .val (.ref b16)] [(.int (3 : Int32)), (.int (3 : Int32)), (.ref b2), (.int p4)])) rfl (by rw [hml]; rfl) (argsL := [(.ref b2), (.int (3 : Int32)), (.int (3 : Int32))]) (rest := [(.int p4)]) (lenOf pd_0_4 rfl) rfl (by show 2 * 0 + _ ≤ _; exact Nat.le_of_eq rfl) (hb hby at_149) (fun _ _ => ⟨rfl, e143, (by decide : 3 + 0 ≤ _), (by decide : 14 + 0 ≤ _)⟩)
    dsimp only [Pt.U, Pt.locs, Pt.cells, Pt.slots] at X144 l144 y144 z144 st144 hQ144
    subst l144 y144 z144
    obtain ⟨rfl, N144q, e144⟩ := hQ144
    have N144 := Fr.app N143 N144q
    refine own_step st144 ?_
    show own_G p.tables e below _ (T144.setTop (mkF m 152 #[.val (.int p1), .val (.int p2), .val (.int p3), .val (.int p4), .val (.int p5), .val (.int (3 : Int32)), .val (.ref b2), .val (.ref b16)] [(.int p4), (.int p4)]))
    have hk145 : p4 = p4 := rfl
    refine own_step (fun t k => XS.icmpNo X144.here hx rfl (hb hby at_152) rfl ((teq hk145).2) k) ?_
    show own_G p.tables e below _ (T144.setTop (mkF m 155 #[.val (.int p1), .val (.int p2), .val (.int p3), .val (.int p4), .val (.int p5), .val (.int (3 : Int32)), .val (.ref b2), .val (.ref b16)] []))
    refine own_step (fun t k => XS.iconst X144.here hx rfl (hb hby at_155) k) ?_
    show own_G p.tables e below _ (T144.setTop (mkF m 156 #[.val (.int p1), .val (.int p2), .val (.int p3), .val (.int p4), .val (.int p5), .val (.int (3 : Int32)), .val (.ref b2), .val (.ref b16)] [(.int (1 : Int32))]))
    refine own_step (fun t k => XS.goto X144.here hx rfl (pc0 := 156) (pc' := 160) rfl (hb hby at_156) (by decide) (by decide) k) ?_
    show own_G p.tables e below _ (T144.setTop (mkF m 160 #[.val (.int p1), .val (.int p2), .val (.int p3), .val (.int p4), .val (.int p5), .val (.int (3 : Int32)), .val (.ref b2), .val (.ref b16)] [(.int (1 : Int32))]))
    obtain ⟨fs, hr, hrun, hended, hW, hsame⟩ := X144.leave (v := some (.int (1 : Int32))) (fun h => by rw [Bd.returns] at h; cases h)
    refine own_done (retN X144 hx (t := .boolean) Bd.returns (by simp) (hb hby at_160) hr) hrun hended ⟨_, _, rfl, ?_, ⟨_, rfl⟩, hW, hsame.mono (by decide) (by decide)⟩
    show Q0 Z p1 p2 p3 p4 p5 h0 n0 _ T144.heap _
    rw [e144]
    exact ⟨rfl, N144⟩
  · skip
    show own_G p.tables e below _ (T46.setTop (mkF m 63 #[.val (.int p1), .val (.int p2), .val (.int p3), .val (.int p4), .val (.int p5), .val (.int (4 : Int32)), .val (.ref b2), .val (.ref b16)] []))
    refine own_step (fun t k => XS.aload X46.here hx rfl (hb hby at_63) rfl rfl k) ?_
    show own_G p.tables e below _ (T46.setTop (mkF m 65 #[.val (.int p1), .val (.int p2), .val (.int p3), .val (.int p4), .val (.int p5), .val (.int (4 : Int32)), .val (.ref b2), .val (.ref b16)] [(.ref b16)]))
    refine own_step (fun t k => XS.iload X46.here hx rfl (hb hby at_65) rfl k) ?_
    show own_G p.tables e below _ (T46.setTop (mkF m 67 #[.val (.int p1), .val (.int p2), .val (.int p3), .val (.int p4), .val (.int p5), .val (.int (4 : Int32)), .val (.ref b2), .val (.ref b16)] [(.int (4 : Int32)), (.ref b16)]))
    obtain ⟨cq146, kq146, q146a, q146b, q146c⟩ := isOf hZ rfl c48
    obtain ⟨_, _, ⟨T146, L146, k146, n146⟩, -, X146, ⟨Lc146, hQ146, l146, y146, z146⟩, st146⟩ := X46.virtualBack hx (y := (⟨"com/example/same_bytes/samebytes/NodeIds", "truncate", "(I)V"⟩ : MethodName)) (z := (⟨"com/example/same_bytes/samebytes/NodeIds", "truncate", "(I)V"⟩ : MethodName)) hown (mvT hZ (hw _ (List.mem_of_getElem? (i := 20) rfl))) (mvT hZ (hw _ (List.mem_of_getElem? (i := 21) rfl))) (notFace_of_selects (args := #[]) (mvT hZ (hw _ (List.mem_of_getElem? (i := 23) rfl)))) (mvT hZ (hw _ (List.mem_of_getElem? (i := 23) rfl))) (mvT hZ (hw _ (List.mem_of_getElem? (i := 22) rfl))) (by decide) (backOf (W := 0) (rm4 l Z a0 hw [] b16 (4 : Int32) (.ref bx21_x1) (.int (4 : Int32)) T46.heap n0 (Nat.le_trans Z0 K46.1) c48 w46_1 w46_0 ge16) hZ (hw _ (List.mem_of_getElem? (i := 24) rfl)) (hw _ (List.mem_of_getElem? (i := 4) rfl)) (by decide) (by decide)) q146a q146c (g := (mkF m 67 #[.val (.int p1), .val (.int p2), .val (.int p3), .val (.int p4), .val (.int p5), .val (.int (4 : Int32)), .val (.ref b2), .val (.ref b16)] [(.int (4 : Int32)), (.ref b16)])) rfl (by rw [hml]; rfl) (Steps.refl _) (argsL := [(.int (4 : Int32))]) (rest := []) (lenOf pd_0_1 rfl) rfl (by show 2 * 0 + _ ≤ _; exact Nat.le_of_eq rfl) (hb hby at_67) (fun _ _ => ⟨rfl, rfl, (by decide : 3 + 0 ≤ _), (by decide : 14 + 0 ≤ _)⟩)
    dsimp only [Pt.U, Pt.locs, Pt.cells, Pt.slots] at X146 l146 y146 z146 st146 hQ146
    subst l146 y146 z146
    obtain ⟨rfl, N146q, K146q, w146_0, w146_1⟩ := hQ146
    have c147 : own_Ari Z T146.heap b2 .int [p1, p2, p3, p4] := c47.keep K146q (ninS ne17 nin0)
    have c148 : Exa Z T146.heap b16 "com/example/same_bytes/samebytes/NodeIds" := c48.keep K146q
    have c151 : own_Ari Z T146.heap bx21_x1 .int [p1, p2, p3, p4, (0 : Int32), (0 : Int32), (0 : Int32), (0 : Int32)] := w46_2.keep K146q (ninS (Ne.symm ne27) nin0)
    have K146 : Keep h0 T146.heap [] := K46.trans K146q (allS (Or.inr sz16) all0)
    have N146 := Fr.app N46 N146q
    refine own_step (fun t k => st146.trans k) ?_
    show own_G p.tables e below _ (T146.setTop (mkF m 70 #[.val (.int p1), .val (.int p2), .val (.int p3), .val (.int p4), .val (.int p5), .val (.int (4 : Int32)), .val (.ref b2), .val (.ref b16)] []))
    refine own_step (fun t k => XS.aload X146.here hx rfl (hb hby at_70) rfl rfl k) ?_
    show own_G p.tables e below _ (T146.setTop (mkF m 72 #[.val (.int p1), .val (.int p2), .val (.int p3), .val (.int p4), .val (.int p5), .val (.int (4 : Int32)), .val (.ref b2), .val (.ref b16)] [(.ref b16)]))
    obtain ⟨cq152, kq152, q152a, q152b, q152c⟩ := isOf hZ rfl c148
    obtain ⟨_, _, ⟨T152, L152, k152, n152⟩, -, X152, ⟨Lc152, hQ152, l152, y152, z152⟩, st152⟩ := X146.virtualBack hx (y := (⟨"com/example/same_bytes/samebytes/NodeIds", "reverse", "()V"⟩ : MethodName)) (z := (⟨"com/example/same_bytes/samebytes/NodeIds", "reverse", "()V"⟩ : MethodName)) hown (mvT hZ (hw _ (List.mem_of_getElem? (i := 25) rfl))) (mvT hZ (hw _ (List.mem_of_getElem? (i := 26) rfl))) (notFace_of_selects (args := #[]) (mvT hZ (hw _ (List.mem_of_getElem? (i := 28) rfl)))) (mvT hZ (hw _ (List.mem_of_getElem? (i := 28) rfl))) (mvT hZ (hw _ (List.mem_of_getElem? (i := 27) rfl))) (by decide) (backOf (W := 0) (rm5_s4 l Z a0 hw [] b16 bx21_x1 p1 p2 p3 p4 (0 : Int32) (0 : Int32) (0 : Int32) (0 : Int32) T146.heap n0 (Nat.le_trans Z0 K146.1) c148 w146_1 w146_0 c151 ge21_0 ne27) hZ (hw _ (List.mem_of_getElem? (i := 29) rfl)) (hw _ (List.mem_of_getElem? (i := 4) rfl)) (by decide) (by decide)) q152a q152c (g := (mkF m 72 #[.val (.int p1), .val (.int p2), .val (.int p3), .val (.int p4), .val (.int p5), .val (.int (4 : Int32)), .val (.ref b2), .val (.ref b16)] [(.ref b16)])) rfl (by rw [hml]; rfl) (Steps.refl _) (argsL := []) (rest := []) (lenOf pd_0_0 rfl) rfl (by show 2 * 0 + _ ≤ _; exact Nat.le_of_eq rfl) (hb hby at_72) (fun _ _ => ⟨rfl, rfl, (by decide : 3 + 0 ≤ _), (by decide : 14 + 0 ≤ _)⟩)
    dsimp only [Pt.U, Pt.locs, Pt.cells, Pt.slots] at X152 l152 y152 z152 st152 hQ152
    subst l152 y152 z152
    obtain ⟨rfl, N152q, K152q, w152_0⟩ := hQ152
    have c153 : own_Ari Z T152.heap b2 .int [p1, p2, p3, p4] := c147.keep K152q (ninS ne26 nin0)
    have c154 : Exa Z T152.heap b16 "com/example/same_bytes/samebytes/NodeIds" := c148.keep K152q
    have c156 : Fld Z T152.heap b16 "com/example/same_bytes/samebytes/NodeIds" "ids" "[I" (.ref bx21_x1) := w146_0.keep K152q (ninS ne27 nin0)
    have c157 : Fld Z T152.heap b16 "com/example/same_bytes/samebytes/NodeIds" "size" "I" (.int (4 : Int32)) := w146_1.keep K152q (ninS ne27 nin0)
    have K152 : Keep h0 T152.heap [] := K146.trans K152q (allS (Or.inr sz21_0) all0)
    have N152 := Fr.app N146 N152q
    refine own_step (fun t k => st152.trans k) ?_
    show own_G p.tables e below _ (T152.setTop (mkF m 75 #[.val (.int p1), .val (.int p2), .val (.int p3), .val (.int p4), .val (.int p5), .val (.int (4 : Int32)), .val (.ref b2), .val (.ref b16)] []))
    refine own_step (fun t k => XS.aload X152.here hx rfl (hb hby at_75) rfl rfl k) ?_
    show own_G p.tables e below _ (T152.setTop (mkF m 77 #[.val (.int p1), .val (.int p2), .val (.int p3), .val (.int p4), .val (.int p5), .val (.int (4 : Int32)), .val (.ref b2), .val (.ref b16)] [(.ref b16)]))
    obtain ⟨cq158, kq158, q158a, q158b, q158c⟩ := isOf hZ rfl c154
    obtain ⟨_, _, ⟨T158, L158, k158, n158⟩, -, X158, ⟨Lc158, hQ158, l158, y158, z158⟩, st158⟩ := X152.virtualBack hx (y := (⟨"com/example/same_bytes/samebytes/NodeIds", "size", "()I"⟩ : MethodName)) (z := (⟨"com/example/same_bytes/samebytes/NodeIds", "size", "()I"⟩ : MethodName)) hown (mvT hZ (hw _ (List.mem_of_getElem? (i := 30) rfl))) (mvT hZ (hw _ (List.mem_of_getElem? (i := 31) rfl))) (notFace_of_selects (args := #[]) (mvT hZ (hw _ (List.mem_of_getElem? (i := 33) rfl)))) (mvT hZ (hw _ (List.mem_of_getElem? (i := 33) rfl))) (mvT hZ (hw _ (List.mem_of_getElem? (i := 32) rfl))) (by decide) (backOf (W := 0) (rm6 l Z a0 hw [] b16 (4 : Int32) T152.heap n0 (Nat.le_trans Z0 K152.1) c157) hZ (hw _ (List.mem_of_getElem? (i := 34) rfl)) (hw _ (List.mem_of_getElem? (i := 4) rfl)) (by decide) (by decide)) q158a q158c (g := (mkF m 77 #[.val (.int p1), .val (.int p2), .val (.int p3), .val (.int p4), .val (.int p5), .val (.int (4 : Int32)), .val (.ref b2), .val (.ref b16)] [(.ref b16)])) rfl (by rw [hml]; rfl) (Steps.refl _) (argsL := []) (rest := []) (lenOf pd_0_2 rfl) rfl (by show 2 * 0 + _ ≤ _; exact Nat.le_of_eq rfl) (hb hby at_77) (fun _ _ => ⟨rfl, rfl, (by decide : 3 + 0 ≤ _), (by decide : 14 + 0 ≤ _)⟩)
    dsimp only [Pt.U, Pt.locs, Pt.cells, Pt.slots] at X158 l158 y158 z158 st158 hQ158
    subst l158 y158 z158
    obtain ⟨rfl, N158q, e158⟩ := hQ158
    have N158 := Fr.app N152 N158q
    refine own_step (fun t k => st158.trans k) ?_
    show own_G p.tables e below _ (T158.setTop (mkF m 80 #[.val (.int p1), .val (.int p2), .val (.int p3), .val (.int p4), .val (.int p5), .val (.int (4 : Int32)), .val (.ref b2), .val (.ref b16)] [(.int (4 : Int32))]))
    refine own_step (fun t k => XS.iload X158.here hx rfl (hb hby at_80) rfl k) ?_
    show own_G p.tables e below _ (T158.setTop (mkF m 82 #[.val (.int p1), .val (.int p2), .val (.int p3), .val (.int p4), .val (.int p5), .val (.int (4 : Int32)), .val (.ref b2), .val (.ref b16)] [(.int (4 : Int32)), (.int (4 : Int32))]))
    have hk159 : (4 : Int32) = (4 : Int32) := rfl
    refine own_step (fun t k => XS.icmpYes X158.here hx rfl (pc0 := 82) (pc' := 87) rfl (hb hby at_82) rfl ((teq hk159).1) (by decide) (by decide) k) ?_
    show own_G p.tables e below _ (T158.setTop (mkF m 87 #[.val (.int p1), .val (.int p2), .val (.int p3), .val (.int p4), .val (.int p5), .val (.int (4 : Int32)), .val (.ref b2), .val (.ref b16)] []))
    refine own_step (fun t k => XS.aload X158.here hx rfl (hb hby at_87) rfl rfl k) ?_
    show own_G p.tables e below _ (T158.setTop (mkF m 89 #[.val (.int p1), .val (.int p2), .val (.int p3), .val (.int p4), .val (.int p5), .val (.int (4 : Int32)), .val (.ref b2), .val (.ref b16)] [(.ref b16)]))
    refine own_step (fun t k => XS.iconst X158.here hx rfl (hb hby at_89) k) ?_
    show own_G p.tables e below _ (T158.setTop (mkF m 90 #[.val (.int p1), .val (.int p2), .val (.int p3), .val (.int p4), .val (.int p5), .val (.int (4 : Int32)), .val (.ref b2), .val (.ref b16)] [(.int (0 : Int32)), (.ref b16)]))
    obtain ⟨cq160, kq160, q160a, q160b, q160c⟩ := isOf hZ e158 c154
    obtain ⟨_, _, ⟨T160, L160, k160, n160⟩, -, X160, ⟨Lc160, hQ160, l160, y160, z160⟩, st160⟩ := X158.virtualBack hx (y := (⟨"com/example/same_bytes/samebytes/NodeIds", "get", "(I)I"⟩ : MethodName)) (z := (⟨"com/example/same_bytes/samebytes/NodeIds", "get", "(I)I"⟩ : MethodName)) hown (mvT hZ (hw _ (List.mem_of_getElem? (i := 35) rfl))) (mvT hZ (hw _ (List.mem_of_getElem? (i := 36) rfl))) (notFace_of_selects (args := #[]) (mvT hZ (hw _ (List.mem_of_getElem? (i := 38) rfl)))) (mvT hZ (hw _ (List.mem_of_getElem? (i := 38) rfl))) (mvT hZ (hw _ (List.mem_of_getElem? (i := 37) rfl))) (by decide) (backOf (W := 0) (rm7 l Z a0 hw [] b16 (0 : Int32) bx21_x1 [p4, p3, p2, p1, (0 : Int32), (0 : Int32), (0 : Int32), (0 : Int32)] T152.heap n0 (Nat.le_trans Z0 K152.1) c156 w152_0 (own_inb (by decide) (Nat.le_of_ble_eq_true rfl) : own_Inb (0 : Int32) [p4, p3, p2, p1, (0 : Int32), (0 : Int32), (0 : Int32), (0 : Int32)].length)) hZ (hw _ (List.mem_of_getElem? (i := 39) rfl)) (hw _ (List.mem_of_getElem? (i := 4) rfl)) (by decide) (by decide)) q160a q160c (g := (mkF m 90 #[.val (.int p1), .val (.int p2), .val (.int p3), .val (.int p4), .val (.int p5), .val (.int (4 : Int32)), .val (.ref b2), .val (.ref b16)] [(.int (0 : Int32)), (.ref b16)])) rfl (by rw [hml]; rfl) (Steps.refl _) (argsL := [(.int (0 : Int32))]) (rest := []) (lenOf pd_0_3 rfl) rfl (by show 2 * 0 + _ ≤ _; exact Nat.le_of_eq rfl) (hb hby at_90) (fun _ _ => ⟨rfl, e158, (by decide : 3 + 0 ≤ _), (by decide : 14 + 0 ≤ _)⟩)
    dsimp only [Pt.U, Pt.locs, Pt.cells, Pt.slots] at X160 l160 y160 z160 st160 hQ160
    subst l160 y160 z160
    obtain ⟨rfl, N160q, e160⟩ := hQ160
    have N160 := Fr.app N158 N160q
    refine own_step (fun t k => st160.trans k) ?_
    show own_G p.tables e below _ (T160.setTop (mkF m 93 #[.val (.int p1), .val (.int p2), .val (.int p3), .val (.int p4), .val (.int p5), .val (.int (4 : Int32)), .val (.ref b2), .val (.ref b16)] [(.int p4)]))
    refine own_step (fun t k => XS.aload X160.here hx rfl (hb hby at_93) rfl rfl k) ?_
    show own_G p.tables e below _ (T160.setTop (mkF m 95 #[.val (.int p1), .val (.int p2), .val (.int p3), .val (.int p4), .val (.int p5), .val (.int (4 : Int32)), .val (.ref b2), .val (.ref b16)] [(.ref b2), (.int p4)]))
    refine own_step (fun t k => XS.iload X160.here hx rfl (hb hby at_95) rfl k) ?_
    show own_G p.tables e below _ (T160.setTop (mkF m 97 #[.val (.int p1), .val (.int p2), .val (.int p3), .val (.int p4), .val (.int p5), .val (.int (4 : Int32)), .val (.ref b2), .val (.ref b16)] [(.int (4 : Int32)), (.ref b2), (.int p4)]))
    refine own_step (fun t k => XS.iconst X160.here hx rfl (hb hby at_97) k) ?_
    show own_G p.tables e below _ (T160.setTop (mkF m 98 #[.val (.int p1), .val (.int p2), .val (.int p3), .val (.int p4), .val (.int p5), .val (.int (4 : Int32)), .val (.ref b2), .val (.ref b16)] [(.int (0 : Int32)), (.int (4 : Int32)), (.ref b2), (.int p4)]))
    obtain ⟨_, _, ⟨T161, L161, k161, n161⟩, -, X161, ⟨Lc161, hQ161, l161, y161, z161⟩, st161⟩ := Jvm.LawKit.callS X160 hx (y := (⟨"com/example/same_bytes/samebytes/NodeIdsReversePinLaw", "expect", "([III)I"⟩ : MethodName)) hown (mvT hZ (hw _ (List.mem_of_getElem? (i := 40) rfl))) (mvT hZ (hw _ (List.mem_of_getElem? (i := 41) rfl))) (mvT hZ (hw _ (List.mem_of_getElem? (i := 42) rfl))) (mvT hZ (hw _ (List.mem_of_getElem? (i := 43) rfl))) (by decide) (backOf (W := 1) (rm8_e4_0 l Z a0 hw [] b2 p1 p2 p3 p4 T152.heap n0 (Nat.le_trans Z0 K152.1) c153) hZ (hw _ (List.mem_of_getElem? (i := 43) rfl)) (hw _ (List.mem_of_getElem? (i := 42) rfl)) (by decide) (by decide)) (g := (mkF m 98 #[.val (.int p1), .val (.int p2), .val (.int p3), .val (.int p4), .val (.int p5), .val (.int (4 : Int32)), .val (.ref b2), .val (.ref b16)] [(.int (0 : Int32)), (.int (4 : Int32)), (.ref b2), (.int p4)])) rfl (by rw [hml]; rfl) (argsL := [(.ref b2), (.int (4 : Int32)), (.int (0 : Int32))]) (rest := [(.int p4)]) (lenOf pd_0_4 rfl) rfl (by show 2 * 0 + _ ≤ _; exact Nat.le_of_eq rfl) (hb hby at_98) (fun _ _ => ⟨rfl, e160, (by decide : 3 + 0 ≤ _), (by decide : 14 + 0 ≤ _)⟩)
    dsimp only [Pt.U, Pt.locs, Pt.cells, Pt.slots] at X161 l161 y161 z161 st161 hQ161
    subst l161 y161 z161
    obtain ⟨rfl, N161q, e161⟩ := hQ161
    have N161 := Fr.app N160 N161q
    refine own_step st161 ?_
    show own_G p.tables e below _ (T161.setTop (mkF m 101 #[.val (.int p1), .val (.int p2), .val (.int p3), .val (.int p4), .val (.int p5), .val (.int (4 : Int32)), .val (.ref b2), .val (.ref b16)] [(.int p4), (.int p4)]))
    have hk162 : p4 = p4 := rfl
    refine own_step (fun t k => XS.icmpNo X161.here hx rfl (hb hby at_101) rfl ((teq hk162).2) k) ?_
    show own_G p.tables e below _ (T161.setTop (mkF m 104 #[.val (.int p1), .val (.int p2), .val (.int p3), .val (.int p4), .val (.int p5), .val (.int (4 : Int32)), .val (.ref b2), .val (.ref b16)] []))
    refine own_step (fun t k => XS.aload X161.here hx rfl (hb hby at_104) rfl rfl k) ?_
    show own_G p.tables e below _ (T161.setTop (mkF m 106 #[.val (.int p1), .val (.int p2), .val (.int p3), .val (.int p4), .val (.int p5), .val (.int (4 : Int32)), .val (.ref b2), .val (.ref b16)] [(.ref b16)]))
    refine own_step (fun t k => XS.iconst X161.here hx rfl (hb hby at_106) k) ?_
    show own_G p.tables e below _ (T161.setTop (mkF m 107 #[.val (.int p1), .val (.int p2), .val (.int p3), .val (.int p4), .val (.int p5), .val (.int (4 : Int32)), .val (.ref b2), .val (.ref b16)] [(.int (1 : Int32)), (.ref b16)]))
    obtain ⟨cq163, kq163, q163a, q163b, q163c⟩ := isOf hZ e161 c154
    obtain ⟨_, _, ⟨T163, L163, k163, n163⟩, -, X163, ⟨Lc163, hQ163, l163, y163, z163⟩, st163⟩ := X161.virtualBack hx (y := (⟨"com/example/same_bytes/samebytes/NodeIds", "get", "(I)I"⟩ : MethodName)) (z := (⟨"com/example/same_bytes/samebytes/NodeIds", "get", "(I)I"⟩ : MethodName)) hown (mvT hZ (hw _ (List.mem_of_getElem? (i := 35) rfl))) (mvT hZ (hw _ (List.mem_of_getElem? (i := 36) rfl))) (notFace_of_selects (args := #[]) (mvT hZ (hw _ (List.mem_of_getElem? (i := 38) rfl)))) (mvT hZ (hw _ (List.mem_of_getElem? (i := 38) rfl))) (mvT hZ (hw _ (List.mem_of_getElem? (i := 37) rfl))) (by decide) (backOf (W := 0) (rm7 l Z a0 hw [] b16 (1 : Int32) bx21_x1 [p4, p3, p2, p1, (0 : Int32), (0 : Int32), (0 : Int32), (0 : Int32)] T152.heap n0 (Nat.le_trans Z0 K152.1) c156 w152_0 (own_inb (by decide) (Nat.le_of_ble_eq_true rfl) : own_Inb (1 : Int32) [p4, p3, p2, p1, (0 : Int32), (0 : Int32), (0 : Int32), (0 : Int32)].length)) hZ (hw _ (List.mem_of_getElem? (i := 39) rfl)) (hw _ (List.mem_of_getElem? (i := 4) rfl)) (by decide) (by decide)) q163a q163c (g := (mkF m 107 #[.val (.int p1), .val (.int p2), .val (.int p3), .val (.int p4), .val (.int p5), .val (.int (4 : Int32)), .val (.ref b2), .val (.ref b16)] [(.int (1 : Int32)), (.ref b16)])) rfl (by rw [hml]; rfl) (Steps.refl _) (argsL := [(.int (1 : Int32))]) (rest := []) (lenOf pd_0_3 rfl) rfl (by show 2 * 0 + _ ≤ _; exact Nat.le_of_eq rfl) (hb hby at_107) (fun _ _ => ⟨rfl, e161, (by decide : 3 + 0 ≤ _), (by decide : 14 + 0 ≤ _)⟩)
    dsimp only [Pt.U, Pt.locs, Pt.cells, Pt.slots] at X163 l163 y163 z163 st163 hQ163
    subst l163 y163 z163
    obtain ⟨rfl, N163q, e163⟩ := hQ163
    have N163 := Fr.app N161 N163q
    refine own_step (fun t k => st163.trans k) ?_
    show own_G p.tables e below _ (T163.setTop (mkF m 110 #[.val (.int p1), .val (.int p2), .val (.int p3), .val (.int p4), .val (.int p5), .val (.int (4 : Int32)), .val (.ref b2), .val (.ref b16)] [(.int p3)]))
    refine own_step (fun t k => XS.aload X163.here hx rfl (hb hby at_110) rfl rfl k) ?_
    show own_G p.tables e below _ (T163.setTop (mkF m 112 #[.val (.int p1), .val (.int p2), .val (.int p3), .val (.int p4), .val (.int p5), .val (.int (4 : Int32)), .val (.ref b2), .val (.ref b16)] [(.ref b2), (.int p3)]))
    refine own_step (fun t k => XS.iload X163.here hx rfl (hb hby at_112) rfl k) ?_
    show own_G p.tables e below _ (T163.setTop (mkF m 114 #[.val (.int p1), .val (.int p2), .val (.int p3), .val (.int p4), .val (.int p5), .val (.int (4 : Int32)), .val (.ref b2), .val (.ref b16)] [(.int (4 : Int32)), (.ref b2), (.int p3)]))
    refine own_step (fun t k => XS.iconst X163.here hx rfl (hb hby at_114) k) ?_
    show own_G p.tables e below _ (T163.setTop (mkF m 115 #[.val (.int p1), .val (.int p2), .val (.int p3), .val (.int p4), .val (.int p5), .val (.int (4 : Int32)), .val (.ref b2), .val (.ref b16)] [(.int (1 : Int32)), (.int (4 : Int32)), (.ref b2), (.int p3)]))
    obtain ⟨_, _, ⟨T164, L164, k164, n164⟩, -, X164, ⟨Lc164, hQ164, l164, y164, z164⟩, st164⟩ := Jvm.LawKit.callS X163 hx (y := (⟨"com/example/same_bytes/samebytes/NodeIdsReversePinLaw", "expect", "([III)I"⟩ : MethodName)) hown (mvT hZ (hw _ (List.mem_of_getElem? (i := 40) rfl))) (mvT hZ (hw _ (List.mem_of_getElem? (i := 41) rfl))) (mvT hZ (hw _ (List.mem_of_getElem? (i := 42) rfl))) (mvT hZ (hw _ (List.mem_of_getElem? (i := 43) rfl))) (by decide) (backOf (W := 1) (rm8_e4_1 l Z a0 hw [] b2 p1 p2 p3 p4 T152.heap n0 (Nat.le_trans Z0 K152.1) c153) hZ (hw _ (List.mem_of_getElem? (i := 43) rfl)) (hw _ (List.mem_of_getElem? (i := 42) rfl)) (by decide) (by decide)) (g := (mkF m 115 #[.val (.int p1), .val (.int p2), .val (.int p3), .val (.int p4), .val (.int p5), .val (.int (4 : Int32)), .val (.ref b2), .val (.ref b16)] [(.int (1 : Int32)), (.int (4 : Int32)), (.ref b2), (.int p3)])) rfl (by rw [hml]; rfl) (argsL := [(.ref b2), (.int (4 : Int32)), (.int (1 : Int32))]) (rest := [(.int p3)]) (lenOf pd_0_4 rfl) rfl (by show 2 * 0 + _ ≤ _; exact Nat.le_of_eq rfl) (hb hby at_115) (fun _ _ => ⟨rfl, e163, (by decide : 3 + 0 ≤ _), (by decide : 14 + 0 ≤ _)⟩)
    dsimp only [Pt.U, Pt.locs, Pt.cells, Pt.slots] at X164 l164 y164 z164 st164 hQ164
    subst l164 y164 z164
    obtain ⟨rfl, N164q, e164⟩ := hQ164
    have N164 := Fr.app N163 N164q
    refine own_step st164 ?_
    show own_G p.tables e below _ (T164.setTop (mkF m 118 #[.val (.int p1), .val (.int p2), .val (.int p3), .val (.int p4), .val (.int p5), .val (.int (4 : Int32)), .val (.ref b2), .val (.ref b16)] [(.int p3), (.int p3)]))
    have hk165 : p3 = p3 := rfl
    refine own_step (fun t k => XS.icmpNo X164.here hx rfl (hb hby at_118) rfl ((teq hk165).2) k) ?_
    show own_G p.tables e below _ (T164.setTop (mkF m 121 #[.val (.int p1), .val (.int p2), .val (.int p3), .val (.int p4), .val (.int p5), .val (.int (4 : Int32)), .val (.ref b2), .val (.ref b16)] []))
    refine own_step (fun t k => XS.aload X164.here hx rfl (hb hby at_121) rfl rfl k) ?_
    show own_G p.tables e below _ (T164.setTop (mkF m 123 #[.val (.int p1), .val (.int p2), .val (.int p3), .val (.int p4), .val (.int p5), .val (.int (4 : Int32)), .val (.ref b2), .val (.ref b16)] [(.ref b16)]))
    refine own_step (fun t k => XS.iconst X164.here hx rfl (hb hby at_123) k) ?_
    show own_G p.tables e below _ (T164.setTop (mkF m 124 #[.val (.int p1), .val (.int p2), .val (.int p3), .val (.int p4), .val (.int p5), .val (.int (4 : Int32)), .val (.ref b2), .val (.ref b16)] [(.int (2 : Int32)), (.ref b16)]))
    obtain ⟨cq166, kq166, q166a, q166b, q166c⟩ := isOf hZ e164 c154
    obtain ⟨_, _, ⟨T166, L166, k166, n166⟩, -, X166, ⟨Lc166, hQ166, l166, y166, z166⟩, st166⟩ := X164.virtualBack hx (y := (⟨"com/example/same_bytes/samebytes/NodeIds", "get", "(I)I"⟩ : MethodName)) (z := (⟨"com/example/same_bytes/samebytes/NodeIds", "get", "(I)I"⟩ : MethodName)) hown (mvT hZ (hw _ (List.mem_of_getElem? (i := 35) rfl))) (mvT hZ (hw _ (List.mem_of_getElem? (i := 36) rfl))) (notFace_of_selects (args := #[]) (mvT hZ (hw _ (List.mem_of_getElem? (i := 38) rfl)))) (mvT hZ (hw _ (List.mem_of_getElem? (i := 38) rfl))) (mvT hZ (hw _ (List.mem_of_getElem? (i := 37) rfl))) (by decide) (backOf (W := 0) (rm7 l Z a0 hw [] b16 (2 : Int32) bx21_x1 [p4, p3, p2, p1, (0 : Int32), (0 : Int32), (0 : Int32), (0 : Int32)] T152.heap n0 (Nat.le_trans Z0 K152.1) c156 w152_0 (own_inb (by decide) (Nat.le_of_ble_eq_true rfl) : own_Inb (2 : Int32) [p4, p3, p2, p1, (0 : Int32), (0 : Int32), (0 : Int32), (0 : Int32)].length)) hZ (hw _ (List.mem_of_getElem? (i := 39) rfl)) (hw _ (List.mem_of_getElem? (i := 4) rfl)) (by decide) (by decide)) q166a q166c (g := (mkF m 124 #[.val (.int p1), .val (.int p2), .val (.int p3), .val (.int p4), .val (.int p5), .val (.int (4 : Int32)), .val (.ref b2), .val (.ref b16)] [(.int (2 : Int32)), (.ref b16)])) rfl (by rw [hml]; rfl) (Steps.refl _) (argsL := [(.int (2 : Int32))]) (rest := []) (lenOf pd_0_3 rfl) rfl (by show 2 * 0 + _ ≤ _; exact Nat.le_of_eq rfl) (hb hby at_124) (fun _ _ => ⟨rfl, e164, (by decide : 3 + 0 ≤ _), (by decide : 14 + 0 ≤ _)⟩)
    dsimp only [Pt.U, Pt.locs, Pt.cells, Pt.slots] at X166 l166 y166 z166 st166 hQ166
    subst l166 y166 z166
    obtain ⟨rfl, N166q, e166⟩ := hQ166
    have N166 := Fr.app N164 N166q
    refine own_step (fun t k => st166.trans k) ?_
    show own_G p.tables e below _ (T166.setTop (mkF m 127 #[.val (.int p1), .val (.int p2), .val (.int p3), .val (.int p4), .val (.int p5), .val (.int (4 : Int32)), .val (.ref b2), .val (.ref b16)] [(.int p2)]))
    refine own_step (fun t k => XS.aload X166.here hx rfl (hb hby at_127) rfl rfl k) ?_
    show own_G p.tables e below _ (T166.setTop (mkF m 129 #[.val (.int p1), .val (.int p2), .val (.int p3), .val (.int p4), .val (.int p5), .val (.int (4 : Int32)), .val (.ref b2), .val (.ref b16)] [(.ref b2), (.int p2)]))
    refine own_step (fun t k => XS.iload X166.here hx rfl (hb hby at_129) rfl k) ?_
    show own_G p.tables e below _ (T166.setTop (mkF m 131 #[.val (.int p1), .val (.int p2), .val (.int p3), .val (.int p4), .val (.int p5), .val (.int (4 : Int32)), .val (.ref b2), .val (.ref b16)] [(.int (4 : Int32)), (.ref b2), (.int p2)]))
    refine own_step (fun t k => XS.iconst X166.here hx rfl (hb hby at_131) k) ?_
    show own_G p.tables e below _ (T166.setTop (mkF m 132 #[.val (.int p1), .val (.int p2), .val (.int p3), .val (.int p4), .val (.int p5), .val (.int (4 : Int32)), .val (.ref b2), .val (.ref b16)] [(.int (2 : Int32)), (.int (4 : Int32)), (.ref b2), (.int p2)]))
    obtain ⟨_, _, ⟨T167, L167, k167, n167⟩, -, X167, ⟨Lc167, hQ167, l167, y167, z167⟩, st167⟩ := Jvm.LawKit.callS X166 hx (y := (⟨"com/example/same_bytes/samebytes/NodeIdsReversePinLaw", "expect", "([III)I"⟩ : MethodName)) hown (mvT hZ (hw _ (List.mem_of_getElem? (i := 40) rfl))) (mvT hZ (hw _ (List.mem_of_getElem? (i := 41) rfl))) (mvT hZ (hw _ (List.mem_of_getElem? (i := 42) rfl))) (mvT hZ (hw _ (List.mem_of_getElem? (i := 43) rfl))) (by decide) (backOf (W := 1) (rm8_e4_2 l Z a0 hw [] b2 p1 p2 p3 p4 T152.heap n0 (Nat.le_trans Z0 K152.1) c153) hZ (hw _ (List.mem_of_getElem? (i := 43) rfl)) (hw _ (List.mem_of_getElem? (i := 42) rfl)) (by decide) (by decide)) (g := (mkF m 132 #[.val (.int p1), .val (.int p2), .val (.int p3), .val (.int p4), .val (.int p5), .val (.int (4 : Int32)), .val (.ref b2), .val (.ref b16)] [(.int (2 : Int32)), (.int (4 : Int32)), (.ref b2), (.int p2)])) rfl (by rw [hml]; rfl) (argsL := [(.ref b2), (.int (4 : Int32)), (.int (2 : Int32))]) (rest := [(.int p2)]) (lenOf pd_0_4 rfl) rfl (by show 2 * 0 + _ ≤ _; exact Nat.le_of_eq rfl) (hb hby at_132) (fun _ _ => ⟨rfl, e166, (by decide : 3 + 0 ≤ _), (by decide : 14 + 0 ≤ _)⟩)
    dsimp only [Pt.U, Pt.locs, Pt.cells, Pt.slots] at X167 l167 y167 z167 st167 hQ167
    subst l167 y167 z167
    obtain ⟨rfl, N167q, e167⟩ := hQ167
    have N167 := Fr.app N166 N167q
    refine own_step st167 ?_
    show own_G p.tables e below _ (T167.setTop (mkF m 135 #[.val (.int p1), .val (.int p2), .val (.int p3), .val (.int p4), .val (.int p5), .val (.int (4 : Int32)), .val (.ref b2), .val (.ref b16)] [(.int p2), (.int p2)]))
    have hk168 : p2 = p2 := rfl
    refine own_step (fun t k => XS.icmpNo X167.here hx rfl (hb hby at_135) rfl ((teq hk168).2) k) ?_
    show own_G p.tables e below _ (T167.setTop (mkF m 138 #[.val (.int p1), .val (.int p2), .val (.int p3), .val (.int p4), .val (.int p5), .val (.int (4 : Int32)), .val (.ref b2), .val (.ref b16)] []))
    refine own_step (fun t k => XS.aload X167.here hx rfl (hb hby at_138) rfl rfl k) ?_
    show own_G p.tables e below _ (T167.setTop (mkF m 140 #[.val (.int p1), .val (.int p2), .val (.int p3), .val (.int p4), .val (.int p5), .val (.int (4 : Int32)), .val (.ref b2), .val (.ref b16)] [(.ref b16)]))
    refine own_step (fun t k => XS.iconst X167.here hx rfl (hb hby at_140) k) ?_
    show own_G p.tables e below _ (T167.setTop (mkF m 141 #[.val (.int p1), .val (.int p2), .val (.int p3), .val (.int p4), .val (.int p5), .val (.int (4 : Int32)), .val (.ref b2), .val (.ref b16)] [(.int (3 : Int32)), (.ref b16)]))
    obtain ⟨cq169, kq169, q169a, q169b, q169c⟩ := isOf hZ e167 c154
    obtain ⟨_, _, ⟨T169, L169, k169, n169⟩, -, X169, ⟨Lc169, hQ169, l169, y169, z169⟩, st169⟩ := X167.virtualBack hx (y := (⟨"com/example/same_bytes/samebytes/NodeIds", "get", "(I)I"⟩ : MethodName)) (z := (⟨"com/example/same_bytes/samebytes/NodeIds", "get", "(I)I"⟩ : MethodName)) hown (mvT hZ (hw _ (List.mem_of_getElem? (i := 35) rfl))) (mvT hZ (hw _ (List.mem_of_getElem? (i := 36) rfl))) (notFace_of_selects (args := #[]) (mvT hZ (hw _ (List.mem_of_getElem? (i := 38) rfl)))) (mvT hZ (hw _ (List.mem_of_getElem? (i := 38) rfl))) (mvT hZ (hw _ (List.mem_of_getElem? (i := 37) rfl))) (by decide) (backOf (W := 0) (rm7 l Z a0 hw [] b16 (3 : Int32) bx21_x1 [p4, p3, p2, p1, (0 : Int32), (0 : Int32), (0 : Int32), (0 : Int32)] T152.heap n0 (Nat.le_trans Z0 K152.1) c156 w152_0 (own_inb (by decide) (Nat.le_of_ble_eq_true rfl) : own_Inb (3 : Int32) [p4, p3, p2, p1, (0 : Int32), (0 : Int32), (0 : Int32), (0 : Int32)].length)) hZ (hw _ (List.mem_of_getElem? (i := 39) rfl)) (hw _ (List.mem_of_getElem? (i := 4) rfl)) (by decide) (by decide)) q169a q169c (g := (mkF m 141 #[.val (.int p1), .val (.int p2), .val (.int p3), .val (.int p4), .val (.int p5), .val (.int (4 : Int32)), .val (.ref b2), .val (.ref b16)] [(.int (3 : Int32)), (.ref b16)])) rfl (by rw [hml]; rfl) (Steps.refl _) (argsL := [(.int (3 : Int32))]) (rest := []) (lenOf pd_0_3 rfl) rfl (by show 2 * 0 + _ ≤ _; exact Nat.le_of_eq rfl) (hb hby at_141) (fun _ _ => ⟨rfl, e167, (by decide : 3 + 0 ≤ _), (by decide : 14 + 0 ≤ _)⟩)
    dsimp only [Pt.U, Pt.locs, Pt.cells, Pt.slots] at X169 l169 y169 z169 st169 hQ169
    subst l169 y169 z169
    obtain ⟨rfl, N169q, e169⟩ := hQ169
    have N169 := Fr.app N167 N169q
    refine own_step (fun t k => st169.trans k) ?_
    show own_G p.tables e below _ (T169.setTop (mkF m 144 #[.val (.int p1), .val (.int p2), .val (.int p3), .val (.int p4), .val (.int p5), .val (.int (4 : Int32)), .val (.ref b2), .val (.ref b16)] [(.int p1)]))
    refine own_step (fun t k => XS.aload X169.here hx rfl (hb hby at_144) rfl rfl k) ?_
    show own_G p.tables e below _ (T169.setTop (mkF m 146 #[.val (.int p1), .val (.int p2), .val (.int p3), .val (.int p4), .val (.int p5), .val (.int (4 : Int32)), .val (.ref b2), .val (.ref b16)] [(.ref b2), (.int p1)]))
    refine own_step (fun t k => XS.iload X169.here hx rfl (hb hby at_146) rfl k) ?_
    show own_G p.tables e below _ (T169.setTop (mkF m 148 #[.val (.int p1), .val (.int p2), .val (.int p3), .val (.int p4), .val (.int p5), .val (.int (4 : Int32)), .val (.ref b2), .val (.ref b16)] [(.int (4 : Int32)), (.ref b2), (.int p1)]))
    refine own_step (fun t k => XS.iconst X169.here hx rfl (hb hby at_148) k) ?_
    show own_G p.tables e below _ (T169.setTop (mkF m 149 #[.val (.int p1), .val (.int p2), .val (.int p3), .val (.int p4), .val (.int p5), .val (.int (4 : Int32)), .val (.ref b2), .val (.ref b16)] [(.int (3 : Int32)), (.int (4 : Int32)), (.ref b2), (.int p1)]))
    obtain ⟨_, _, ⟨T170, L170, k170, n170⟩, -, X170, ⟨Lc170, hQ170, l170, y170, z170⟩, st170⟩ := Jvm.LawKit.callS X169 hx (y := (⟨"com/example/same_bytes/samebytes/NodeIdsReversePinLaw", "expect", "([III)I"⟩ : MethodName)) hown (mvT hZ (hw _ (List.mem_of_getElem? (i := 40) rfl))) (mvT hZ (hw _ (List.mem_of_getElem? (i := 41) rfl))) (mvT hZ (hw _ (List.mem_of_getElem? (i := 42) rfl))) (mvT hZ (hw _ (List.mem_of_getElem? (i := 43) rfl))) (by decide) (backOf (W := 1) (rm8_e4_3 l Z a0 hw [] b2 p1 p2 p3 p4 T152.heap n0 (Nat.le_trans Z0 K152.1) c153) hZ (hw _ (List.mem_of_getElem? (i := 43) rfl)) (hw _ (List.mem_of_getElem? (i := 42) rfl)) (by decide) (by decide)) (g := (mkF m 149 #[.val (.int p1), .val (.int p2), .val (.int p3), .val (.int p4), .val (.int p5), .val (.int (4 : Int32)), .val (.ref b2), .val (.ref b16)] [(.int (3 : Int32)), (.int (4 : Int32)), (.ref b2), (.int p1)])) rfl (by rw [hml]; rfl) (argsL := [(.ref b2), (.int (4 : Int32)), (.int (3 : Int32))]) (rest := [(.int p1)]) (lenOf pd_0_4 rfl) rfl (by show 2 * 0 + _ ≤ _; exact Nat.le_of_eq rfl) (hb hby at_149) (fun _ _ => ⟨rfl, e169, (by decide : 3 + 0 ≤ _), (by decide : 14 + 0 ≤ _)⟩)
    dsimp only [Pt.U, Pt.locs, Pt.cells, Pt.slots] at X170 l170 y170 z170 st170 hQ170
    subst l170 y170 z170
    obtain ⟨rfl, N170q, e170⟩ := hQ170
    have N170 := Fr.app N169 N170q
    refine own_step st170 ?_
    show own_G p.tables e below _ (T170.setTop (mkF m 152 #[.val (.int p1), .val (.int p2), .val (.int p3), .val (.int p4), .val (.int p5), .val (.int (4 : Int32)), .val (.ref b2), .val (.ref b16)] [(.int p1), (.int p1)]))
    have hk171 : p1 = p1 := rfl
    refine own_step (fun t k => XS.icmpNo X170.here hx rfl (hb hby at_152) rfl ((teq hk171).2) k) ?_
    show own_G p.tables e below _ (T170.setTop (mkF m 155 #[.val (.int p1), .val (.int p2), .val (.int p3), .val (.int p4), .val (.int p5), .val (.int (4 : Int32)), .val (.ref b2), .val (.ref b16)] []))
    refine own_step (fun t k => XS.iconst X170.here hx rfl (hb hby at_155) k) ?_
    show own_G p.tables e below _ (T170.setTop (mkF m 156 #[.val (.int p1), .val (.int p2), .val (.int p3), .val (.int p4), .val (.int p5), .val (.int (4 : Int32)), .val (.ref b2), .val (.ref b16)] [(.int (1 : Int32))]))
    refine own_step (fun t k => XS.goto X170.here hx rfl (pc0 := 156) (pc' := 160) rfl (hb hby at_156) (by decide) (by decide) k) ?_
    show own_G p.tables e below _ (T170.setTop (mkF m 160 #[.val (.int p1), .val (.int p2), .val (.int p3), .val (.int p4), .val (.int p5), .val (.int (4 : Int32)), .val (.ref b2), .val (.ref b16)] [(.int (1 : Int32))]))
    obtain ⟨fs, hr, hrun, hended, hW, hsame⟩ := X170.leave (v := some (.int (1 : Int32))) (fun h => by rw [Bd.returns] at h; cases h)
    refine own_done (retN X170 hx (t := .boolean) Bd.returns (by simp) (hb hby at_160) hr) hrun hended ⟨_, _, rfl, ?_, ⟨_, rfl⟩, hW, hsame.mono (by decide) (by decide)⟩
    show Q0 Z p1 p2 p3 p4 p5 h0 n0 _ T170.heap _
    rw [e170]
    exact ⟨rfl, N170⟩
set_option maxRecDepth 65536 in
set_option maxHeartbeats 40000000 in
theorem comes_1 {Post : Tables → Env → Array Value → State → Outcome → State → Prop} (hpost : ∀ tb e args s v u, (limb_1_1.after args s (.returned v) u = true ∧ limb_1_2.after args s (.returned v) u = true ∧ True) → FrameEnd s (.returned v) u (Jvm.fieldLocs frame_1_writes args s ++ Jvm.arrayLocs frame_1_arrays args s ++ Jvm.staticLocs frame_1_statics s) 16 128 → Post tb e args s (.returned v) u) :
    ArmFor flags0 classFile x code maxLocals ret World_1 tables_1 room_1 Calls_1 rest_1 Pre_1 Post := by
  intro l hfl _ _ p e ha hc hk s m args below hf hA hF happ hP
  obtain ⟨hcalls, hrest, hpre⟩ := hP
  obtain ⟨-, -, -, hnamed, -, -, -, hat⟩ := (Spec.applies_iff hf).mp happ
  obtain ⟨hg, hn⟩ := and_e (Cond.before_iff.mp (show (Jvm.Cond.and given_1 narrow_1).before args s = true from hpre))
  obtain ⟨g1, g2⟩ := and_e hg
  obtain ⟨g3, g4⟩ := and_e g2
  obtain ⟨g5, g6⟩ := and_e g4
  obtain ⟨g7, g8⟩ := and_e g6
  obtain ⟨g9, g10⟩ := and_e g8
  obtain ⟨w0, w1, w2, w3, w4, rfl⟩ : ∃ w0 w1 w2 w3 w4 : Value, args = #[w0, w1, w2, w3, w4] := by
    have hs : args.size = 5 := by simpa [Cond.value, given_1] using g1
    obtain ⟨L⟩ := args
    match L, hs with
    | [w0, w1, w2, w3, w4], _ => exact ⟨w0, w1, w2, w3, w4, rfl⟩
  have hw := fun d (hd : d ∈ tables_1) => atoms_spec (ws := Jvm.Cond.code x code maxLocals ret :: tables_1) hat d (List.mem_cons_of_mem _ hd)
  obtain ⟨i0, ei0⟩ := is_v g3
  obtain rfl : w0 = (.int i0) := Option.some.inj ei0
  obtain ⟨i1, ei1⟩ := is_v g5
  obtain rfl : w1 = (.int i1) := Option.some.inj ei1
  obtain ⟨i2, ei2⟩ := is_v g7
  obtain rfl : w2 = (.int i2) := Option.some.inj ei2
  obtain ⟨i3, ei3⟩ := is_v g9
  obtain rfl : w3 = (.int i3) := Option.some.inj ei3
  obtain ⟨i4, ei4⟩ := is_v g10
  obtain rfl : w4 = (.int i4) := Option.some.inj ei4
  obtain ⟨n, o, h1, h2, h3, _, L, rfl, ⟨rfl, N⟩, hq⟩ := rm0 l s _ hw tables_1 i0 i1 i2 i3 i4 s.heap s.heap.size (Nat.le_refl _)  p e ha hc hk s m _ below hf ((Spec.applies_iff_loose hf).mp happ).1 ⟨rfl, State.Warmed39.refl s, rfl⟩ trivial
  refine ⟨n, _, h1, h2, h3, hpost _ _ _ _ _ _ ⟨Cond.after_iff.mpr rfl, Cond.after_iff.mpr (eq_i res_at (Term.int_eval (1)) rfl), trivial⟩ ⟨hq.1, hq.2.1, (hq.2.2.sift fun y hy => Or.inr (N y hy)).mono (by decide) (by decide)⟩⟩
theorem main_1_1 : Claimed_1_1 := comes_1 fun _ _ _ _ _ _ h hF => ⟨h.1, hF⟩
theorem main_1_2 : Claimed_1_2 := comes_1 fun _ _ _ _ _ _ h hF => ⟨h.2.1, hF⟩
end Jvm.Pilot.@@N@@
namespace Jvm.Pilot.@@N@@
open Jvm Jvm.ClassFile Sem Op Lib Jvm.Free Jvm.Stand Jvm.Pilot.@@N@@.Jvm.D
/-! MADE BY PROGRAM (witnessworld.py) out of the Statement's table words and the real class files: 9 classes; the members and pool entries that the words name. The judged class is class 1, her method 1. -/
namespace start1
open Jvm.ClassFile
def u (s : String) : CpInfo := .utf8 (stringToUtf16 s)
/-- a pool by its gaps: so many unusable entries, then the entry; so many at the end -/
def gap : Nat → List CpInfo → List CpInfo
  | 0, r => r
  | n + 1, r => .unusable :: gap n r
def poolList (es : List (Nat × CpInfo)) (last : Nat) : List CpInfo := es.foldr (fun e r => gap e.1 (e.2 :: r)) (gap last [])
def pool (es : List (Nat × CpInfo)) (last : Nat) : Array CpInfo := ⟨poolList es last⟩
def fileOf (pool : Array CpInfo) (this : Nat) (attrs : Array Attribute := #[]) (ms : Array MethodInfo := #[]) (fl : Nat := 33) (sup : Nat := 0) (ifs : Array Nat := #[]) (fds : Array FieldInfo := #[]) : ClassFile where
  minorVersion := 0
  majorVersion := 65
  constantPool := pool
  accessFlags := fl
  thisClass := this
  superClass := sup
  interfaces := ifs
  fields := fds
  methods := ms
  attributes := attrs
def plain (name : String) (sup : Option ClassId) : Class where
  name := name
  kind := .ordinary
  loader := none
  accessFlags := 33
  super := sup
  interfaces := #[]
  cf := none
  fields := #[]
  methods := #[]
  instanceTypes := #[]
  staticTypes := #[]
  resolved := #[]
  callSites := []
  init := .initialized
  statics := none
  mirror := none

def pool0 : Array CpInfo := pool [(5, u "<init>"), (0, u "()V"), (1, .class_ 10), (1, u "java/lang/Object")] 113

def k0c0 : Code := { maxStack := 0, maxLocals := 1, code := object_method_1_code, exceptionTable := #[], attributes := #[] }
def k0m0 : Method := { name := "<init>", desc := "()V", sig := { parameters := [], returnType := none }, accessFlags := 1, code := some k0c0 }
/-- java/lang/Object -/
def k0 : Class := { plain "java/lang/Object" none with
  accessFlags := 33
  interfaces := #[]
  cf := some (fileOf pool0 8 #[] #[{ accessFlags := 1, nameIndex := 5, descriptorIndex := 6, attributes := #[] }] 33 0 #[] #[])
  fields := #[]
  methods := #[k0m0]
  instanceTypes := #[]
  staticTypes := #[]
  resolved := Array.replicate 124 none
  statics := none }

def pool1 : Array CpInfo := pool [(2, .class_ 4), (0, .nameAndType 5 6), (0, u "java/lang/Object"), (0, u "<init>"), (0, u "()V"), (0, .integer 2147483647), (0, .class_ 9), (0, u "com/example/same_bytes/samebytes/NodeIds"), (0, .methodref 8 3), (0, .methodref 8 12), (0, .nameAndType 13 14), (0, u "add"), (0, u "(I)V"), (0, .methodref 8 16), (0, .nameAndType 17 14), (0, u "truncate"), (0, .methodref 8 19), (0, .nameAndType 20 6), (0, u "reverse"), (0, .methodref 8 22), (0, .nameAndType 23 24), (0, u "size"), (0, u "()I"), (0, .methodref 8 26), (0, .nameAndType 27 28), (0, u "get"), (0, u "(I)I"), (0, .methodref 30 31), (0, .class_ 32), (0, .nameAndType 33 34), (0, u "com/example/same_bytes/samebytes/NodeIdsReversePinLaw"), (0, u "expect"), (0, u "([III)I"), (2, u "law"), (0, u "(IIIII)Z")] 5

def k1m0 : Method := { name := "<init>", desc := "()V", sig := { parameters := [], returnType := none }, accessFlags := 1, code := none }
def k1c1 : Code := { maxStack := 4, maxLocals := 8, code := code, exceptionTable := #[], attributes := #[] }
def k1m1 : Method := { name := "law", desc := "(IIIII)Z", sig := { parameters := [.int, .int, .int, .int, .int], returnType := some .boolean }, accessFlags := 9, code := some k1c1 }
def k1c2 : Code := { maxStack := 3, maxLocals := 3, code := method_3_code, exceptionTable := #[], attributes := #[] }
def k1m2 : Method := { name := "expect", desc := "([III)I", sig := { parameters := [(.array .int), .int, .int], returnType := some .int }, accessFlags := 10, code := some k1c2 }
/-- com/example/same_bytes/samebytes/NodeIdsReversePinLaw -/
def k1 : Class := { plain "com/example/same_bytes/samebytes/NodeIdsReversePinLaw" (some 0) with
  accessFlags := 49
  interfaces := #[]
  cf := some (fileOf pool1 30 #[] #[{ accessFlags := 1, nameIndex := 5, descriptorIndex := 6, attributes := #[] }, { accessFlags := 9, nameIndex := 37, descriptorIndex := 38, attributes := #[] }, { accessFlags := 10, nameIndex := 33, descriptorIndex := 34, attributes := #[] }] 49 2 #[] #[])
  fields := #[]
  methods := #[k1m0, k1m1, k1m2]
  instanceTypes := #[]
  staticTypes := #[]
  resolved := Array.replicate 44 none
  statics := none }

def pool2 : Array CpInfo := pool [(1, .methodref 2 3), (0, .class_ 4), (0, .nameAndType 5 6), (0, u "java/lang/Object"), (0, u "<init>"), (0, u "()V"), (0, .fieldref 8 9), (0, .class_ 10), (0, .nameAndType 11 12), (0, u "com/example/same_bytes/samebytes/NodeIds"), (0, u "ids"), (0, u "[I"), (0, .fieldref 8 14), (0, .nameAndType 15 16), (0, u "size"), (0, u "I"), (32, u "()I"), (3, u "get"), (0, u "(I)I"), (0, u "add"), (0, u "(I)V"), (2, u "truncate"), (3, u "reverse")] 5

def k2c0 : Code := { maxStack := 2, maxLocals := 1, code := prog_70_method_1_code, exceptionTable := #[], attributes := #[] }
def k2m0 : Method := { name := "<init>", desc := "()V", sig := { parameters := [], returnType := none }, accessFlags := 0, code := some k2c0 }
def k2c1 : Code := { maxStack := 1, maxLocals := 1, code := prog_70_method_4_code, exceptionTable := #[], attributes := #[] }
def k2m1 : Method := { name := "size", desc := "()I", sig := { parameters := [], returnType := some .int }, accessFlags := 0, code := some k2c1 }
def k2c2 : Code := { maxStack := 2, maxLocals := 2, code := prog_70_method_6_code, exceptionTable := #[], attributes := #[] }
def k2m2 : Method := { name := "get", desc := "(I)I", sig := { parameters := [.int], returnType := some .int }, accessFlags := 0, code := some k2c2 }
def k2c3 : Code := { maxStack := 5, maxLocals := 2, code := prog_70_method_7_code, exceptionTable := #[], attributes := #[] }
def k2m3 : Method := { name := "add", desc := "(I)V", sig := { parameters := [.int], returnType := none }, accessFlags := 0, code := some k2c3 }
def k2c4 : Code := { maxStack := 2, maxLocals := 2, code := prog_70_method_9_code, exceptionTable := #[], attributes := #[] }
def k2m4 : Method := { name := "truncate", desc := "(I)V", sig := { parameters := [.int], returnType := none }, accessFlags := 0, code := some k2c4 }
def k2c5 : Code := { maxStack := 4, maxLocals := 4, code := prog_70_method_12_code, exceptionTable := #[], attributes := #[] }
def k2m5 : Method := { name := "reverse", desc := "()V", sig := { parameters := [], returnType := none }, accessFlags := 0, code := some k2c5 }
/-- com/example/same_bytes/samebytes/NodeIds -/
def k2 : Class := { plain "com/example/same_bytes/samebytes/NodeIds" (some 0) with
  accessFlags := 48
  interfaces := #[]
  cf := some (fileOf pool2 8 #[] #[{ accessFlags := 0, nameIndex := 5, descriptorIndex := 6, attributes := #[] }, { accessFlags := 0, nameIndex := 15, descriptorIndex := 49, attributes := #[] }, { accessFlags := 0, nameIndex := 53, descriptorIndex := 54, attributes := #[] }, { accessFlags := 0, nameIndex := 55, descriptorIndex := 56, attributes := #[] }, { accessFlags := 0, nameIndex := 59, descriptorIndex := 56, attributes := #[] }, { accessFlags := 0, nameIndex := 63, descriptorIndex := 6, attributes := #[] }] 48 2 #[] #[{ accessFlags := 2, nameIndex := 11, descriptorIndex := 12, attributes := #[] }, { accessFlags := 2, nameIndex := 15, descriptorIndex := 16, attributes := #[] }])
  fields := #[{ name := "ids", type := (.array .int), accessFlags := 2, slot := 0, constantValue := 0 }, { name := "size", type := .int, accessFlags := 2, slot := 1, constantValue := 0 }]
  methods := #[k2m0, k2m1, k2m2, k2m3, k2m4, k2m5]
  instanceTypes := #[(.array .int), .int]
  staticTypes := #[]
  resolved := Array.replicate 69 none
  statics := none }

def pool3 : Array CpInfo := pool [(1, u "java/lang/Cloneable"), (0, .class_ 1), (0, u "java/lang/Object"), (0, .class_ 3)] 3

/-- java/lang/Cloneable -/
def k3 : Class := { plain "java/lang/Cloneable" (some 0) with
  accessFlags := 1537
  interfaces := #[]
  cf := some (fileOf pool3 2 #[] #[] 1537 4 #[] #[])
  fields := #[]
  methods := #[]
  instanceTypes := #[]
  staticTypes := #[]
  resolved := Array.replicate 8 none
  statics := none }

def pool4 : Array CpInfo := pool [(1, u "java/io/Serializable"), (0, .class_ 1), (0, u "java/lang/Object"), (0, .class_ 3)] 3

/-- java/io/Serializable -/
def k4 : Class := { plain "java/io/Serializable" (some 0) with
  accessFlags := 1537
  interfaces := #[]
  cf := some (fileOf pool4 2 #[] #[] 1537 4 #[] #[])
  fields := #[]
  methods := #[]
  instanceTypes := #[]
  staticTypes := #[]
  resolved := Array.replicate 8 none
  statics := none }

/-- the primitive byte -/
def k5 : Class := { plain "byte" none with kind := .primitive 'B', accessFlags := 0x411 }
/-- [B -/
def k6 : Class := { plain "[B" (some 0) with kind := .array 5 .byte, interfaces := #[3, 4], accessFlags := 1041 }

/-- the primitive int -/
def k7 : Class := { plain "int" none with kind := .primitive 'I', accessFlags := 0x411 }
/-- [I -/
def k8 : Class := { plain "[I" (some 0) with kind := .array 7 .int, interfaces := #[3, 4], accessFlags := 1041 }

def heap : Heap := #[]
def classes : Array Class := #[k0, k1, k2, k3, k4, k5, k6, k7, k8]
def interned : List (Array UInt16 × Addr) := []
def slotsUsed : Nat := 0
def theMethod : MethodId := ⟨1, 1⟩
def args0 : Array Value := #[.int 5, .int 7, .int 1, .int 2, .int 3]
def aboutOver (below : List Frame) : State where
  vm := { classes := classes, interned := interned.toArray }
  heap := heap
  slotsUsed := slotsUsed
  threads := #[{ frames := .invoking theMethod args0 :: below }]
def below0 : List Frame := [.native { method := ⟨0, 0⟩, args := #[] }]
def about1 : State := aboutOver below0
def p0 : Program := .bare "" "" ""
def e0 : Env := launch0.env 0 0 0
theorem w_frames : about1.frames = Frame.invoking theMethod args0 :: below0 := rfl
set_option maxRecDepth 65536 in
theorem w_args : argsFit about1.vm theMethod args0 = true := by decide +kernel
set_option maxRecDepth 65536 in
theorem w_heap : heapFits about1 = true := by decide +kernel
set_option maxRecDepth 65536 in
theorem w_runnable : about1.curStatus? = some .runnable := by decide +kernel
set_option maxRecDepth 65536 in
theorem w_alone : about1.alone = true := by decide +kernel
set_option maxRecDepth 65536 in
theorem w_named : about1.methodNamed? x = some theMethod := by decide +kernel
set_option maxRecDepth 65536 in
theorem w_hears : about1.hears theMethod below0 = true := by decide +kernel
set_option maxRecDepth 65536 in
theorem w_ripe : about1.ripe theMethod args0 below0 = true := by decide +kernel
theorem w_running : about1.status = .running := rfl
set_option maxRecDepth 65536 in
theorem w_room : about1.hasRoom e0.platform room_1 = true :=
  launch0.hasRoom_least _ room_1 (by decide +kernel) (by decide +kernel) (by decide +kernel) (by decide +kernel) (by decide +kernel) (by decide +kernel)
theorem allAtoms_all (ts : List Jvm.Cond) (a : Array Jvm.Value) (st : Jvm.State) : (allAtoms ts).before a st = ts.all (fun c => c.before a st) := by
  induction ts with
  | nil => rfl
  | cons c t ih =>
    show (Jvm.Cond.and c (allAtoms t)).before a st = _
    rw [Jvm.Cond.before_and, ih, List.all_cons]
def words1 : List Jvm.Cond := Jvm.Cond.code x code maxLocals ret :: tables_1
/-- a 'code' word, met by the world's own term for the bytes: nothing is compared byte by byte -/
theorem code_word {y : MethodName} {bytes : ByteArray} {mx : Nat} {rt : Option FieldType} {a : Array Value} {s : State} {m : MethodId} {meth : Method} {c : Code} (h1 : s.methodNamed? y = some m) (h2 : s.vm.method? m = some meth) (h3 : meth.code = some c) (h4 : c.code = bytes)
    (h5 : (c.maxLocals == mx && c.exceptionTable.isEmpty && decide (c.maxStack ≤ mostOperands) && decide (meth.sig.returnType = rt) && !meth.locks && decide (parseMethodDescriptor y.desc = some meth.sig)) = true) : (Jvm.Cond.code y bytes mx rt).before a s = true := by
  simp only [Bool.and_eq_true, beq_iff_eq, Bool.not_eq_true', decide_eq_true_eq] at h5
  obtain ⟨⟨⟨⟨⟨g1, g2⟩, g3⟩, g4⟩, g5⟩, g6⟩ := h5
  simp [Cond.before, Cond.holds, Cond.value, h1, h2, h3, h4, g1, g2, g3, g4, g5, g6]
def isCode : Jvm.Cond → Bool
  | .code _ _ _ _ => true
  | _ => false
theorem all_split {L : List Jvm.Cond} {P : Jvm.Cond → Bool} (h1 : L.all (fun c => isCode c || P c) = true) (h2 : ∀ c ∈ L.filter isCode, P c = true) : L.all P = true := by
  refine List.all_eq_true.mpr fun c hc => ?_
  have h := List.all_eq_true.mp h1 c hc
  rcases Bool.eq_false_or_eq_true (isCode c) with hi | hi
  · exact h2 c (List.mem_filter.mpr ⟨hc, hi⟩)
  · simpa [hi] using h
set_option maxRecDepth 65536 in
theorem w_c0 : (Jvm.Cond.code x code maxLocals ret).before args0 about1 = true := code_word (m := ⟨1, 1⟩) (meth := k1m1) (c := k1c1) (by decide +kernel) rfl rfl rfl (by decide +kernel)
set_option maxRecDepth 65536 in
theorem w_c1 : (Jvm.Cond.code ({ cls := "com/example/same_bytes/samebytes/NodeIds", name := "<init>", desc := "()V" } : Jvm.MethodName) prog_70_method_1_code (1 : Nat) (Option.none : Option Jvm.ClassFile.FieldType)).before args0 about1 = true := code_word (m := ⟨2, 0⟩) (meth := k2m0) (c := k2c0) (by decide +kernel) rfl rfl rfl (by decide +kernel)
set_option maxRecDepth 65536 in
theorem w_c2 : (Jvm.Cond.code ({ cls := "java/lang/Object", name := "<init>", desc := "()V" } : Jvm.MethodName) object_method_1_code (1 : Nat) (Option.none : Option Jvm.ClassFile.FieldType)).before args0 about1 = true := code_word (m := ⟨0, 0⟩) (meth := k0m0) (c := k0c0) (by decide +kernel) rfl rfl rfl (by decide +kernel)
set_option maxRecDepth 65536 in
theorem w_c3 : (Jvm.Cond.code ({ cls := "com/example/same_bytes/samebytes/NodeIds", name := "add", desc := "(I)V" } : Jvm.MethodName) prog_70_method_7_code (2 : Nat) (Option.none : Option Jvm.ClassFile.FieldType)).before args0 about1 = true := code_word (m := ⟨2, 3⟩) (meth := k2m3) (c := k2c3) (by decide +kernel) rfl rfl rfl (by decide +kernel)
set_option maxRecDepth 65536 in
theorem w_c4 : (Jvm.Cond.code ({ cls := "com/example/same_bytes/samebytes/NodeIds", name := "truncate", desc := "(I)V" } : Jvm.MethodName) prog_70_method_9_code (2 : Nat) (Option.none : Option Jvm.ClassFile.FieldType)).before args0 about1 = true := code_word (m := ⟨2, 4⟩) (meth := k2m4) (c := k2c4) (by decide +kernel) rfl rfl rfl (by decide +kernel)
set_option maxRecDepth 65536 in
theorem w_c5 : (Jvm.Cond.code ({ cls := "com/example/same_bytes/samebytes/NodeIds", name := "reverse", desc := "()V" } : Jvm.MethodName) prog_70_method_12_code (4 : Nat) (Option.none : Option Jvm.ClassFile.FieldType)).before args0 about1 = true := code_word (m := ⟨2, 5⟩) (meth := k2m5) (c := k2c5) (by decide +kernel) rfl rfl rfl (by decide +kernel)
set_option maxRecDepth 65536 in
theorem w_c6 : (Jvm.Cond.code ({ cls := "com/example/same_bytes/samebytes/NodeIds", name := "size", desc := "()I" } : Jvm.MethodName) prog_70_method_4_code (1 : Nat) (Option.some Jvm.ClassFile.FieldType.int)).before args0 about1 = true := code_word (m := ⟨2, 1⟩) (meth := k2m1) (c := k2c1) (by decide +kernel) rfl rfl rfl (by decide +kernel)
set_option maxRecDepth 65536 in
theorem w_c7 : (Jvm.Cond.code ({ cls := "com/example/same_bytes/samebytes/NodeIds", name := "get", desc := "(I)I" } : Jvm.MethodName) prog_70_method_6_code (2 : Nat) (Option.some Jvm.ClassFile.FieldType.int)).before args0 about1 = true := code_word (m := ⟨2, 2⟩) (meth := k2m2) (c := k2c2) (by decide +kernel) rfl rfl rfl (by decide +kernel)
set_option maxRecDepth 65536 in
theorem w_c8 : (Jvm.Cond.code ({ cls := "com/example/same_bytes/samebytes/NodeIdsReversePinLaw", name := "expect", desc := "([III)I" } : Jvm.MethodName) method_3_code (3 : Nat) (Option.some Jvm.ClassFile.FieldType.int)).before args0 about1 = true := code_word (m := ⟨1, 2⟩) (meth := k1m2) (c := k1c2) (by decide +kernel) rfl rfl rfl (by decide +kernel)
def codes1 : List Jvm.Cond := [Jvm.Cond.code x code maxLocals ret, Jvm.Cond.code ({ cls := "com/example/same_bytes/samebytes/NodeIds", name := "<init>", desc := "()V" } : Jvm.MethodName) prog_70_method_1_code (1 : Nat) (Option.none : Option Jvm.ClassFile.FieldType), Jvm.Cond.code ({ cls := "java/lang/Object", name := "<init>", desc := "()V" } : Jvm.MethodName) object_method_1_code (1 : Nat) (Option.none : Option Jvm.ClassFile.FieldType), Jvm.Cond.code ({ cls := "com/example/same_bytes/samebytes/NodeIds", name := "add", desc := "(I)V" } : Jvm.MethodName) prog_70_method_7_code (2 : Nat) (Option.none : Option Jvm.ClassFile.FieldType), Jvm.Cond.code ({ cls := "com/example/same_bytes/samebytes/NodeIds", name := "truncate", desc := "(I)V" } : Jvm.MethodName) prog_70_method_9_code (2 : Nat) (Option.none : Option Jvm.ClassFile.FieldType), Jvm.Cond.code ({ cls := "com/example/same_bytes/samebytes/NodeIds", name := "reverse", desc := "()V" } : Jvm.MethodName) prog_70_method_12_code (4 : Nat) (Option.none : Option Jvm.ClassFile.FieldType), Jvm.Cond.code ({ cls := "com/example/same_bytes/samebytes/NodeIds", name := "size", desc := "()I" } : Jvm.MethodName) prog_70_method_4_code (1 : Nat) (Option.some Jvm.ClassFile.FieldType.int), Jvm.Cond.code ({ cls := "com/example/same_bytes/samebytes/NodeIds", name := "get", desc := "(I)I" } : Jvm.MethodName) prog_70_method_6_code (2 : Nat) (Option.some Jvm.ClassFile.FieldType.int), Jvm.Cond.code ({ cls := "com/example/same_bytes/samebytes/NodeIdsReversePinLaw", name := "expect", desc := "([III)I" } : Jvm.MethodName) method_3_code (3 : Nat) (Option.some Jvm.ClassFile.FieldType.int)]
set_option maxRecDepth 65536 in
theorem codes_eq : words1.filter isCode = codes1 := rfl
theorem w_codes : ∀ c ∈ words1.filter isCode, c.before args0 about1 = true := by
  rw [codes_eq]
  intro c hc
  simp only [codes1, List.mem_cons, List.not_mem_nil, or_false] at hc
  rcases hc with rfl | rfl | rfl | rfl | rfl | rfl | rfl | rfl | rfl
  · exact w_c0
  · exact w_c1
  · exact w_c2
  · exact w_c3
  · exact w_c4
  · exact w_c5
  · exact w_c6
  · exact w_c7
  · exact w_c8
set_option maxRecDepth 65536 in
theorem w_t1 : (words1.take 24).all (fun c => isCode c || c.before args0 about1) = true := by decide +kernel
set_option maxRecDepth 65536 in
theorem w_t2 : (words1.drop 24).all (fun c => isCode c || c.before args0 about1) = true := by decide +kernel
theorem w_tables : (allAtoms (Jvm.Cond.code x code maxLocals ret :: tables_1)).before args0 about1 = true := by
  rw [allAtoms_all]
  show words1.all (fun c => c.before args0 about1) = true
  refine all_split ?_ w_codes
  rw [← List.take_append_drop 24 words1, List.all_append, w_t1, w_t2]
  rfl
set_option maxRecDepth 65536 in
theorem w_case : (Jvm.Cond.and given_1 narrow_1).before args0 about1 = true := by decide +kernel
theorem w_applies : (headSpec (Jvm.Cond.code x code maxLocals ret :: tables_1) room_1).applies x e0.platform about1 = true :=
  (Spec.applies_iff w_frames).mpr ⟨w_running, w_runnable, w_alone, w_named, w_hears, w_ripe, w_room, w_tables⟩
theorem atStart : AtStart classFile x code maxLocals ret World_1 tables_1 room_1 Calls_1 rest_1 Pre_1 launch0 p0 e0 about1 theMethod args0 below0 :=
  ⟨lists_1, trivial, launch0.admits_env _ _ _, launch0.least_env, fairChoices_fair.cas, fairChoices_fair.clock, w_frames, w_args, w_heap, w_applies, trivial, trivial, w_case⟩
end start1
theorem witness_1 : WitnessClaimed_1 := ⟨start1.p0, start1.e0, start1.about1, start1.theMethod, start1.args0, start1.below0, start1.atStart⟩
end Jvm.Pilot.@@N@@
