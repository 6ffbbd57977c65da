import JvmDerived
import JvmDerived.Pilot.@@N@@Statement
import JvmDerived.Pilot.@@N@@Code
set_option linter.unusedVariables false
set_option linter.unusedSimpArgs false
@@BLOCK:NumsL.lean.txt@@
namespace Jvm.RoadKit
open Sem ClassFile Op Lib Jvm.Stand Jvm.Free Jvm.LawKit
section New
variable {p : Program} {l : Launch} {e : Env} {R : Room} {s : State} {m : MethodId} {args : Array Value} {below : List Frame} {meth : Method} {c : Code} {T : State} {locs : List Loc} {cells slots : Nat}
theorem retI (X : Stand p l e R s m args below meth c T locs cells slots) (hx : p.tables.exec = Jvm.exec) {pc : Nat} {Ls : Array Slot} {z : Int32} {rest : List Value} (hret : meth.sig.returnType = some .int) (hd : decode c.code pc = .ok (.ireturn, 1)) {fs : List Frame}
    (hl : ∀ (f : JFrame) (acts : List Action), f.method = m → f.locked = none → f.entered = [] → (doReturn e (T.setTop f) acts (some (.int z))).1 = T.setFrames fs) : Steps p.tables e below (T.setTop (mkF m pc Ls (.int z :: rest))) (T.setFrames fs) := by
  have hm' : T.vm.method? m = some meth := X.method'
  have hn : narrow .int (.int z) = .int z := rfl
  show Steps p.tables e below (T.setTop { method := m, pc := pc, locals := Ls, stack := _ :: rest, locked := none }) _
  jvm_step X.here [X.here.top, hx, hd, hm', hret, hn]
  first | (intro acts; rw [hl _ acts rfl rfl rfl]) | rw [hl _ _ rfl rfl rfl]
  exact Steps.refl _
theorem own_retJ (X : Stand p l e R s m args below meth c T locs cells slots) (hx : p.tables.exec = Jvm.exec) {pc : Nat} {Ls : Array Slot} {z : Int64} {rest : List Value} (hret : meth.sig.returnType = some .long) (hd : decode c.code pc = .ok (.lreturn, 1)) {fs : List Frame}
    (hl : ∀ (f : JFrame) (acts : List Action), f.method = m → f.locked = none → f.entered = [] → (doReturn e (T.setTop f) acts (some (.long z))).1 = T.setFrames fs) : Steps p.tables e below (T.setTop (mkF m pc Ls (.long z :: rest))) (T.setFrames fs) := by
  have hm' : T.vm.method? m = some meth := X.method'
  show Steps p.tables e below (T.setTop { method := m, pc := pc, locals := Ls, stack := _ :: rest, locked := none }) _
  jvm_step X.here [X.here.top, hx, hd, hm', hret, narrow]
  first | (intro acts; rw [hl _ acts rfl rfl rfl]) | rw [hl _ _ rfl rfl rfl]
  exact Steps.refl _
theorem own_retA (X : Stand p l e R s m args below meth c T locs cells slots) (hx : p.tables.exec = Jvm.exec) {pc : Nat} {Ls : Array Slot} {b : Addr} {t : FieldType} {rest : List Value} (hret : meth.sig.returnType = some t) (ht : t.isReference = true) (hb0 : b = b) (hd : decode c.code pc = .ok (.areturn, 1)) {fs : List Frame}
    (hl : ∀ (f : JFrame) (acts : List Action), f.method = m → f.locked = none → f.entered = [] → (doReturn e (T.setTop f) acts (some (.ref b))).1 = T.setFrames fs) : Steps p.tables e below (T.setTop (mkF m pc Ls (.ref b :: rest))) (T.setFrames fs) := by
  have hm' : T.vm.method? m = some meth := X.method'
  show Steps p.tables e below (T.setTop { method := m, pc := pc, locals := Ls, stack := _ :: rest, locked := none }) _
  jvm_step X.here [X.here.top, hx, hd, hm', hret, Value.isRef, ht]
  first | (intro acts; rw [hl _ acts rfl rfl rfl]) | rw [hl _ _ rfl rfl rfl]
  exact Steps.refl _
end New
/-- a walk's goal at the state A -/
def own_G (tb : Tables) (e : Env) (below : List Frame) (P : Outcome → State → Prop) (A : State) : Prop := ∃ s₂ o, Steps tb e below A s₂ ∧ s₂.status = .running ∧ Ended s₂ below o ∧ P o s₂
section Go
variable {tb : Tables} {e : Env} {below : List Frame} {P : Outcome → State → Prop} {A B : State}
theorem own_step (h : ∀ t, Steps tb e below B t → Steps tb e below A t) (k : own_G tb e below P B) : own_G tb e below P A := by
  obtain ⟨s₂, o, h1, h2⟩ := k
  exact ⟨s₂, o, h _ h1, h2⟩
theorem own_start (h : ∀ t, Steps tb e below B t → Steps tb e below A t) (k : own_G tb e below P B) : ∃ s₂ o, Steps tb e below A s₂ ∧ s₂.status = .running ∧ Ended s₂ below o ∧ P o s₂ := own_step h k
theorem own_done {s₂ : State} {o : Outcome} (h1 : Steps tb e below A s₂) (h2 : s₂.status = .running) (h3 : Ended s₂ below o) (h4 : P o s₂) : own_G tb e below P A := ⟨s₂, o, h1, h2, h3, h4⟩
theorem own_nm {α : Type} (x : α) (F : α → State) (h : ∀ v, v = x → own_G tb e below P (F v)) : own_G tb e below P (F x) := h x rfl
theorem own_gen (h : ∀ P', P' = P → own_G tb e below P' A) : own_G tb e below P A := h P rfl
theorem own_imp (h : own_G tb e below P B → own_G tb e below P A) (k : own_G tb e below P B) : own_G tb e below P A := h k
end Go
/-- an array of ints (bytes, chars, shorts) by its members; a long[] by its members -/
def own_Ari (Z : State) (h : Heap) (a : Addr) (ty : FieldType) (vs : List Int32) : Prop := ∃ c : Cell, Arr Z h a c ty ∧ c.slots.toList = vs.map Value.int ∧ vs.length < 2 ^ 31
def own_Arj (Z : State) (h : Heap) (a : Addr) (vs : List Int64) : Prop := ∃ c : Cell, Arr Z h a c .long ∧ c.slots.toList = vs.map Value.long ∧ vs.length < 2 ^ 31
def own_Inb (j : Int32) (n : Nat) : Prop := ¬ j < 0 ∧ j.toNatClampNeg < n
theorem own_inb {j : Int32} {n : Nat} (h1 : ¬ j < 0) (h2 : j.toNatClampNeg < n) : own_Inb j n := ⟨h1, h2⟩
section ArrFacts
variable {Z : State} {h h' : Heap} {a b : Addr} {ty : FieldType} {vs : List Int32} {us : List Int64} {sl : Nat} {v : Value} {L : List Addr}
theorem own_Ari.lt (F : own_Ari Z h a ty vs) : a < h.size := by obtain ⟨c, A, -⟩ := F; exact A.lt
theorem own_Ari.ext (F : own_Ari Z h a ty vs) (E : Ext h h') : own_Ari Z h' a ty vs := by obtain ⟨c, A, r⟩ := F; exact ⟨c, A.ext E, r⟩
theorem own_Ari.other (F : own_Ari Z h b ty vs) (W : Wr h h' a sl v) (q : b ≠ a) : own_Ari Z h' b ty vs := by obtain ⟨c, A, r⟩ := F; exact ⟨c, A.other W q, r⟩
theorem own_Ari.keep (F : own_Ari Z h a ty vs) (K : Keep h h' L) (q : a ∉ L) : own_Ari Z h' a ty vs := by obtain ⟨c, A, r⟩ := F; exact ⟨c, ⟨K.2.1 a c A.1 q, A.2⟩, r⟩
theorem own_Arj.lt (F : own_Arj Z h a us) : a < h.size := by obtain ⟨c, A, -⟩ := F; exact A.lt
theorem own_Arj.ext (F : own_Arj Z h a us) (E : Ext h h') : own_Arj Z h' a us := by obtain ⟨c, A, r⟩ := F; exact ⟨c, A.ext E, r⟩
theorem own_Arj.other (F : own_Arj Z h b us) (W : Wr h h' a sl v) (q : b ≠ a) : own_Arj Z h' b us := by obtain ⟨c, A, r⟩ := F; exact ⟨c, A.other W q, r⟩
theorem own_Arj.keep (F : own_Arj Z h a us) (K : Keep h h' L) (q : a ∉ L) : own_Arj Z h' a us := by obtain ⟨c, A, r⟩ := F; exact ⟨c, ⟨K.2.1 a c A.1 q, A.2⟩, r⟩
theorem own_Ari_new {cA : ClassId} {n : Int32} (A : Arr Z h b (newA cA ty n) ty) (hn : ¬ n < 0) (hd : defaultValue ty = .int 0) : own_Ari Z h b ty (List.replicate n.toNatClampNeg 0) :=
  ⟨_, A, by simp [newA, hd], by rw [List.length_replicate]; exact (back32 hn).2⟩
theorem own_Arj_new {cA : ClassId} {n : Int32} (A : Arr Z h b (newA cA .long n) .long) (hn : ¬ n < 0) : own_Arj Z h b (List.replicate n.toNatClampNeg 0) :=
  ⟨_, A, by simp [newA, defaultValue], by rw [List.length_replicate]; exact (back32 hn).2⟩
theorem own_szI {c : Cell} (S : c.slots.toList = vs.map Value.int) : c.slots.size = vs.length := by have := congrArg List.length S; simpa using this
theorem own_szJ {c : Cell} (S : c.slots.toList = us.map Value.long) : c.slots.size = us.length := by have := congrArg List.length S; simpa using this
theorem own_atI {c : Cell} {k : Nat} (S : c.slots.toList = vs.map Value.int) (hk : k < vs.length) : c.slots[k]? = some (.int (vs.getD k 0)) := by
  rw [← Array.getElem?_toList, S, List.getElem?_map, List.getD_eq_getElem?_getD, List.getElem?_eq_getElem hk]; rfl
theorem own_atJ {c : Cell} {k : Nat} (S : c.slots.toList = us.map Value.long) (hk : k < us.length) : c.slots[k]? = some (.long (us.getD k 0)) := by
  rw [← Array.getElem?_toList, S, List.getElem?_map, List.getD_eq_getElem?_getD, List.getElem?_eq_getElem hk]; rfl
theorem own_setI {c : Cell} {k : Nat} {x : Int32} (A : Arr Z h a c ty) (S : c.slots.toList = vs.map Value.int) (hl : vs.length < 2 ^ 31) (W : Wr h h' a k (.int x)) : own_Ari Z h' a ty (vs.set k x) :=
  ⟨_, A.same W, by simp [Cell.setSlot, S, List.map_set], by rw [List.length_set]; exact hl⟩
theorem own_setJ {c : Cell} {k : Nat} {x : Int64} (A : Arr Z h a c .long) (S : c.slots.toList = us.map Value.long) (hl : us.length < 2 ^ 31) (W : Wr h h' a k (.long x)) : own_Arj Z h' a (us.set k x) :=
  ⟨_, A.same W, by simp [Cell.setSlot, S, List.map_set], by rw [List.length_set]; exact hl⟩
end ArrFacts
section ArrSteps
variable {p : Program} {l : Launch} {e : Env} {R : Room} {s : State} {m : MethodId} {args : Array Value} {below : List Frame} {meth : Method} {c : Code} {T : State} {locs : List Loc} {cells slots : Nat} {Z : State} {h : Heap} {a : Addr} {vs : List Int32} {us : List Int64} {j : Int32} {g : JFrame} {rest : List Value}
theorem own_iaload (X : Stand p l e R s m args below meth c T locs cells slots) (hx : p.tables.exec = Jvm.exec) (hZ : Z.Warmed39 s.vm) (eT : T.heap = h) (F : own_Ari Z h a .int vs) (q : own_Inb j vs.length) (hg : g.method = m) (hs : g.stack = .int j :: .ref a :: rest) (hd : decode c.code g.pc = .ok (.iaload, 1)) :
    ∀ target, Steps p.tables e below (T.setTop { g with pc := g.pc + 1, stack := .int (vs.getD j.toNatClampNeg 0) :: rest }) target → Steps p.tables e below (T.setTop g) target := by
  obtain ⟨cl, A, S, hl⟩ := F
  have z := own_szI S
  exact X.iaload hx (by rw [eT]; exact A.1) (State.isArrayOf_alike hZ.alike A.2.1) A.2.2 (fun y => y.elim q.1 fun w => by have := q.2; omega) (own_atI S q.2) hg hs hd
theorem own_baload (X : Stand p l e R s m args below meth c T locs cells slots) (hx : p.tables.exec = Jvm.exec) (hZ : Z.Warmed39 s.vm) (eT : T.heap = h) (F : own_Ari Z h a .byte vs) (q : own_Inb j vs.length) (hg : g.method = m) (hs : g.stack = .int j :: .ref a :: rest) (hd : decode c.code g.pc = .ok (.baload, 1)) :
    ∀ target, Steps p.tables e below (T.setTop { g with pc := g.pc + 1, stack := .int (vs.getD j.toNatClampNeg 0) :: rest }) target → Steps p.tables e below (T.setTop g) target := by
  obtain ⟨cl, A, S, hl⟩ := F
  have z := own_szI S
  exact X.baloadBytes hx (by rw [eT]; exact A.1) (State.isArrayOf_alike hZ.alike A.2.1) A.2.2 (fun y => y.elim q.1 fun w => by have := q.2; omega) (own_atI S q.2) hg hs hd
theorem own_laload (X : Stand p l e R s m args below meth c T locs cells slots) (hx : p.tables.exec = Jvm.exec) (hZ : Z.Warmed39 s.vm) (eT : T.heap = h) (F : own_Arj Z h a us) (q : own_Inb j us.length) (hg : g.method = m) (hs : g.stack = .int j :: .ref a :: rest) (hd : decode c.code g.pc = .ok (.laload, 1)) :
    ∀ target, Steps p.tables e below (T.setTop { g with pc := g.pc + 1, stack := .long (us.getD j.toNatClampNeg 0) :: rest }) target → Steps p.tables e below (T.setTop g) target := by
  obtain ⟨cl, A, S, hl⟩ := F
  have z := own_szJ S
  exact X.laload hx (by rw [eT]; exact A.1) (State.isArrayOf_alike hZ.alike A.2.1) A.2.2 (fun y => y.elim q.1 fun w => by have := q.2; omega) (own_atJ S q.2) hg hs hd
theorem own_lenI {ty : FieldType} (X : Stand p l e R s m args below meth c T locs cells slots) (hx : p.tables.exec = Jvm.exec) (hZ : Z.Warmed39 s.vm) (eT : T.heap = h) (F : own_Ari Z h a ty vs) (hg : g.method = m) (hs : g.stack = .ref a :: rest) (hd : decode c.code g.pc = .ok (.arraylength, 1)) :
    ∀ target, Steps p.tables e below (T.setTop { g with pc := g.pc + 1, stack := .int vs.length.toInt32 :: rest }) target → Steps p.tables e below (T.setTop g) target := by
  obtain ⟨cl, A, S, hl⟩ := F
  have z := own_szI S
  have k := X.arraylength hx (by rw [eT]; exact A.1) (State.isArrayOf_alike hZ.alike A.2.1) hg hs hd
  rw [z] at k
  exact k
theorem own_lenJ (X : Stand p l e R s m args below meth c T locs cells slots) (hx : p.tables.exec = Jvm.exec) (hZ : Z.Warmed39 s.vm) (eT : T.heap = h) (F : own_Arj Z h a us) (hg : g.method = m) (hs : g.stack = .ref a :: rest) (hd : decode c.code g.pc = .ok (.arraylength, 1)) :
    ∀ target, Steps p.tables e below (T.setTop { g with pc := g.pc + 1, stack := .int us.length.toInt32 :: rest }) target → Steps p.tables e below (T.setTop g) target := by
  obtain ⟨cl, A, S, hl⟩ := F
  have z := own_szJ S
  have k := X.arraylength hx (by rw [eT]; exact A.1) (State.isArrayOf_alike hZ.alike A.2.1) hg hs hd
  rw [z] at k
  exact k
theorem own_iastore {x : Int32} (X : Stand p l e R s m args below meth c T locs cells slots) (hx : p.tables.exec = Jvm.exec) (hZ : Z.Warmed39 s.vm) (eT : T.heap = h) (F : own_Ari Z h a .int vs) (q : own_Inb j vs.length) (hg : g.method = m) (hs : g.stack = .int x :: .int j :: .ref a :: rest) (hd : decode c.code g.pc = .ok (.iastore, 1)) :
    ∃ T' h', Stand p l e R s m args below meth c T' (locs ++ [⟨a, j.toNatClampNeg⟩]) cells slots ∧ T'.heap = h' ∧ Wr h h' a j.toNatClampNeg (.int x) ∧ own_Ari Z h' a .int (vs.set j.toNatClampNeg x) ∧
      ∀ target, Steps p.tables e below (T'.setTop { g with pc := g.pc + 1, stack := rest }) target → Steps p.tables e below (T.setTop g) target := by
  obtain ⟨cl, A, S, hl⟩ := F
  have z := own_szI S
  obtain ⟨T', h', X', e', W, st⟩ := stI X hx hZ eT A (j := j) (x := x) (fun y => y.elim q.1 fun w => by have := q.2; omega) hg hs hd
  exact ⟨T', h', X', e', W, own_setI A S hl W, st⟩
theorem own_bastore {x : Int32} (X : Stand p l e R s m args below meth c T locs cells slots) (hx : p.tables.exec = Jvm.exec) (hZ : Z.Warmed39 s.vm) (eT : T.heap = h) (F : own_Ari Z h a .byte vs) (q : own_Inb j vs.length) (hg : g.method = m) (hs : g.stack = .int x :: .int j :: .ref a :: rest) (hd : decode c.code g.pc = .ok (.bastore, 1)) :
    ∃ T' h', Stand p l e R s m args below meth c T' (locs ++ [⟨a, j.toNatClampNeg⟩]) cells slots ∧ T'.heap = h' ∧ Wr h h' a j.toNatClampNeg (.int (nar .byte x)) ∧ own_Ari Z h' a .byte (vs.set j.toNatClampNeg (nar .byte x)) ∧
      ∀ target, Steps p.tables e below (T'.setTop { g with pc := g.pc + 1, stack := rest }) target → Steps p.tables e below (T.setTop g) target := by
  obtain ⟨cl, A, S, hl⟩ := F
  have z := own_szI S
  obtain ⟨T', h', X', e', W, st⟩ := stB X hx hZ eT A (j := j) (x := x) (fun y => y.elim q.1 fun w => by have := q.2; omega) hg hs hd
  exact ⟨T', h', X', e', W, own_setI A S hl W, st⟩
theorem own_lastore {x : Int64} (X : Stand p l e R s m args below meth c T locs cells slots) (hx : p.tables.exec = Jvm.exec) (hZ : Z.Warmed39 s.vm) (eT : T.heap = h) (F : own_Arj Z h a us) (q : own_Inb j us.length) (hg : g.method = m) (hs : g.stack = .long x :: .int j :: .ref a :: rest) (hd : decode c.code g.pc = .ok (.lastore, 1)) :
    ∃ T' h', Stand p l e R s m args below meth c T' (locs ++ [⟨a, j.toNatClampNeg⟩]) cells slots ∧ T'.heap = h' ∧ Wr h h' a j.toNatClampNeg (.long x) ∧ own_Arj Z h' a (us.set j.toNatClampNeg x) ∧
      ∀ target, Steps p.tables e below (T'.setTop { g with pc := g.pc + 1, stack := rest }) target → Steps p.tables e below (T.setTop g) target := by
  obtain ⟨cl, A, S, hl⟩ := F
  have z := own_szJ S
  obtain ⟨T', h', X', e', W, st⟩ := stJ X hx hZ eT A (j := j) (x := x) (fun y => y.elim q.1 fun w => by have := q.2; omega) hg hs hd
  exact ⟨T', h', X', e', W, own_setJ A S hl W, st⟩
theorem own_cloneI {a0 : Array Value} {own : String} {index : Nat} (X : Stand p l e R s m args below meth c T locs cells slots) (hx : p.tables.exec = Jvm.exec) (hZ : Z.Warmed39 s.vm) (hown : s.vm.findClass own = some m.cls)
    (w1 : (Cond.methodLink own index ⟨"[I", "clone", "()Ljava/lang/Object;"⟩).before a0 Z = true) (w2 : (Cond.sameMethod "[I" "java/lang/Object" "clone" "()Ljava/lang/Object;").before a0 Z = true) (w3 : (Cond.native ⟨"java/lang/Object", "clone", "()Ljava/lang/Object;"⟩).before a0 Z = true)
    (w4 : (Cond.instanceMethod ⟨"java/lang/Object", "clone", "()Ljava/lang/Object;"⟩).before a0 Z = true) (w5 : (Cond.selects "[I" ⟨"[I", "clone", "()Ljava/lang/Object;"⟩ ⟨"java/lang/Object", "clone", "()Ljava/lang/Object;"⟩).before a0 Z = true) (w6 : (Cond.castable "[I" "java/lang/Cloneable").before a0 Z = true)
    (eT : T.heap = h) (F : own_Ari Z h a .int vs) (E : Exa Z h a "[I") (hg : g.method = m) (hsize : g.locals.size = c.maxLocals) (hs : g.stack = .ref a :: rest) (hd : decode c.code g.pc = .ok (.invokevirtual index, 3))
    (hf : 1 ≤ R.frames) {W cap : Nat} (hW : 2 * g.monitorRoom + (rest.map fun v => v.category).sum ≤ W) (hl : W + 14 ≤ R.locals) (hcap : vs.length ≤ cap) (hc : cells + 1 ≤ R.cells) (hsl : slots + cap ≤ R.slots) :
    ∃ T' h', Stand p l e R s m args below meth c T' locs (cells + 1) (slots + cap) ∧ T'.heap = h' ∧ Ext h h' ∧ own_Ari Z h' h.size .int vs ∧ Exa Z h' h.size "[I" ∧
      ∀ target, Steps p.tables e below (T'.setTop { g with pc := g.pc + 3, stack := .ref h.size :: rest }) target → Steps p.tables e below (T.setTop g) target := by
  obtain ⟨cl, A, S, hl'⟩ := F
  have z := own_szI S
  have FC : FitC Z cl := fitC_of A fun i hi v hv => by
    rw [own_atI S (by omega)] at hv
    cases hv; rfl
  obtain ⟨T', h', X', e', ex, A', E', st⟩ := cloneA X hx hZ hown w1 w2 w3 w4 w5 w6 eT A E FC hg hsize hs hd hf hW hl (by rw [z]; exact hcap) hc hsl
  exact ⟨T', h', X', e', ex, ⟨cloneOf cl, A', S, hl'⟩, E', st⟩
end ArrSteps
/-- an Object[] of which only the length is told; one that may be written besides -/
def own_Arl (Z : State) (h : Heap) (a : Addr) (n : Nat) : Prop := ∃ c : Cell, Arr Z h a c (.object "java/lang/Object") ∧ c.slots.size = n ∧ n < 2 ^ 31
def own_Aro (Z : State) (h : Heap) (a : Addr) (n : Nat) : Prop := ∃ c : Cell, Arr Z h a c (.object "java/lang/Object") ∧ c.slots.size = n ∧ n < 2 ^ 31 ∧ Ovr Z c.cls "java/lang/Object"
section RefArr
variable {Z : State} {h h' : Heap} {a b : Addr} {n sl : Nat} {v : Value} {L : List Addr}
theorem own_Arl.lt (F : own_Arl Z h a n) : a < h.size := by obtain ⟨c, A, -⟩ := F; exact A.lt
theorem own_Arl.ext (F : own_Arl Z h a n) (E : Ext h h') : own_Arl Z h' a n := by obtain ⟨c, A, r⟩ := F; exact ⟨c, A.ext E, r⟩
theorem own_Arl.other (F : own_Arl Z h b n) (W : Wr h h' a sl v) (q : b ≠ a) : own_Arl Z h' b n := by obtain ⟨c, A, r⟩ := F; exact ⟨c, A.other W q, r⟩
theorem own_Arl.keep (F : own_Arl Z h a n) (K : Keep h h' L) (q : a ∉ L) : own_Arl Z h' a n := by obtain ⟨c, A, r⟩ := F; exact ⟨c, ⟨K.2.1 a c A.1 q, A.2⟩, r⟩
theorem own_Aro.lt (F : own_Aro Z h a n) : a < h.size := by obtain ⟨c, A, -⟩ := F; exact A.lt
theorem own_Aro.ext (F : own_Aro Z h a n) (E : Ext h h') : own_Aro Z h' a n := by obtain ⟨c, A, r⟩ := F; exact ⟨c, A.ext E, r⟩
theorem own_Aro.other (F : own_Aro Z h b n) (W : Wr h h' a sl v) (q : b ≠ a) : own_Aro Z h' b n := by obtain ⟨c, A, r⟩ := F; exact ⟨c, A.other W q, r⟩
theorem own_Aro.keep (F : own_Aro Z h a n) (K : Keep h h' L) (q : a ∉ L) : own_Aro Z h' a n := by obtain ⟨c, A, r⟩ := F; exact ⟨c, ⟨K.2.1 a c A.1 q, A.2⟩, r⟩
theorem own_Aro_new {cA : ClassId} {z : Int32} (A : Arr Z h b (newA cA (.object "java/lang/Object") z) (.object "java/lang/Object")) (O : Ovr Z cA "java/lang/Object") (hn : ¬ z < 0) (q : z.toNatClampNeg = n) : own_Aro Z h b n :=
  ⟨_, A, by rw [sz_new, q], by rw [← q]; exact (back32 hn).2, O⟩
theorem own_arlS {args : Array Value} {t : Term} (ev : t.eval args Z none [] Z = some (.ref a)) (hx : (Cond.arrayOf t (.object "java/lang/Object")).value args Z none Z [] = some true) (hl : (Term.length t).eval args Z none [] Z = some (.int n.toInt32)) (hn : n < 2 ^ 31) : own_Arl Z Z.heap a n := by
  obtain ⟨c, A⟩ := Arr.start ev hx
  have hA : Z.arrayAt? a = some c := A.fin (Vm.Alike.refl _)
  obtain ⟨a', c', e1, e2, e3⟩ := Term.length_spec hl
  cases ev.symm.trans e1
  cases hA.symm.trans e2
  have hsz : c.slots.size < 2 ^ 31 := by
    simp only [Term.eval, ev, Option.bind_eq_bind, Option.bind_some, hA] at hl
    split at hl
    · assumption
    · cases hl
  have hs : c.slots.size = n := by
    have q := Value.int.inj e3
    have q1 := congrArg Int32.toInt q
    have r1 : (n.toInt32).toInt = (n : Int) := Int32.toInt_ofNat_small (by omega)
    have r2 : (c.slots.size.toInt32).toInt = (c.slots.size : Int) := Int32.toInt_ofNat_small (by omega)
    rw [r1, r2] at q1
    omega
  exact ⟨c, A, hs, hn⟩
end RefArr
section RefSteps
variable {p : Program} {l : Launch} {e : Env} {R : Room} {s : State} {m : MethodId} {args : Array Value} {below : List Frame} {meth : Method} {c : Code} {T : State} {locs : List Loc} {cells slots : Nat} {Z : State} {h : Heap} {a y : Addr} {n : Nat} {j : Int32} {g : JFrame} {rest : List Value}
theorem own_lenL (X : Stand p l e R s m args below meth c T locs cells slots) (hx : p.tables.exec = Jvm.exec) (hZ : Z.Warmed39 s.vm) (eT : T.heap = h) (F : own_Arl Z h a n) (hg : g.method = m) (hs : g.stack = .ref a :: rest) (hd : decode c.code g.pc = .ok (.arraylength, 1)) :
    ∀ target, Steps p.tables e below (T.setTop { g with pc := g.pc + 1, stack := .int n.toInt32 :: rest }) target → Steps p.tables e below (T.setTop g) target := by
  obtain ⟨cl, A, S, hl⟩ := F
  have k := X.arraylength hx (by rw [eT]; exact A.1) (State.isArrayOf_alike hZ.alike A.2.1) hg hs hd
  rw [S] at k
  exact k
theorem own_aastore (X : Stand p l e R s m args below meth c T locs cells slots) (hx : p.tables.exec = Jvm.exec) (hZ : Z.Warmed39 s.vm) (eT : T.heap = h) (F : own_Aro Z h a n) (I : Ins Z h y "java/lang/Object" true) (q : own_Inb j n) (hg : g.method = m) (hs : g.stack = .ref y :: .int j :: .ref a :: rest) (hd : decode c.code g.pc = .ok (.aastore, 1)) :
    ∃ T' h', Stand p l e R s m args below meth c T' (locs ++ [⟨a, j.toNatClampNeg⟩]) cells slots ∧ T'.heap = h' ∧ Wr h h' a j.toNatClampNeg (.ref y) ∧ own_Aro Z h' a n ∧
      ∀ target, Steps p.tables e below (T'.setTop { g with pc := g.pc + 1, stack := rest }) target → Steps p.tables e below (T.setTop g) target := by
  obtain ⟨cl, A, S, hl, O⟩ := F
  obtain ⟨T', h', X', e', W, st⟩ := stR X hx hZ eT A (j := j) (v := .ref y) (fun w => w.elim q.1 fun z => by have := q.2; omega) rfl (Sto.of A O I) hg hs hd
  exact ⟨T', h', X', e', W, ⟨_, A.same W, by simp [Cell.setSlot, S], hl, O⟩, st⟩
end RefSteps
section StaKeep
variable {Z : State} {h h' : Heap} {L : List Addr} {C n d : String} {v : Value} {w : Addr}
def own_Ns (h : Heap) (w : Addr) : Prop := ∀ cell : Cell, h[w]? = some cell → cell.vm.isStatics = false
theorem own_nsE {K : String} (F : Exa Z h w K) : own_Ns h w := fun cell q => by
  obtain ⟨c, _, h1, -, -, h4, -⟩ := F
  cases h1.symm.trans q
  exact h4
theorem own_nsI {ty : FieldType} {vs : List Int32} (F : own_Ari Z h w ty vs) : own_Ns h w := fun cell q => by
  obtain ⟨c, A, -⟩ := F
  cases A.1.symm.trans q
  exact A.plain
theorem own_nsO {k : Nat} (F : own_Aro Z h w k) : own_Ns h w := fun cell q => by
  obtain ⟨c, A, -⟩ := F
  cases A.1.symm.trans q
  exact A.plain
theorem own_staKeep (F : Sta Z h C n d v) (K : Keep h h' L) (q : ∀ w ∈ L, own_Ns h w) : Sta Z h' C n d v := by
  obtain ⟨cf, i, k, f, st, cell, h1, h2, h3, h4, h5, h6, h7⟩ := F
  refine ⟨cf, i, k, f, st, cell, h1, h2, h3, h4, K.2.1 st cell h5 fun z => ?_, h6, h7⟩
  rw [q st z cell h5] at h6
  cases h6
end StaKeep

end Jvm.RoadKit
namespace Jvm.Pilot.@@N@@
open Jvm Jvm.ClassFile Sem Op Lib Jvm.Free Jvm.Stand Jvm.LawKit Jvm.RoadKit Bundle Jvm.Pilot.@@N@@.Jvm.D


theorem own_c255 (x : Int32) : ¬ ((255 : Int32) < ((x &&& (255 : Int32)).toUInt32.toUInt16.toUInt32.toInt32)) := by
  have h : (x &&& 255).toInt = x.toInt % 2 ^ 8 := Jvm.Kit.i32_mask x 255 (k := 8) (by decide) (by decide)
  have e : ∀ v : Int32, 0 ≤ v.toInt ∧ v.toInt ≤ 65535 → v.toUInt32.toUInt16.toUInt32.toInt32 = v := fun v hv => by
    have hb : v.toInt = v.toUInt32.toBitVec.toInt := rfl
    have hn : v.toUInt32.toBitVec.toNat = v.toUInt32.toNat := rfl
    have hl := v.toUInt32.toNat_lt
    rw [BitVec.toInt_eq_toNat_cond, hn] at hb
    have q : v.toUInt32.toUInt16.toUInt32 = v.toUInt32 := by
      refine UInt32.toNat_inj.mp ?_
      rw [UInt16.toNat_toUInt32, UInt32.toNat_toUInt16]
      split at hb <;> omega
    rw [q]; rfl
  rw [e _ ⟨by omega, by omega⟩, Int32.lt_iff_toInt_lt]
  have e255 : (255 : Int32).toInt = 255 := rfl
  omega

theorem d3_0 : decode jdk_22_method_1_code 0 = .ok (.aload_n 0, 1) := by decide +kernel
theorem d3_1 : decode jdk_22_method_1_code 1 = .ok (.invokespecial 1, 3) := by decide +kernel
theorem d3_4 : decode jdk_22_method_1_code 4 = .ok (.return_, 1) := by decide +kernel
theorem pn_3 : plainName "java/util/AbstractCollection" = true := by first | (simp [plainName, overriddenIn]; done) | decide +kernel
theorem ef_3 (m : MethodId) (a1 : Addr) : entryFrame m #[(.ref a1)] 1 = mkF m 0 #[.val (.ref a1)] [] := by first | (simp [entryFrame, mkF, argsToLocals, Value.category]; done) | rfl
def Q3 (Z : State) (a1 : Addr) (h0 : Heap) (n0 : Nat) (v : Option Value) (h : Heap) (L : List Loc) : Prop := v = none ∧ Fr n0 L ∧ h = h0
set_option maxRecDepth 65536 in
set_option maxHeartbeats 40000000 in
theorem rm3 (l : Launch) (Z : State) (a0 : Array Value) (hw : ∀ d ∈ tables_1, d.before a0 Z = true) (ws : List Jvm.Cond) (a1 : Addr) (h0 : Heap) (n0 : Nat) (Z0 : n0 ≤ h0.size) :
    MetFree l (⟨"java/util/AbstractCollection", "<init>", "()V"⟩ : MethodName) (head1 (Jvm.Cond.code (⟨"java/util/AbstractCollection", "<init>", "()V"⟩ : MethodName) jdk_22_method_1_code 1 none :: ws) ({ frames := 1, cells := 0, slots := 0, locals := 12 } : Room)) (fun a U => a = #[(.ref a1)] ∧ Z.Warmed39 U.vm ∧ U.heap = h0) (fun _ _ _ _ _ => True) (fun _ U o U' => ∃ v L, o = .returned v ∧ Q3 Z a1 h0 n0 v U'.heap L ∧ FrameEnd U o U' L ({ frames := 1, cells := 0, slots := 0, locals := 12 } : Room).cells ({ frames := 1, cells := 0, slots := 0, locals := 12 } : Room).slots) := by
  refine MetFree.of_bodySF (plainFor_of_name pn_3) hisR ?_
  intro p e s m args below meth c s₁ Bd hml0 hP hK
  obtain ⟨rfl, hZ, hh⟩ := hP
  have hx := Bd.exec
  have hby := Bd.bytes
  have hml : c.maxLocals = 1 := hml0
  have hown : s.vm.findClass "java/util/AbstractCollection" = some m.cls := findClass_of_methodNamed Bd.named
  have hnm := (name_of_methodNamed Bd.named Bd.method).1
  have X0 : Stand p l e ({ frames := 1, cells := 0, slots := 0, locals := 12 } : Room) s m #[(.ref a1)] below meth c s₁ [] 0 0 := Stand.of_body Bd
  have e0 : s₁.heap = h0 := by rw [← hh, Bd.state]; rfl
  have N0 := Fr.nil n0
  refine own_start (fun t k => castTop (ef_3 m a1) k) ?_
  show own_G p.tables e below _ (s₁.setTop (mkF m 0 #[.val (.ref a1)] []))
  refine own_step (fun t k => XS.aloadN X0.here hx rfl (hb hby d3_0) rfl rfl k) ?_
  show own_G p.tables e below _ (s₁.setTop (mkF m 1 #[.val (.ref a1)] [(.ref a1)]))
  obtain ⟨T1, X1, e1, st1⟩ := initO X0 hx hZ hown (hw _ (List.mem_of_getElem? (i := 18) rfl)) (hw _ (List.mem_of_getElem? (i := 19) rfl)) (hw _ (List.mem_of_getElem? (i := 20) rfl)) e0 (g := (mkF m 1 #[.val (.ref a1)] [(.ref a1)])) rfl (by rw [hml]; rfl) rfl (hb hby d3_1) (by decide) (W := 0) (by show 2 * 0 + _ ≤ _; exact Nat.le_of_eq rfl) (by decide)
  refine own_step st1 ?_
  show own_G p.tables e below _ (T1.setTop (mkF m 4 #[.val (.ref a1)] []))
  obtain ⟨fs, hr, hrun, hended, hW, hsame⟩ := X1.leave (v := none) (fun _ => rfl)
  refine own_done (X1.returnOut hx Bd.returns (hb hby d3_4) hr) hrun hended ⟨_, _, rfl, ?_, ⟨_, rfl⟩, hW, hsame.mono (by decide) (by decide)⟩
  show Q3 Z a1 h0 n0 _ T1.heap _
  rw [e1]
  exact ⟨rfl, N0, rfl⟩
theorem d2_0 : decode jdk_39_method_1_code 0 = .ok (.aload_n 0, 1) := by decide +kernel
theorem d2_1 : decode jdk_39_method_1_code 1 = .ok (.invokespecial 1, 3) := by decide +kernel
theorem d2_4 : decode jdk_39_method_1_code 4 = .ok (.aload_n 0, 1) := by decide +kernel
theorem d2_5 : decode jdk_39_method_1_code 5 = .ok (.iconst 0, 1) := by decide +kernel
theorem d2_6 : decode jdk_39_method_1_code 6 = .ok (.putfield 7, 3) := by decide +kernel
theorem d2_9 : decode jdk_39_method_1_code 9 = .ok (.return_, 1) := by decide +kernel
theorem pn_2 : plainName "java/util/AbstractList" = true := by first | (simp [plainName, overriddenIn]; done) | decide +kernel
theorem pd_2_0 : parseMethodDescriptor "()V" = some ⟨[], none⟩ := by decide +kernel
theorem ef_2 (m : MethodId) (a1 : Addr) : entryFrame m #[(.ref a1)] 1 = mkF m 0 #[.val (.ref a1)] [] := by first | (simp [entryFrame, mkF, argsToLocals, Value.category]; done) | rfl
def Q2 (Z : State) (a1 : Addr) (u_modCount_a1 : Value) (u_elementData_a1 : Value) (u_size_a1 : Value) (h0 : Heap) (n0 : Nat) (v : Option Value) (h : Heap) (L : List Loc) : Prop := v = none ∧ Fr n0 L ∧ Keep h0 h [a1] ∧ Fld Z h a1 "java/util/AbstractList" "modCount" "I" (.int (0 : Int32)) ∧ Fld Z h a1 "java/util/ArrayList" "elementData" "[Ljava/lang/Object;" u_elementData_a1 ∧ Fld Z h a1 "java/util/ArrayList" "size" "I" u_size_a1
set_option maxRecDepth 65536 in
set_option maxHeartbeats 40000000 in
theorem rm2 (l : Launch) (Z : State) (a0 : Array Value) (hw : ∀ d ∈ tables_1, d.before a0 Z = true) (ws : List Jvm.Cond) (a1 : Addr) (u_modCount_a1 : Value) (u_elementData_a1 : Value) (u_size_a1 : Value) (h0 : Heap) (n0 : Nat) (Z0 : n0 ≤ h0.size) (fp0 : Exa Z h0 a1 "java/util/ArrayList") (fp1 : Fld Z h0 a1 "java/util/AbstractList" "modCount" "I" u_modCount_a1) (fp2 : Fld Z h0 a1 "java/util/ArrayList" "elementData" "[Ljava/lang/Object;" u_elementData_a1) (fp3 : Fld Z h0 a1 "java/util/ArrayList" "size" "I" u_size_a1) (g_a1 : n0 ≤ a1) :
    MetFree l (⟨"java/util/AbstractList", "<init>", "()V"⟩ : MethodName) (head1 (Jvm.Cond.code (⟨"java/util/AbstractList", "<init>", "()V"⟩ : MethodName) jdk_39_method_1_code 1 none :: ws) ({ frames := 2, cells := 0, slots := 0, locals := 24 } : Room)) (fun a U => a = #[(.ref a1)] ∧ Z.Warmed39 U.vm ∧ U.heap = h0) (fun _ _ _ _ _ => True) (fun _ U o U' => ∃ v L, o = .returned v ∧ Q2 Z a1 u_modCount_a1 u_elementData_a1 u_size_a1 h0 n0 v U'.heap L ∧ FrameEnd U o U' L ({ frames := 2, cells := 0, slots := 0, locals := 24 } : Room).cells ({ frames := 2, cells := 0, slots := 0, locals := 24 } : Room).slots) := by
  refine MetFree.of_bodySF (plainFor_of_name pn_2) hisR ?_
  intro p e s m args below meth c s₁ Bd hml0 hP hK
  obtain ⟨rfl, hZ, hh⟩ := hP
  have hx := Bd.exec
  have hby := Bd.bytes
  have hml : c.maxLocals = 1 := hml0
  have hown : s.vm.findClass "java/util/AbstractList" = some m.cls := findClass_of_methodNamed Bd.named
  have hnm := (name_of_methodNamed Bd.named Bd.method).1
  have X0 : Stand p l e ({ frames := 2, cells := 0, slots := 0, locals := 24 } : Room) s m #[(.ref a1)] below meth c s₁ [] 0 0 := Stand.of_body Bd
  have e0 : s₁.heap = h0 := by rw [← hh, Bd.state]; rfl
  have N0 := Fr.nil n0
  refine own_start (fun t k => castTop (ef_2 m a1) k) ?_
  show own_G p.tables e below _ (s₁.setTop (mkF m 0 #[.val (.ref a1)] []))
  refine own_step (fun t k => XS.aloadN X0.here hx rfl (hb hby d2_0) rfl rfl k) ?_
  show own_G p.tables e below _ (s₁.setTop (mkF m 1 #[.val (.ref a1)] [(.ref a1)]))
  obtain ⟨_, _, ⟨T1, L1, k1, n1⟩, -, X1, ⟨Lc1, hQ1, l1, y1, z1⟩, st1⟩ := X0.specialBack hx (y := (⟨"java/util/AbstractCollection", "<init>", "()V"⟩ : MethodName)) rfl hown (mvT hZ (hw _ (List.mem_of_getElem? (i := 12) rfl))) (mvT hZ (hw _ (List.mem_of_getElem? (i := 13) rfl))) (mvT hZ (hw _ (List.mem_of_getElem? (i := 17) rfl))) (by decide) (backOf (W := 0) (rm3 l Z a0 hw [] a1 h0 n0 (Nat.le_trans Z0 (Keep.refl h0 [a1]).1) ) hZ (hw _ (List.mem_of_getElem? (i := 17) rfl)) (hw _ (List.mem_of_getElem? (i := 16) rfl)) (by decide) (by decide)) (g := (mkF m 1 #[.val (.ref a1)] [(.ref a1)])) rfl (by rw [hml]; rfl) (Steps.refl _) (a := a1) (argsL := []) (rest := []) (lenOf pd_2_0 rfl) rfl (by show 2 * 0 + _ ≤ _; exact Nat.le_of_eq rfl) (hb hby d2_1) (fun _ _ => ⟨rfl, e0, (by decide : 0 + 0 ≤ _), (by decide : 0 + 0 ≤ _)⟩)
  dsimp only [Pt.U, Pt.locs, Pt.cells, Pt.slots] at X1 l1 y1 z1 st1 hQ1
  subst y1 z1
  obtain ⟨rfl, N1q, e1⟩ := hQ1
  have N1 : Fr n0 L1 := by rw [l1]; exact Fr.app N0 N1q
  refine own_step (fun t k => st1.trans k) ?_
  show own_G p.tables e below _ (T1.setTop (mkF m 4 #[.val (.ref a1)] []))
  refine own_step (fun t k => XS.aloadN X1.here hx rfl (hb hby d2_4) rfl rfl k) ?_
  show own_G p.tables e below _ (T1.setTop (mkF m 5 #[.val (.ref a1)] [(.ref a1)]))
  refine own_step (fun t k => XS.iconst X1.here hx rfl (hb hby d2_5) k) ?_
  show own_G p.tables e below _ (T1.setTop (mkF m 6 #[.val (.ref a1)] [(.int (0 : Int32)), (.ref a1)]))
  obtain ⟨T2, h2, X2, e2, W2, st2⟩ := putF X1 hx hZ hown (host := "") (Or.inl (hw _ (List.mem_of_getElem? (i := 21) rfl))) Via.refl e1 fp1 fp0 (Or.inl (hw _ (List.mem_of_getElem? (i := 22) rfl))) (hw _ (List.mem_of_getElem? (i := 1) rfl)) (ty := .int) (by decide) rfl rfl (g := (mkF m 6 #[.val (.ref a1)] [(.int (0 : Int32)), (.ref a1)])) rfl rfl (hb hby d2_6)
  have N2 := Fr.snoc X2 N1 g_a1
  have c3 : Fld Z h2 a1 "java/util/AbstractList" "modCount" "I" (.int (0 : Int32)) := fp1.same W2
  have c4 : Exa Z h2 a1 "java/util/ArrayList" := fp0.wr W2
  have c6 : Fld Z h2 a1 "java/util/ArrayList" "elementData" "[Ljava/lang/Object;" u_elementData_a1 := fp2.other W2 (Or.inr (slot_ne (Or.inl (hw _ (List.mem_of_getElem? (i := 25) rfl))) (Or.inl (hw _ (List.mem_of_getElem? (i := 22) rfl))) (by decide) (t := (.array (.object "java/lang/Object"))) (t' := .int) (by decide) (by decide)))
  have c7 : Fld Z h2 a1 "java/util/ArrayList" "size" "I" u_size_a1 := fp3.other W2 (Or.inr (slot_ne (Or.inl (hw _ (List.mem_of_getElem? (i := 58) rfl))) (Or.inl (hw _ (List.mem_of_getElem? (i := 22) rfl))) (by decide) (t := .int) (t' := .int) (by decide) (by decide)))
  have K2 : Keep h0 h2 [a1] := (Keep.refl h0 [a1]).wr W2 (Or.inl (List.mem_of_getElem? (i := 0) rfl))
  refine own_step st2 ?_
  show own_G p.tables e below _ (T2.setTop (mkF m 9 #[.val (.ref a1)] []))
  obtain ⟨fs, hr, hrun, hended, hW, hsame⟩ := X2.leave (v := none) (fun _ => rfl)
  refine own_done (X2.returnOut hx Bd.returns (hb hby d2_9) hr) hrun hended ⟨_, _, rfl, ?_, ⟨_, rfl⟩, hW, hsame.mono (by decide) (by decide)⟩
  show Q2 Z a1 u_modCount_a1 u_elementData_a1 u_size_a1 h0 n0 _ T2.heap _
  rw [e2]
  exact ⟨rfl, N2, K2, c3, c6, c7⟩
theorem d1_0 : decode jdk_38_method_2_code 0 = .ok (.aload_n 0, 1) := by decide +kernel
theorem d1_1 : decode jdk_38_method_2_code 1 = .ok (.invokespecial 1, 3) := by decide +kernel
theorem d1_4 : decode jdk_38_method_2_code 4 = .ok (.aload_n 0, 1) := by decide +kernel
theorem d1_5 : decode jdk_38_method_2_code 5 = .ok (.getstatic 39, 3) := by decide +kernel
theorem d1_8 : decode jdk_38_method_2_code 8 = .ok (.putfield 9, 3) := by decide +kernel
theorem d1_11 : decode jdk_38_method_2_code 11 = .ok (.return_, 1) := by decide +kernel
theorem pn_1 : plainName "java/util/ArrayList" = true := by first | (simp [plainName, overriddenIn]; done) | decide +kernel
theorem pd_1_0 : parseMethodDescriptor "()V" = some ⟨[], none⟩ := by decide +kernel
theorem ef_1 (m : MethodId) (a1 : Addr) : entryFrame m #[(.ref a1)] 1 = mkF m 0 #[.val (.ref a1)] [] := by first | (simp [entryFrame, mkF, argsToLocals, Value.category]; done) | rfl
def Q1 (Z : State) (a1 : Addr) (dd : Addr) (u_modCount_a1 : Value) (u_elementData_a1 : Value) (u_size_a1 : Value) (h0 : Heap) (n0 : Nat) (v : Option Value) (h : Heap) (L : List Loc) : Prop := v = none ∧ Fr n0 L ∧ Keep h0 h [a1] ∧ Fld Z h a1 "java/util/AbstractList" "modCount" "I" (.int (0 : Int32)) ∧ Fld Z h a1 "java/util/ArrayList" "elementData" "[Ljava/lang/Object;" (.ref dd) ∧ Fld Z h a1 "java/util/ArrayList" "size" "I" u_size_a1
set_option maxRecDepth 65536 in
set_option maxHeartbeats 40000000 in
theorem rm1 (l : Launch) (Z : State) (a0 : Array Value) (hw : ∀ d ∈ tables_1, d.before a0 Z = true) (ws : List Jvm.Cond) (a1 : Addr) (dd : Addr) (u_modCount_a1 : Value) (u_elementData_a1 : Value) (u_size_a1 : Value) (h0 : Heap) (n0 : Nat) (Z0 : n0 ≤ h0.size) (fp0 : Sta Z h0 "java/util/ArrayList" "DEFAULTCAPACITY_EMPTY_ELEMENTDATA" "[Ljava/lang/Object;" (.ref dd)) (fp1 : Exa Z h0 a1 "java/util/ArrayList") (fp2 : Fld Z h0 a1 "java/util/AbstractList" "modCount" "I" u_modCount_a1) (fp3 : Fld Z h0 a1 "java/util/ArrayList" "elementData" "[Ljava/lang/Object;" u_elementData_a1) (fp4 : Fld Z h0 a1 "java/util/ArrayList" "size" "I" u_size_a1) (g_a1 : n0 ≤ a1) :
    MetFree l (⟨"java/util/ArrayList", "<init>", "()V"⟩ : MethodName) (head1 (Jvm.Cond.code (⟨"java/util/ArrayList", "<init>", "()V"⟩ : MethodName) jdk_38_method_2_code 1 none :: ws) ({ frames := 3, cells := 0, slots := 0, locals := 36 } : Room)) (fun a U => a = #[(.ref a1)] ∧ Z.Warmed39 U.vm ∧ U.heap = h0) (fun _ _ _ _ _ => True) (fun _ U o U' => ∃ v L, o = .returned v ∧ Q1 Z a1 dd u_modCount_a1 u_elementData_a1 u_size_a1 h0 n0 v U'.heap L ∧ FrameEnd U o U' L ({ frames := 3, cells := 0, slots := 0, locals := 36 } : Room).cells ({ frames := 3, cells := 0, slots := 0, locals := 36 } : Room).slots) := by
  refine MetFree.of_bodySF (plainFor_of_name pn_1) hisR ?_
  intro p e s m args below meth c s₁ Bd hml0 hP hK
  obtain ⟨rfl, hZ, hh⟩ := hP
  have hx := Bd.exec
  have hby := Bd.bytes
  have hml : c.maxLocals = 1 := hml0
  have hown : s.vm.findClass "java/util/ArrayList" = some m.cls := findClass_of_methodNamed Bd.named
  have hnm := (name_of_methodNamed Bd.named Bd.method).1
  have X0 : Stand p l e ({ frames := 3, cells := 0, slots := 0, locals := 36 } : Room) s m #[(.ref a1)] below meth c s₁ [] 0 0 := Stand.of_body Bd
  have e0 : s₁.heap = h0 := by rw [← hh, Bd.state]; rfl
  have N0 := Fr.nil n0
  refine own_start (fun t k => castTop (ef_1 m a1) k) ?_
  show own_G p.tables e below _ (s₁.setTop (mkF m 0 #[.val (.ref a1)] []))
  refine own_step (fun t k => XS.aloadN X0.here hx rfl (hb hby d1_0) rfl rfl k) ?_
  show own_G p.tables e below _ (s₁.setTop (mkF m 1 #[.val (.ref a1)] [(.ref a1)]))
  obtain ⟨_, _, ⟨T1, L1, k1, n1⟩, -, X1, ⟨Lc1, hQ1, l1, y1, z1⟩, st1⟩ := X0.specialBack hx (y := (⟨"java/util/AbstractList", "<init>", "()V"⟩ : MethodName)) rfl hown (mvT hZ (hw _ (List.mem_of_getElem? (i := 6) rfl))) (mvT hZ (hw _ (List.mem_of_getElem? (i := 7) rfl))) (mvT hZ (hw _ (List.mem_of_getElem? (i := 11) rfl))) (by decide) (backOf (W := 0) (rm2 l Z a0 hw [] a1 u_modCount_a1 u_elementData_a1 u_size_a1 h0 n0 (Nat.le_trans Z0 (Keep.refl h0 [a1]).1) fp1 fp2 fp3 fp4 g_a1) hZ (hw _ (List.mem_of_getElem? (i := 11) rfl)) (hw _ (List.mem_of_getElem? (i := 10) rfl)) (by decide) (by decide)) (g := (mkF m 1 #[.val (.ref a1)] [(.ref a1)])) rfl (by rw [hml]; rfl) (Steps.refl _) (a := a1) (argsL := []) (rest := []) (lenOf pd_1_0 rfl) rfl (by show 2 * 0 + _ ≤ _; exact Nat.le_of_eq rfl) (hb hby d1_1) (fun _ _ => ⟨rfl, e0, (by decide : 0 + 0 ≤ _), (by decide : 0 + 0 ≤ _)⟩)
  dsimp only [Pt.U, Pt.locs, Pt.cells, Pt.slots] at X1 l1 y1 z1 st1 hQ1
  subst y1 z1
  obtain ⟨rfl, N1q, K1q, w1_0, w1_1, w1_2⟩ := hQ1
  have c2 : Sta Z T1.heap "java/util/ArrayList" "DEFAULTCAPACITY_EMPTY_ELEMENTDATA" "[Ljava/lang/Object;" (.ref dd) := own_staKeep fp0 K1q (allS (own_nsE fp1) all0)
  have c3 : Exa Z T1.heap a1 "java/util/ArrayList" := fp1.keep K1q
  have K1 : Keep h0 T1.heap [a1] := (Keep.refl h0 [a1]).trans K1q (allS (Or.inl (List.mem_of_getElem? (i := 0) rfl)) all0)
  have N1 : Fr n0 L1 := by rw [l1]; exact Fr.app N0 N1q
  refine own_step (fun t k => st1.trans k) ?_
  show own_G p.tables e below _ (T1.setTop (mkF m 4 #[.val (.ref a1)] []))
  refine own_step (fun t k => XS.aloadN X1.here hx rfl (hb hby d1_4) rfl rfl k) ?_
  show own_G p.tables e below _ (T1.setTop (mkF m 5 #[.val (.ref a1)] [(.ref a1)]))
  obtain ⟨T7, X7, e7, st7⟩ := getS2 X1 hx hZ hown (host := "") (Or.inl (hw _ (List.mem_of_getElem? (i := 23) rfl))) Via.refl rfl c2 (g := (mkF m 5 #[.val (.ref a1)] [(.ref a1)])) rfl (hb hby d1_5)
  refine own_step st7 ?_
  show own_G p.tables e below _ (T7.setTop (mkF m 8 #[.val (.ref a1)] [(.ref dd), (.ref a1)]))
  obtain ⟨T8, h8, X8, e8, W8, st8⟩ := putF X7 hx hZ hown (host := "") (Or.inl (hw _ (List.mem_of_getElem? (i := 24) rfl))) Via.refl e7 w1_1 c3 (Or.inl (hw _ (List.mem_of_getElem? (i := 25) rfl))) (hw _ (List.mem_of_getElem? (i := 1) rfl)) (ty := (.array (.object "java/lang/Object"))) (by decide) rfl rfl (g := (mkF m 8 #[.val (.ref a1)] [(.ref dd), (.ref a1)])) rfl rfl (hb hby d1_8)
  have N8 := Fr.snoc X8 N1 g_a1
  have c9 : Fld Z h8 a1 "java/util/ArrayList" "elementData" "[Ljava/lang/Object;" (.ref dd) := w1_1.same W8
  have c10 : Sta Z h8 "java/util/ArrayList" "DEFAULTCAPACITY_EMPTY_ELEMENTDATA" "[Ljava/lang/Object;" (.ref dd) := c2.wr W8
  have c11 : Exa Z h8 a1 "java/util/ArrayList" := c3.wr W8
  have c12 : Fld Z h8 a1 "java/util/AbstractList" "modCount" "I" (.int (0 : Int32)) := w1_0.other W8 (Or.inr (slot_ne (Or.inl (hw _ (List.mem_of_getElem? (i := 22) rfl))) (Or.inl (hw _ (List.mem_of_getElem? (i := 25) rfl))) (by decide) (t := .int) (t' := (.array (.object "java/lang/Object"))) (by decide) (by decide)))
  have c14 : Fld Z h8 a1 "java/util/ArrayList" "size" "I" u_size_a1 := w1_2.other W8 (Or.inr (slot_ne (Or.inl (hw _ (List.mem_of_getElem? (i := 58) rfl))) (Or.inl (hw _ (List.mem_of_getElem? (i := 25) rfl))) (by decide) (t := .int) (t' := (.array (.object "java/lang/Object"))) (by decide) (by decide)))
  have K8 : Keep h0 h8 [a1] := K1.wr W8 (Or.inl (List.mem_of_getElem? (i := 0) rfl))
  refine own_step st8 ?_
  clear K1 K1q N1 N1q W8 X1 X7 c2 c3 e7 st1 st7 st8 w1_0 w1_1 w1_2
  show own_G p.tables e below _ (T8.setTop (mkF m 11 #[.val (.ref a1)] []))
  obtain ⟨fs, hr, hrun, hended, hW, hsame⟩ := X8.leave (v := none) (fun _ => rfl)
  refine own_done (X8.returnOut hx Bd.returns (hb hby d1_11) hr) hrun hended ⟨_, _, rfl, ?_, ⟨_, rfl⟩, hW, hsame.mono (by decide) (by decide)⟩
  show Q1 Z a1 dd u_modCount_a1 u_elementData_a1 u_size_a1 h0 n0 _ T8.heap _
  rw [e8]
  exact ⟨rfl, N8, K8, c12, c9, c14⟩
theorem d15_0 : decode jdk_30_method_1_code 0 = .ok (.aload_n 0, 1) := by decide +kernel
theorem d15_1 : decode jdk_30_method_1_code 1 = .ok (.invokespecial 1, 3) := by decide +kernel
theorem d15_4 : decode jdk_30_method_1_code 4 = .ok (.return_, 1) := by decide +kernel
theorem pn_15 : plainName "java/lang/Record" = true := by first | (simp [plainName, overriddenIn]; done) | decide +kernel
theorem ef_15 (m : MethodId) (a1 : Addr) : entryFrame m #[(.ref a1)] 1 = mkF m 0 #[.val (.ref a1)] [] := by first | (simp [entryFrame, mkF, argsToLocals, Value.category]; done) | rfl
def Q15 (Z : State) (a1 : Addr) (h0 : Heap) (n0 : Nat) (v : Option Value) (h : Heap) (L : List Loc) : Prop := v = none ∧ Fr n0 L ∧ h = h0
set_option maxRecDepth 65536 in
set_option maxHeartbeats 40000000 in
theorem rm15 (l : Launch) (Z : State) (a0 : Array Value) (hw : ∀ d ∈ tables_1, d.before a0 Z = true) (ws : List Jvm.Cond) (a1 : Addr) (h0 : Heap) (n0 : Nat) (Z0 : n0 ≤ h0.size) :
    MetFree l (⟨"java/lang/Record", "<init>", "()V"⟩ : MethodName) (head1 (Jvm.Cond.code (⟨"java/lang/Record", "<init>", "()V"⟩ : MethodName) jdk_30_method_1_code 1 none :: ws) ({ frames := 1, cells := 0, slots := 0, locals := 12 } : Room)) (fun a U => a = #[(.ref a1)] ∧ Z.Warmed39 U.vm ∧ U.heap = h0) (fun _ _ _ _ _ => True) (fun _ U o U' => ∃ v L, o = .returned v ∧ Q15 Z a1 h0 n0 v U'.heap L ∧ FrameEnd U o U' L ({ frames := 1, cells := 0, slots := 0, locals := 12 } : Room).cells ({ frames := 1, cells := 0, slots := 0, locals := 12 } : Room).slots) := by
  refine MetFree.of_bodySF (plainFor_of_name pn_15) hisR ?_
  intro p e s m args below meth c s₁ Bd hml0 hP hK
  obtain ⟨rfl, hZ, hh⟩ := hP
  have hx := Bd.exec
  have hby := Bd.bytes
  have hml : c.maxLocals = 1 := hml0
  have hown : s.vm.findClass "java/lang/Record" = some m.cls := findClass_of_methodNamed Bd.named
  have hnm := (name_of_methodNamed Bd.named Bd.method).1
  have X0 : Stand p l e ({ frames := 1, cells := 0, slots := 0, locals := 12 } : Room) s m #[(.ref a1)] below meth c s₁ [] 0 0 := Stand.of_body Bd
  have e0 : s₁.heap = h0 := by rw [← hh, Bd.state]; rfl
  have N0 := Fr.nil n0
  refine own_start (fun t k => castTop (ef_15 m a1) k) ?_
  show own_G p.tables e below _ (s₁.setTop (mkF m 0 #[.val (.ref a1)] []))
  refine own_step (fun t k => XS.aloadN X0.here hx rfl (hb hby d15_0) rfl rfl k) ?_
  show own_G p.tables e below _ (s₁.setTop (mkF m 1 #[.val (.ref a1)] [(.ref a1)]))
  obtain ⟨T1, X1, e1, st1⟩ := initO X0 hx hZ hown (hw _ (List.mem_of_getElem? (i := 92) rfl)) (hw _ (List.mem_of_getElem? (i := 19) rfl)) (hw _ (List.mem_of_getElem? (i := 20) rfl)) e0 (g := (mkF m 1 #[.val (.ref a1)] [(.ref a1)])) rfl (by rw [hml]; rfl) rfl (hb hby d15_1) (by decide) (W := 0) (by show 2 * 0 + _ ≤ _; exact Nat.le_of_eq rfl) (by decide)
  refine own_step st1 ?_
  show own_G p.tables e below _ (T1.setTop (mkF m 4 #[.val (.ref a1)] []))
  obtain ⟨fs, hr, hrun, hended, hW, hsame⟩ := X1.leave (v := none) (fun _ => rfl)
  refine own_done (X1.returnOut hx Bd.returns (hb hby d15_4) hr) hrun hended ⟨_, _, rfl, ?_, ⟨_, rfl⟩, hW, hsame.mono (by decide) (by decide)⟩
  show Q15 Z a1 h0 n0 _ T1.heap _
  rw [e1]
  exact ⟨rfl, N0, rfl⟩
theorem d14_0 : decode prog_5_method_1_code 0 = .ok (.aload_n 0, 1) := by decide +kernel
theorem d14_1 : decode prog_5_method_1_code 1 = .ok (.invokespecial 1, 3) := by decide +kernel
theorem d14_4 : decode prog_5_method_1_code 4 = .ok (.aload_n 0, 1) := by decide +kernel
theorem d14_5 : decode prog_5_method_1_code 5 = .ok (.iload_n 1, 1) := by decide +kernel
theorem d14_6 : decode prog_5_method_1_code 6 = .ok (.putfield 7, 3) := by decide +kernel
theorem d14_9 : decode prog_5_method_1_code 9 = .ok (.aload_n 0, 1) := by decide +kernel
theorem d14_10 : decode prog_5_method_1_code 10 = .ok (.iload_n 2, 1) := by decide +kernel
theorem d14_11 : decode prog_5_method_1_code 11 = .ok (.putfield 13, 3) := by decide +kernel
theorem d14_14 : decode prog_5_method_1_code 14 = .ok (.aload_n 0, 1) := by decide +kernel
theorem d14_15 : decode prog_5_method_1_code 15 = .ok (.lload_n 3, 1) := by decide +kernel
theorem d14_16 : decode prog_5_method_1_code 16 = .ok (.putfield 17, 3) := by decide +kernel
theorem d14_19 : decode prog_5_method_1_code 19 = .ok (.aload_n 0, 1) := by decide +kernel
theorem d14_20 : decode prog_5_method_1_code 20 = .ok (.aload 5, 2) := by decide +kernel
theorem d14_22 : decode prog_5_method_1_code 22 = .ok (.putfield 21, 3) := by decide +kernel
theorem d14_25 : decode prog_5_method_1_code 25 = .ok (.aload_n 0, 1) := by decide +kernel
theorem d14_26 : decode prog_5_method_1_code 26 = .ok (.aload 6, 2) := by decide +kernel
theorem d14_28 : decode prog_5_method_1_code 28 = .ok (.putfield 25, 3) := by decide +kernel
theorem d14_31 : decode prog_5_method_1_code 31 = .ok (.aload_n 0, 1) := by decide +kernel
theorem d14_32 : decode prog_5_method_1_code 32 = .ok (.aload 7, 2) := by decide +kernel
theorem d14_34 : decode prog_5_method_1_code 34 = .ok (.putfield 28, 3) := by decide +kernel
theorem d14_37 : decode prog_5_method_1_code 37 = .ok (.return_, 1) := by decide +kernel
theorem pn_14 : plainName "com/example/brisktest/brisktest/Maven$Run" = true := by first | (simp [plainName, overriddenIn]; done) | decide +kernel
theorem pd_14_0 : parseMethodDescriptor "()V" = some ⟨[], none⟩ := by decide +kernel
theorem ef_14 (m : MethodId) (a1 : Addr) (p2 : Int32) (p3 : Int32) (q4 : Int64) (a5 : Addr) (a6 : Addr) (a7 : Addr) : entryFrame m #[(.ref a1), (.int p2), (.int p3), (.long q4), (.ref a5), (.ref a6), (.ref a7)] 8 = mkF m 0 #[.val (.ref a1), .val (.int p2), .val (.int p3), .val (.long q4), .second, .val (.ref a5), .val (.ref a6), .val (.ref a7)] [] := by first | (simp [entryFrame, mkF, argsToLocals, Value.category]; done) | rfl
def Q14 (Z : State) (a1 : Addr) (p2 : Int32) (p3 : Int32) (q4 : Int64) (a5 : Addr) (a6 : Addr) (a7 : Addr) (u_exitCode_a1 : Value) (u_timedOut_a1 : Value) (u_durationMillis_a1 : Value) (u_errorLines_a1 : Value) (u_compilationErrors_a1 : Value) (u_unfinishedTestClasses_a1 : Value) (h0 : Heap) (n0 : Nat) (v : Option Value) (h : Heap) (L : List Loc) : Prop := v = none ∧ Fr n0 L ∧ Keep h0 h [a1] ∧ Fld Z h a1 "com/example/brisktest/brisktest/Maven$Run" "exitCode" "I" (.int p2) ∧ Fld Z h a1 "com/example/brisktest/brisktest/Maven$Run" "timedOut" "Z" (.int (nar .boolean p3)) ∧ Fld Z h a1 "com/example/brisktest/brisktest/Maven$Run" "durationMillis" "J" (.long q4) ∧ Fld Z h a1 "com/example/brisktest/brisktest/Maven$Run" "errorLines" "Ljava/util/List;" (.ref a5) ∧ Fld Z h a1 "com/example/brisktest/brisktest/Maven$Run" "compilationErrors" "Ljava/util/List;" (.ref a6) ∧ Fld Z h a1 "com/example/brisktest/brisktest/Maven$Run" "unfinishedTestClasses" "Ljava/util/List;" (.ref a7)
set_option maxRecDepth 65536 in
set_option maxHeartbeats 40000000 in
theorem rm14 (l : Launch) (Z : State) (a0 : Array Value) (hw : ∀ d ∈ tables_1, d.before a0 Z = true) (ws : List Jvm.Cond) (a1 : Addr) (p2 : Int32) (p3 : Int32) (q4 : Int64) (a5 : Addr) (a6 : Addr) (a7 : Addr) (u_exitCode_a1 : Value) (u_timedOut_a1 : Value) (u_durationMillis_a1 : Value) (u_errorLines_a1 : Value) (u_compilationErrors_a1 : Value) (u_unfinishedTestClasses_a1 : Value) (h0 : Heap) (n0 : Nat) (Z0 : n0 ≤ h0.size) (fp0 : Exa Z h0 a1 "com/example/brisktest/brisktest/Maven$Run") (fp1 : Fld Z h0 a1 "com/example/brisktest/brisktest/Maven$Run" "exitCode" "I" u_exitCode_a1) (fp2 : Fld Z h0 a1 "com/example/brisktest/brisktest/Maven$Run" "timedOut" "Z" u_timedOut_a1) (fp3 : Fld Z h0 a1 "com/example/brisktest/brisktest/Maven$Run" "durationMillis" "J" u_durationMillis_a1) (fp4 : Fld Z h0 a1 "com/example/brisktest/brisktest/Maven$Run" "errorLines" "Ljava/util/List;" u_errorLines_a1) (fp5 : Fld Z h0 a1 "com/example/brisktest/brisktest/Maven$Run" "compilationErrors" "Ljava/util/List;" u_compilationErrors_a1) (fp6 : Fld Z h0 a1 "com/example/brisktest/brisktest/Maven$Run" "unfinishedTestClasses" "Ljava/util/List;" u_unfinishedTestClasses_a1) (g_a1 : n0 ≤ a1) :
    MetFree l (⟨"com/example/brisktest/brisktest/Maven$Run", "<init>", "(IZJLjava/util/List;Ljava/util/List;Ljava/util/List;)V"⟩ : MethodName) (head1 (Jvm.Cond.code (⟨"com/example/brisktest/brisktest/Maven$Run", "<init>", "(IZJLjava/util/List;Ljava/util/List;Ljava/util/List;)V"⟩ : MethodName) prog_5_method_1_code 8 none :: ws) ({ frames := 2, cells := 0, slots := 0, locals := 24 } : Room)) (fun a U => a = #[(.ref a1), (.int p2), (.int p3), (.long q4), (.ref a5), (.ref a6), (.ref a7)] ∧ Z.Warmed39 U.vm ∧ U.heap = h0) (fun _ _ _ _ _ => True) (fun _ U o U' => ∃ v L, o = .returned v ∧ Q14 Z a1 p2 p3 q4 a5 a6 a7 u_exitCode_a1 u_timedOut_a1 u_durationMillis_a1 u_errorLines_a1 u_compilationErrors_a1 u_unfinishedTestClasses_a1 h0 n0 v U'.heap L ∧ FrameEnd U o U' L ({ frames := 2, cells := 0, slots := 0, locals := 24 } : Room).cells ({ frames := 2, cells := 0, slots := 0, locals := 24 } : Room).slots) := by
  refine MetFree.of_bodySF (plainFor_of_name pn_14) hisR ?_
  intro p e s m args below meth c s₁ Bd hml0 hP hK
  obtain ⟨rfl, hZ, hh⟩ := hP
  have hx := Bd.exec
  have hby := Bd.bytes
  have hml : c.maxLocals = 8 := hml0
  have hown : s.vm.findClass "com/example/brisktest/brisktest/Maven$Run" = some m.cls := findClass_of_methodNamed Bd.named
  have hnm := (name_of_methodNamed Bd.named Bd.method).1
  have X0 : Stand p l e ({ frames := 2, cells := 0, slots := 0, locals := 24 } : Room) s m #[(.ref a1), (.int p2), (.int p3), (.long q4), (.ref a5), (.ref a6), (.ref a7)] below meth c s₁ [] 0 0 := Stand.of_body Bd
  have e0 : s₁.heap = h0 := by rw [← hh, Bd.state]; rfl
  have N0 := Fr.nil n0
  refine own_start (fun t k => castTop (ef_14 m a1 p2 p3 q4 a5 a6 a7) k) ?_
  show own_G p.tables e below _ (s₁.setTop (mkF m 0 #[.val (.ref a1), .val (.int p2), .val (.int p3), .val (.long q4), .second, .val (.ref a5), .val (.ref a6), .val (.ref a7)] []))
  refine own_step (fun t k => XS.aloadN X0.here hx rfl (hb hby d14_0) rfl rfl k) ?_
  show own_G p.tables e below _ (s₁.setTop (mkF m 1 #[.val (.ref a1), .val (.int p2), .val (.int p3), .val (.long q4), .second, .val (.ref a5), .val (.ref a6), .val (.ref a7)] [(.ref a1)]))
  obtain ⟨_, _, ⟨T1, L1, k1, n1⟩, -, X1, ⟨Lc1, hQ1, l1, y1, z1⟩, st1⟩ := X0.specialBack hx (y := (⟨"java/lang/Record", "<init>", "()V"⟩ : MethodName)) rfl hown (mvT hZ (hw _ (List.mem_of_getElem? (i := 87) rfl))) (mvT hZ (hw _ (List.mem_of_getElem? (i := 88) rfl))) (mvT hZ (hw _ (List.mem_of_getElem? (i := 91) rfl))) (by decide) (backOf (W := 0) (rm15 l Z a0 hw [] a1 h0 n0 (Nat.le_trans Z0 (Keep.refl h0 [a1]).1) ) hZ (hw _ (List.mem_of_getElem? (i := 91) rfl)) (hw _ (List.mem_of_getElem? (i := 90) rfl)) (by decide) (by decide)) (g := (mkF m 1 #[.val (.ref a1), .val (.int p2), .val (.int p3), .val (.long q4), .second, .val (.ref a5), .val (.ref a6), .val (.ref a7)] [(.ref a1)])) rfl (by rw [hml]; rfl) (Steps.refl _) (a := a1) (argsL := []) (rest := []) (lenOf pd_14_0 rfl) rfl (by show 2 * 0 + _ ≤ _; exact Nat.le_of_eq rfl) (hb hby d14_1) (fun _ _ => ⟨rfl, e0, (by decide : 0 + 0 ≤ _), (by decide : 0 + 0 ≤ _)⟩)
  dsimp only [Pt.U, Pt.locs, Pt.cells, Pt.slots] at X1 l1 y1 z1 st1 hQ1
  subst y1 z1
  obtain ⟨rfl, N1q, e1⟩ := hQ1
  have N1 : Fr n0 L1 := by rw [l1]; exact Fr.app N0 N1q
  refine own_step (fun t k => st1.trans k) ?_
  show own_G p.tables e below _ (T1.setTop (mkF m 4 #[.val (.ref a1), .val (.int p2), .val (.int p3), .val (.long q4), .second, .val (.ref a5), .val (.ref a6), .val (.ref a7)] []))
  refine own_step (fun t k => XS.aloadN X1.here hx rfl (hb hby d14_4) rfl rfl k) ?_
  show own_G p.tables e below _ (T1.setTop (mkF m 5 #[.val (.ref a1), .val (.int p2), .val (.int p3), .val (.long q4), .second, .val (.ref a5), .val (.ref a6), .val (.ref a7)] [(.ref a1)]))
  refine own_step (fun t k => XS.iloadN X1.here hx rfl (hb hby d14_5) rfl k) ?_
  show own_G p.tables e below _ (T1.setTop (mkF m 6 #[.val (.ref a1), .val (.int p2), .val (.int p3), .val (.long q4), .second, .val (.ref a5), .val (.ref a6), .val (.ref a7)] [(.int p2), (.ref a1)]))
  obtain ⟨T2, h2, X2, e2, W2, st2⟩ := putF X1 hx hZ hown (host := "") (Or.inl (hw _ (List.mem_of_getElem? (i := 93) rfl))) Via.refl e1 fp1 fp0 (Or.inr ⟨(hw _ (List.mem_of_getElem? (i := 94) rfl)), rfl, hnm⟩) (hw _ (List.mem_of_getElem? (i := 82) rfl)) (ty := .int) (by decide) rfl rfl (g := (mkF m 6 #[.val (.ref a1), .val (.int p2), .val (.int p3), .val (.long q4), .second, .val (.ref a5), .val (.ref a6), .val (.ref a7)] [(.int p2), (.ref a1)])) rfl rfl (hb hby d14_6)
  have N2 := Fr.snoc X2 N1 g_a1
  have c3 : Fld Z h2 a1 "com/example/brisktest/brisktest/Maven$Run" "exitCode" "I" (.int p2) := fp1.same W2
  have c4 : Exa Z h2 a1 "com/example/brisktest/brisktest/Maven$Run" := fp0.wr W2
  have c6 : Fld Z h2 a1 "com/example/brisktest/brisktest/Maven$Run" "timedOut" "Z" u_timedOut_a1 := fp2.other W2 (Or.inr (slot_ne (Or.inr (hw _ (List.mem_of_getElem? (i := 96) rfl))) (Or.inr (hw _ (List.mem_of_getElem? (i := 94) rfl))) (by decide) (t := .boolean) (t' := .int) (by decide) (by decide)))
  have c7 : Fld Z h2 a1 "com/example/brisktest/brisktest/Maven$Run" "durationMillis" "J" u_durationMillis_a1 := fp3.other W2 (Or.inr (slot_ne (Or.inr (hw _ (List.mem_of_getElem? (i := 98) rfl))) (Or.inr (hw _ (List.mem_of_getElem? (i := 94) rfl))) (by decide) (t := .long) (t' := .int) (by decide) (by decide)))
  have c8 : Fld Z h2 a1 "com/example/brisktest/brisktest/Maven$Run" "errorLines" "Ljava/util/List;" u_errorLines_a1 := fp4.other W2 (Or.inr (slot_ne (Or.inr (hw _ (List.mem_of_getElem? (i := 100) rfl))) (Or.inr (hw _ (List.mem_of_getElem? (i := 94) rfl))) (by decide) (t := (.object "java/util/List")) (t' := .int) (by decide) (by decide)))
  have c9 : Fld Z h2 a1 "com/example/brisktest/brisktest/Maven$Run" "compilationErrors" "Ljava/util/List;" u_compilationErrors_a1 := fp5.other W2 (Or.inr (slot_ne (Or.inr (hw _ (List.mem_of_getElem? (i := 102) rfl))) (Or.inr (hw _ (List.mem_of_getElem? (i := 94) rfl))) (by decide) (t := (.object "java/util/List")) (t' := .int) (by decide) (by decide)))
  have c10 : Fld Z h2 a1 "com/example/brisktest/brisktest/Maven$Run" "unfinishedTestClasses" "Ljava/util/List;" u_unfinishedTestClasses_a1 := fp6.other W2 (Or.inr (slot_ne (Or.inr (hw _ (List.mem_of_getElem? (i := 104) rfl))) (Or.inr (hw _ (List.mem_of_getElem? (i := 94) rfl))) (by decide) (t := (.object "java/util/List")) (t' := .int) (by decide) (by decide)))
  have K2 : Keep h0 h2 [a1] := (Keep.refl h0 [a1]).wr W2 (Or.inl (List.mem_of_getElem? (i := 0) rfl))
  refine own_step st2 ?_
  show own_G p.tables e below _ (T2.setTop (mkF m 9 #[.val (.ref a1), .val (.int p2), .val (.int p3), .val (.long q4), .second, .val (.ref a5), .val (.ref a6), .val (.ref a7)] []))
  refine own_step (fun t k => XS.aloadN X2.here hx rfl (hb hby d14_9) rfl rfl k) ?_
  show own_G p.tables e below _ (T2.setTop (mkF m 10 #[.val (.ref a1), .val (.int p2), .val (.int p3), .val (.long q4), .second, .val (.ref a5), .val (.ref a6), .val (.ref a7)] [(.ref a1)]))
  refine own_step (fun t k => XS.iloadN X2.here hx rfl (hb hby d14_10) rfl k) ?_
  show own_G p.tables e below _ (T2.setTop (mkF m 11 #[.val (.ref a1), .val (.int p2), .val (.int p3), .val (.long q4), .second, .val (.ref a5), .val (.ref a6), .val (.ref a7)] [(.int p3), (.ref a1)]))
  obtain ⟨T11, h11, X11, e11, W11, st11⟩ := putFN X2 hx hZ hown (hw _ (List.mem_of_getElem? (i := 95) rfl)) Via.refl e2 c6 c4 (Or.inr ⟨(hw _ (List.mem_of_getElem? (i := 96) rfl)), rfl, hnm⟩) (hw _ (List.mem_of_getElem? (i := 82) rfl)) (ty := .boolean) (v' := (.int (nar .boolean p3))) (by decide) rfl (fits_nar_bool _) (g := (mkF m 11 #[.val (.ref a1), .val (.int p2), .val (.int p3), .val (.long q4), .second, .val (.ref a5), .val (.ref a6), .val (.ref a7)] [(.int p3), (.ref a1)])) rfl rfl (hb hby d14_11)
  have N11 := Fr.snoc X11 N2 g_a1
  have c12 : Fld Z h11 a1 "com/example/brisktest/brisktest/Maven$Run" "timedOut" "Z" (.int (nar .boolean p3)) := c6.same W11
  have c13 : Exa Z h11 a1 "com/example/brisktest/brisktest/Maven$Run" := c4.wr W11
  have c14 : Fld Z h11 a1 "com/example/brisktest/brisktest/Maven$Run" "exitCode" "I" (.int p2) := c3.other W11 (Or.inr (slot_ne (Or.inr (hw _ (List.mem_of_getElem? (i := 94) rfl))) (Or.inr (hw _ (List.mem_of_getElem? (i := 96) rfl))) (by decide) (t := .int) (t' := .boolean) (by decide) (by decide)))
  have c16 : Fld Z h11 a1 "com/example/brisktest/brisktest/Maven$Run" "durationMillis" "J" u_durationMillis_a1 := c7.other W11 (Or.inr (slot_ne (Or.inr (hw _ (List.mem_of_getElem? (i := 98) rfl))) (Or.inr (hw _ (List.mem_of_getElem? (i := 96) rfl))) (by decide) (t := .long) (t' := .boolean) (by decide) (by decide)))
  have c17 : Fld Z h11 a1 "com/example/brisktest/brisktest/Maven$Run" "errorLines" "Ljava/util/List;" u_errorLines_a1 := c8.other W11 (Or.inr (slot_ne (Or.inr (hw _ (List.mem_of_getElem? (i := 100) rfl))) (Or.inr (hw _ (List.mem_of_getElem? (i := 96) rfl))) (by decide) (t := (.object "java/util/List")) (t' := .boolean) (by decide) (by decide)))
  have c18 : Fld Z h11 a1 "com/example/brisktest/brisktest/Maven$Run" "compilationErrors" "Ljava/util/List;" u_compilationErrors_a1 := c9.other W11 (Or.inr (slot_ne (Or.inr (hw _ (List.mem_of_getElem? (i := 102) rfl))) (Or.inr (hw _ (List.mem_of_getElem? (i := 96) rfl))) (by decide) (t := (.object "java/util/List")) (t' := .boolean) (by decide) (by decide)))
  have c19 : Fld Z h11 a1 "com/example/brisktest/brisktest/Maven$Run" "unfinishedTestClasses" "Ljava/util/List;" u_unfinishedTestClasses_a1 := c10.other W11 (Or.inr (slot_ne (Or.inr (hw _ (List.mem_of_getElem? (i := 104) rfl))) (Or.inr (hw _ (List.mem_of_getElem? (i := 96) rfl))) (by decide) (t := (.object "java/util/List")) (t' := .boolean) (by decide) (by decide)))
  have K11 : Keep h0 h11 [a1] := K2.wr W11 (Or.inl (List.mem_of_getElem? (i := 0) rfl))
  refine own_step st11 ?_
  clear K2 N1 N1q N2 W11 W2 X1 X2 c10 c3 c4 c6 c7 c8 c9 e1 e2 st1 st11 st2
  show own_G p.tables e below _ (T11.setTop (mkF m 14 #[.val (.ref a1), .val (.int p2), .val (.int p3), .val (.long q4), .second, .val (.ref a5), .val (.ref a6), .val (.ref a7)] []))
  refine own_step (fun t k => XS.aloadN X11.here hx rfl (hb hby d14_14) rfl rfl k) ?_
  show own_G p.tables e below _ (T11.setTop (mkF m 15 #[.val (.ref a1), .val (.int p2), .val (.int p3), .val (.long q4), .second, .val (.ref a5), .val (.ref a6), .val (.ref a7)] [(.ref a1)]))
  refine own_step (fun t k => XS.lloadN X11.here hx rfl (hb hby d14_15) rfl k) ?_
  show own_G p.tables e below _ (T11.setTop (mkF m 16 #[.val (.ref a1), .val (.int p2), .val (.int p3), .val (.long q4), .second, .val (.ref a5), .val (.ref a6), .val (.ref a7)] [(.long q4), (.ref a1)]))
  obtain ⟨T20, h20, X20, e20, W20, st20⟩ := putF X11 hx hZ hown (host := "") (Or.inl (hw _ (List.mem_of_getElem? (i := 97) rfl))) Via.refl e11 c16 c13 (Or.inr ⟨(hw _ (List.mem_of_getElem? (i := 98) rfl)), rfl, hnm⟩) (hw _ (List.mem_of_getElem? (i := 82) rfl)) (ty := .long) (by decide) rfl rfl (g := (mkF m 16 #[.val (.ref a1), .val (.int p2), .val (.int p3), .val (.long q4), .second, .val (.ref a5), .val (.ref a6), .val (.ref a7)] [(.long q4), (.ref a1)])) rfl rfl (hb hby d14_16)
  have N20 := Fr.snoc X20 N11 g_a1
  have c21 : Fld Z h20 a1 "com/example/brisktest/brisktest/Maven$Run" "durationMillis" "J" (.long q4) := c16.same W20
  have c22 : Exa Z h20 a1 "com/example/brisktest/brisktest/Maven$Run" := c13.wr W20
  have c23 : Fld Z h20 a1 "com/example/brisktest/brisktest/Maven$Run" "exitCode" "I" (.int p2) := c14.other W20 (Or.inr (slot_ne (Or.inr (hw _ (List.mem_of_getElem? (i := 94) rfl))) (Or.inr (hw _ (List.mem_of_getElem? (i := 98) rfl))) (by decide) (t := .int) (t' := .long) (by decide) (by decide)))
  have c24 : Fld Z h20 a1 "com/example/brisktest/brisktest/Maven$Run" "timedOut" "Z" (.int (nar .boolean p3)) := c12.other W20 (Or.inr (slot_ne (Or.inr (hw _ (List.mem_of_getElem? (i := 96) rfl))) (Or.inr (hw _ (List.mem_of_getElem? (i := 98) rfl))) (by decide) (t := .boolean) (t' := .long) (by decide) (by decide)))
  have c26 : Fld Z h20 a1 "com/example/brisktest/brisktest/Maven$Run" "errorLines" "Ljava/util/List;" u_errorLines_a1 := c17.other W20 (Or.inr (slot_ne (Or.inr (hw _ (List.mem_of_getElem? (i := 100) rfl))) (Or.inr (hw _ (List.mem_of_getElem? (i := 98) rfl))) (by decide) (t := (.object "java/util/List")) (t' := .long) (by decide) (by decide)))
  have c27 : Fld Z h20 a1 "com/example/brisktest/brisktest/Maven$Run" "compilationErrors" "Ljava/util/List;" u_compilationErrors_a1 := c18.other W20 (Or.inr (slot_ne (Or.inr (hw _ (List.mem_of_getElem? (i := 102) rfl))) (Or.inr (hw _ (List.mem_of_getElem? (i := 98) rfl))) (by decide) (t := (.object "java/util/List")) (t' := .long) (by decide) (by decide)))
  have c28 : Fld Z h20 a1 "com/example/brisktest/brisktest/Maven$Run" "unfinishedTestClasses" "Ljava/util/List;" u_unfinishedTestClasses_a1 := c19.other W20 (Or.inr (slot_ne (Or.inr (hw _ (List.mem_of_getElem? (i := 104) rfl))) (Or.inr (hw _ (List.mem_of_getElem? (i := 98) rfl))) (by decide) (t := (.object "java/util/List")) (t' := .long) (by decide) (by decide)))
  have K20 : Keep h0 h20 [a1] := K11.wr W20 (Or.inl (List.mem_of_getElem? (i := 0) rfl))
  refine own_step st20 ?_
  clear K11 N11 W20 X11 c12 c13 c14 c16 c17 c18 c19 e11 st20
  show own_G p.tables e below _ (T20.setTop (mkF m 19 #[.val (.ref a1), .val (.int p2), .val (.int p3), .val (.long q4), .second, .val (.ref a5), .val (.ref a6), .val (.ref a7)] []))
  refine own_step (fun t k => XS.aloadN X20.here hx rfl (hb hby d14_19) rfl rfl k) ?_
  show own_G p.tables e below _ (T20.setTop (mkF m 20 #[.val (.ref a1), .val (.int p2), .val (.int p3), .val (.long q4), .second, .val (.ref a5), .val (.ref a6), .val (.ref a7)] [(.ref a1)]))
  refine own_step (fun t k => XS.aload X20.here hx rfl (hb hby d14_20) rfl rfl k) ?_
  show own_G p.tables e below _ (T20.setTop (mkF m 22 #[.val (.ref a1), .val (.int p2), .val (.int p3), .val (.long q4), .second, .val (.ref a5), .val (.ref a6), .val (.ref a7)] [(.ref a5), (.ref a1)]))
  obtain ⟨T29, h29, X29, e29, W29, st29⟩ := putF X20 hx hZ hown (host := "") (Or.inl (hw _ (List.mem_of_getElem? (i := 99) rfl))) Via.refl e20 c26 c22 (Or.inr ⟨(hw _ (List.mem_of_getElem? (i := 100) rfl)), rfl, hnm⟩) (hw _ (List.mem_of_getElem? (i := 82) rfl)) (ty := (.object "java/util/List")) (by decide) rfl rfl (g := (mkF m 22 #[.val (.ref a1), .val (.int p2), .val (.int p3), .val (.long q4), .second, .val (.ref a5), .val (.ref a6), .val (.ref a7)] [(.ref a5), (.ref a1)])) rfl rfl (hb hby d14_22)
  have N29 := Fr.snoc X29 N20 g_a1
  have c30 : Fld Z h29 a1 "com/example/brisktest/brisktest/Maven$Run" "errorLines" "Ljava/util/List;" (.ref a5) := c26.same W29
  have c31 : Exa Z h29 a1 "com/example/brisktest/brisktest/Maven$Run" := c22.wr W29
  have c32 : Fld Z h29 a1 "com/example/brisktest/brisktest/Maven$Run" "exitCode" "I" (.int p2) := c23.other W29 (Or.inr (slot_ne (Or.inr (hw _ (List.mem_of_getElem? (i := 94) rfl))) (Or.inr (hw _ (List.mem_of_getElem? (i := 100) rfl))) (by decide) (t := .int) (t' := (.object "java/util/List")) (by decide) (by decide)))
  have c33 : Fld Z h29 a1 "com/example/brisktest/brisktest/Maven$Run" "timedOut" "Z" (.int (nar .boolean p3)) := c24.other W29 (Or.inr (slot_ne (Or.inr (hw _ (List.mem_of_getElem? (i := 96) rfl))) (Or.inr (hw _ (List.mem_of_getElem? (i := 100) rfl))) (by decide) (t := .boolean) (t' := (.object "java/util/List")) (by decide) (by decide)))
  have c34 : Fld Z h29 a1 "com/example/brisktest/brisktest/Maven$Run" "durationMillis" "J" (.long q4) := c21.other W29 (Or.inr (slot_ne (Or.inr (hw _ (List.mem_of_getElem? (i := 98) rfl))) (Or.inr (hw _ (List.mem_of_getElem? (i := 100) rfl))) (by decide) (t := .long) (t' := (.object "java/util/List")) (by decide) (by decide)))
  have c36 : Fld Z h29 a1 "com/example/brisktest/brisktest/Maven$Run" "compilationErrors" "Ljava/util/List;" u_compilationErrors_a1 := c27.other W29 (Or.inr (slot_ne (Or.inr (hw _ (List.mem_of_getElem? (i := 102) rfl))) (Or.inr (hw _ (List.mem_of_getElem? (i := 100) rfl))) (by decide) (t := (.object "java/util/List")) (t' := (.object "java/util/List")) (by decide) (by decide)))
  have c37 : Fld Z h29 a1 "com/example/brisktest/brisktest/Maven$Run" "unfinishedTestClasses" "Ljava/util/List;" u_unfinishedTestClasses_a1 := c28.other W29 (Or.inr (slot_ne (Or.inr (hw _ (List.mem_of_getElem? (i := 104) rfl))) (Or.inr (hw _ (List.mem_of_getElem? (i := 100) rfl))) (by decide) (t := (.object "java/util/List")) (t' := (.object "java/util/List")) (by decide) (by decide)))
  have K29 : Keep h0 h29 [a1] := K20.wr W29 (Or.inl (List.mem_of_getElem? (i := 0) rfl))
  refine own_step st29 ?_
  clear K20 N20 W29 X20 c21 c22 c23 c24 c26 c27 c28 e20 st29
  show own_G p.tables e below _ (T29.setTop (mkF m 25 #[.val (.ref a1), .val (.int p2), .val (.int p3), .val (.long q4), .second, .val (.ref a5), .val (.ref a6), .val (.ref a7)] []))
  refine own_step (fun t k => XS.aloadN X29.here hx rfl (hb hby d14_25) rfl rfl k) ?_
  show own_G p.tables e below _ (T29.setTop (mkF m 26 #[.val (.ref a1), .val (.int p2), .val (.int p3), .val (.long q4), .second, .val (.ref a5), .val (.ref a6), .val (.ref a7)] [(.ref a1)]))
  refine own_step (fun t k => XS.aload X29.here hx rfl (hb hby d14_26) rfl rfl k) ?_
  show own_G p.tables e below _ (T29.setTop (mkF m 28 #[.val (.ref a1), .val (.int p2), .val (.int p3), .val (.long q4), .second, .val (.ref a5), .val (.ref a6), .val (.ref a7)] [(.ref a6), (.ref a1)]))
  obtain ⟨T38, h38, X38, e38, W38, st38⟩ := putF X29 hx hZ hown (host := "") (Or.inl (hw _ (List.mem_of_getElem? (i := 101) rfl))) Via.refl e29 c36 c31 (Or.inr ⟨(hw _ (List.mem_of_getElem? (i := 102) rfl)), rfl, hnm⟩) (hw _ (List.mem_of_getElem? (i := 82) rfl)) (ty := (.object "java/util/List")) (by decide) rfl rfl (g := (mkF m 28 #[.val (.ref a1), .val (.int p2), .val (.int p3), .val (.long q4), .second, .val (.ref a5), .val (.ref a6), .val (.ref a7)] [(.ref a6), (.ref a1)])) rfl rfl (hb hby d14_28)
  have N38 := Fr.snoc X38 N29 g_a1
  have c39 : Fld Z h38 a1 "com/example/brisktest/brisktest/Maven$Run" "compilationErrors" "Ljava/util/List;" (.ref a6) := c36.same W38
  have c40 : Exa Z h38 a1 "com/example/brisktest/brisktest/Maven$Run" := c31.wr W38
  have c41 : Fld Z h38 a1 "com/example/brisktest/brisktest/Maven$Run" "exitCode" "I" (.int p2) := c32.other W38 (Or.inr (slot_ne (Or.inr (hw _ (List.mem_of_getElem? (i := 94) rfl))) (Or.inr (hw _ (List.mem_of_getElem? (i := 102) rfl))) (by decide) (t := .int) (t' := (.object "java/util/List")) (by decide) (by decide)))
  have c42 : Fld Z h38 a1 "com/example/brisktest/brisktest/Maven$Run" "timedOut" "Z" (.int (nar .boolean p3)) := c33.other W38 (Or.inr (slot_ne (Or.inr (hw _ (List.mem_of_getElem? (i := 96) rfl))) (Or.inr (hw _ (List.mem_of_getElem? (i := 102) rfl))) (by decide) (t := .boolean) (t' := (.object "java/util/List")) (by decide) (by decide)))
  have c43 : Fld Z h38 a1 "com/example/brisktest/brisktest/Maven$Run" "durationMillis" "J" (.long q4) := c34.other W38 (Or.inr (slot_ne (Or.inr (hw _ (List.mem_of_getElem? (i := 98) rfl))) (Or.inr (hw _ (List.mem_of_getElem? (i := 102) rfl))) (by decide) (t := .long) (t' := (.object "java/util/List")) (by decide) (by decide)))
  have c44 : Fld Z h38 a1 "com/example/brisktest/brisktest/Maven$Run" "errorLines" "Ljava/util/List;" (.ref a5) := c30.other W38 (Or.inr (slot_ne (Or.inr (hw _ (List.mem_of_getElem? (i := 100) rfl))) (Or.inr (hw _ (List.mem_of_getElem? (i := 102) rfl))) (by decide) (t := (.object "java/util/List")) (t' := (.object "java/util/List")) (by decide) (by decide)))
  have c46 : Fld Z h38 a1 "com/example/brisktest/brisktest/Maven$Run" "unfinishedTestClasses" "Ljava/util/List;" u_unfinishedTestClasses_a1 := c37.other W38 (Or.inr (slot_ne (Or.inr (hw _ (List.mem_of_getElem? (i := 104) rfl))) (Or.inr (hw _ (List.mem_of_getElem? (i := 102) rfl))) (by decide) (t := (.object "java/util/List")) (t' := (.object "java/util/List")) (by decide) (by decide)))
  have K38 : Keep h0 h38 [a1] := K29.wr W38 (Or.inl (List.mem_of_getElem? (i := 0) rfl))
  refine own_step st38 ?_
  clear K29 N29 W38 X29 c30 c31 c32 c33 c34 c36 c37 e29 st38
  show own_G p.tables e below _ (T38.setTop (mkF m 31 #[.val (.ref a1), .val (.int p2), .val (.int p3), .val (.long q4), .second, .val (.ref a5), .val (.ref a6), .val (.ref a7)] []))
  refine own_step (fun t k => XS.aloadN X38.here hx rfl (hb hby d14_31) rfl rfl k) ?_
  show own_G p.tables e below _ (T38.setTop (mkF m 32 #[.val (.ref a1), .val (.int p2), .val (.int p3), .val (.long q4), .second, .val (.ref a5), .val (.ref a6), .val (.ref a7)] [(.ref a1)]))
  refine own_step (fun t k => XS.aload X38.here hx rfl (hb hby d14_32) rfl rfl k) ?_
  show own_G p.tables e below _ (T38.setTop (mkF m 34 #[.val (.ref a1), .val (.int p2), .val (.int p3), .val (.long q4), .second, .val (.ref a5), .val (.ref a6), .val (.ref a7)] [(.ref a7), (.ref a1)]))
  obtain ⟨T47, h47, X47, e47, W47, st47⟩ := putF X38 hx hZ hown (host := "") (Or.inl (hw _ (List.mem_of_getElem? (i := 103) rfl))) Via.refl e38 c46 c40 (Or.inr ⟨(hw _ (List.mem_of_getElem? (i := 104) rfl)), rfl, hnm⟩) (hw _ (List.mem_of_getElem? (i := 82) rfl)) (ty := (.object "java/util/List")) (by decide) rfl rfl (g := (mkF m 34 #[.val (.ref a1), .val (.int p2), .val (.int p3), .val (.long q4), .second, .val (.ref a5), .val (.ref a6), .val (.ref a7)] [(.ref a7), (.ref a1)])) rfl rfl (hb hby d14_34)
  have N47 := Fr.snoc X47 N38 g_a1
  have c48 : Fld Z h47 a1 "com/example/brisktest/brisktest/Maven$Run" "unfinishedTestClasses" "Ljava/util/List;" (.ref a7) := c46.same W47
  have c49 : Exa Z h47 a1 "com/example/brisktest/brisktest/Maven$Run" := c40.wr W47
  have c50 : Fld Z h47 a1 "com/example/brisktest/brisktest/Maven$Run" "exitCode" "I" (.int p2) := c41.other W47 (Or.inr (slot_ne (Or.inr (hw _ (List.mem_of_getElem? (i := 94) rfl))) (Or.inr (hw _ (List.mem_of_getElem? (i := 104) rfl))) (by decide) (t := .int) (t' := (.object "java/util/List")) (by decide) (by decide)))
  have c51 : Fld Z h47 a1 "com/example/brisktest/brisktest/Maven$Run" "timedOut" "Z" (.int (nar .boolean p3)) := c42.other W47 (Or.inr (slot_ne (Or.inr (hw _ (List.mem_of_getElem? (i := 96) rfl))) (Or.inr (hw _ (List.mem_of_getElem? (i := 104) rfl))) (by decide) (t := .boolean) (t' := (.object "java/util/List")) (by decide) (by decide)))
  have c52 : Fld Z h47 a1 "com/example/brisktest/brisktest/Maven$Run" "durationMillis" "J" (.long q4) := c43.other W47 (Or.inr (slot_ne (Or.inr (hw _ (List.mem_of_getElem? (i := 98) rfl))) (Or.inr (hw _ (List.mem_of_getElem? (i := 104) rfl))) (by decide) (t := .long) (t' := (.object "java/util/List")) (by decide) (by decide)))
  have c53 : Fld Z h47 a1 "com/example/brisktest/brisktest/Maven$Run" "errorLines" "Ljava/util/List;" (.ref a5) := c44.other W47 (Or.inr (slot_ne (Or.inr (hw _ (List.mem_of_getElem? (i := 100) rfl))) (Or.inr (hw _ (List.mem_of_getElem? (i := 104) rfl))) (by decide) (t := (.object "java/util/List")) (t' := (.object "java/util/List")) (by decide) (by decide)))
  have c54 : Fld Z h47 a1 "com/example/brisktest/brisktest/Maven$Run" "compilationErrors" "Ljava/util/List;" (.ref a6) := c39.other W47 (Or.inr (slot_ne (Or.inr (hw _ (List.mem_of_getElem? (i := 102) rfl))) (Or.inr (hw _ (List.mem_of_getElem? (i := 104) rfl))) (by decide) (t := (.object "java/util/List")) (t' := (.object "java/util/List")) (by decide) (by decide)))
  have K47 : Keep h0 h47 [a1] := K38.wr W47 (Or.inl (List.mem_of_getElem? (i := 0) rfl))
  refine own_step st47 ?_
  clear K38 N38 W47 X38 c39 c40 c41 c42 c43 c44 c46 e38 st47
  show own_G p.tables e below _ (T47.setTop (mkF m 37 #[.val (.ref a1), .val (.int p2), .val (.int p3), .val (.long q4), .second, .val (.ref a5), .val (.ref a6), .val (.ref a7)] []))
  obtain ⟨fs, hr, hrun, hended, hW, hsame⟩ := X47.leave (v := none) (fun _ => rfl)
  refine own_done (X47.returnOut hx Bd.returns (hb hby d14_37) hr) hrun hended ⟨_, _, rfl, ?_, ⟨_, rfl⟩, hW, hsame.mono (by decide) (by decide)⟩
  show Q14 Z a1 p2 p3 q4 a5 a6 a7 u_exitCode_a1 u_timedOut_a1 u_durationMillis_a1 u_errorLines_a1 u_compilationErrors_a1 u_unfinishedTestClasses_a1 h0 n0 _ T47.heap _
  rw [e47]
  exact ⟨rfl, N47, K47, c50, c51, c52, c53, c54, c48⟩
theorem d16_0 : decode prog_5_method_2_code 0 = .ok (.aload_n 0, 1) := by decide +kernel
theorem d16_1 : decode prog_5_method_2_code 1 = .ok (.getfield 7, 3) := by decide +kernel
theorem d16_4 : decode prog_5_method_2_code 4 = .ok (.ifCond .ne 7, 3) := by decide +kernel
theorem d16_7 : decode prog_5_method_2_code 7 = .ok (.iconst 1, 1) := by decide +kernel
theorem d16_8 : decode prog_5_method_2_code 8 = .ok (.goto 4, 3) := by decide +kernel
theorem d16_11 : decode prog_5_method_2_code 11 = .ok (.iconst 0, 1) := by decide +kernel
theorem d16_12 : decode prog_5_method_2_code 12 = .ok (.ireturn, 1) := by decide +kernel
theorem pn_16 : plainName "com/example/brisktest/brisktest/Maven$Run" = true := by first | (simp [plainName, overriddenIn]; done) | decide +kernel
theorem ef_16 (m : MethodId) (a1 : Addr) : entryFrame m #[(.ref a1)] 1 = mkF m 0 #[.val (.ref a1)] [] := by first | (simp [entryFrame, mkF, argsToLocals, Value.category]; done) | rfl
def own_f16 (u_exitCode_a1 : Int32) : Int32 :=
  (if u_exitCode_a1 = (0 : Int32) then (1 : Int32) else (0 : Int32))
def Q16 (Z : State) (a1 : Addr) (u_exitCode_a1 : Int32) (h0 : Heap) (n0 : Nat) (v : Option Value) (h : Heap) (L : List Loc) : Prop := v = some (.int (own_f16 u_exitCode_a1)) ∧ Fr n0 L ∧ h = h0
set_option maxRecDepth 65536 in
set_option maxHeartbeats 40000000 in
theorem rm16 (l : Launch) (Z : State) (a0 : Array Value) (hw : ∀ d ∈ tables_1, d.before a0 Z = true) (ws : List Jvm.Cond) (a1 : Addr) (u_exitCode_a1 : Int32) (h0 : Heap) (n0 : Nat) (Z0 : n0 ≤ h0.size) (fp0 : Fld Z h0 a1 "com/example/brisktest/brisktest/Maven$Run" "exitCode" "I" (.int u_exitCode_a1)) :
    MetFree l (⟨"com/example/brisktest/brisktest/Maven$Run", "succeeded", "()Z"⟩ : MethodName) (head1 (Jvm.Cond.code (⟨"com/example/brisktest/brisktest/Maven$Run", "succeeded", "()Z"⟩ : MethodName) prog_5_method_2_code 1 (some .boolean) :: ws) ({ frames := 0, cells := 0, slots := 0, locals := 0 } : Room)) (fun a U => a = #[(.ref a1)] ∧ Z.Warmed39 U.vm ∧ U.heap = h0) (fun _ _ _ _ _ => True) (fun _ U o U' => ∃ v L, o = .returned v ∧ Q16 Z a1 u_exitCode_a1 h0 n0 v U'.heap L ∧ FrameEnd U o U' L ({ frames := 0, cells := 0, slots := 0, locals := 0 } : Room).cells ({ frames := 0, cells := 0, slots := 0, locals := 0 } : Room).slots) := by
  refine MetFree.of_bodySF (plainFor_of_name pn_16) hisR ?_
  intro p e s m args below meth c s₁ Bd hml0 hP hK
  obtain ⟨rfl, hZ, hh⟩ := hP
  have hx := Bd.exec
  have hby := Bd.bytes
  have hml : c.maxLocals = 1 := hml0
  have hown : s.vm.findClass "com/example/brisktest/brisktest/Maven$Run" = some m.cls := findClass_of_methodNamed Bd.named
  have hnm := (name_of_methodNamed Bd.named Bd.method).1
  have X0 : Stand p l e ({ frames := 0, cells := 0, slots := 0, locals := 0 } : Room) s m #[(.ref a1)] below meth c s₁ [] 0 0 := Stand.of_body Bd
  have e0 : s₁.heap = h0 := by rw [← hh, Bd.state]; rfl
  have N0 := Fr.nil n0
  refine own_start (fun t k => castTop (ef_16 m a1) k) ?_
  show own_G p.tables e below _ (s₁.setTop (mkF m 0 #[.val (.ref a1)] []))
  refine own_step (fun t k => XS.aloadN X0.here hx rfl (hb hby d16_0) rfl rfl k) ?_
  show own_G p.tables e below _ (s₁.setTop (mkF m 1 #[.val (.ref a1)] [(.ref a1)]))
  obtain ⟨T1, X1, e1, st1⟩ := getF X0 hx hZ hown (host := "") (Or.inl (hw _ (List.mem_of_getElem? (i := 93) rfl))) Via.refl e0 fp0 (g := (mkF m 1 #[.val (.ref a1)] [(.ref a1)])) rfl rfl (hb hby d16_1)
  refine own_step st1 ?_
  show own_G p.tables e below _ (T1.setTop (mkF m 4 #[.val (.ref a1)] [(.int u_exitCode_a1)]))
  by_cases hc2 : u_exitCode_a1 = (0 : Int32)
  · skip
    refine own_step (fun t k => XS.ifNo X1.here hx rfl (hb hby d16_4) rfl ((if0 _ _).trans (teq hc2).2) k) ?_
    show own_G p.tables e below _ (T1.setTop (mkF m 7 #[.val (.ref a1)] []))
    refine own_step (fun t k => XS.iconst X1.here hx rfl (hb hby d16_7) k) ?_
    show own_G p.tables e below _ (T1.setTop (mkF m 8 #[.val (.ref a1)] [(.int (1 : Int32))]))
    refine own_step (fun t k => XS.goto X1.here hx rfl (pc0 := 8) (pc' := 12) rfl (hb hby d16_8) (by decide) (by decide) k) ?_
    show own_G p.tables e below _ (T1.setTop (mkF m 12 #[.val (.ref a1)] [(.int (1 : Int32))]))
    obtain ⟨fs, hr, hrun, hended, hW, hsame⟩ := X1.leave (v := some (.int (1 : Int32))) (fun h => by rw [Bd.returns] at h; cases h)
    refine own_done (retN X1 hx (t := .boolean) Bd.returns (by simp) (hb hby d16_12) hr) hrun hended ⟨_, _, rfl, ?_, ⟨_, rfl⟩, hW, hsame.mono (by decide) (by decide)⟩
    show Q16 Z a1 u_exitCode_a1 h0 n0 _ T1.heap _
    rw [e1]
    exact ⟨congrArg (fun z => some (Value.int z)) (show (1 : Int32) = (own_f16 u_exitCode_a1) from by unfold own_f16; simp only [if_pos hc2]), N0, rfl⟩
  · skip
    refine own_step (fun t k => XS.ifYes X1.here hx rfl (pc0 := 4) (pc' := 11) rfl (hb hby d16_4) rfl ((if0 _ _).trans (feq hc2).2) (by decide) (by decide) k) ?_
    show own_G p.tables e below _ (T1.setTop (mkF m 11 #[.val (.ref a1)] []))
    refine own_step (fun t k => XS.iconst X1.here hx rfl (hb hby d16_11) k) ?_
    show own_G p.tables e below _ (T1.setTop (mkF m 12 #[.val (.ref a1)] [(.int (0 : Int32))]))
    obtain ⟨fs, hr, hrun, hended, hW, hsame⟩ := X1.leave (v := some (.int (0 : Int32))) (fun h => by rw [Bd.returns] at h; cases h)
    refine own_done (retN X1 hx (t := .boolean) Bd.returns (by simp) (hb hby d16_12) hr) hrun hended ⟨_, _, rfl, ?_, ⟨_, rfl⟩, hW, hsame.mono (by decide) (by decide)⟩
    show Q16 Z a1 u_exitCode_a1 h0 n0 _ T1.heap _
    rw [e1]
    exact ⟨congrArg (fun z => some (Value.int z)) (show (0 : Int32) = (own_f16 u_exitCode_a1) from by unfold own_f16; simp only [if_neg hc2]), N0, rfl⟩
theorem d6_0 : decode jdk_43_method_3_code 0 = .ok (.iload_n 0, 1) := by decide +kernel
theorem d6_1 : decode jdk_43_method_3_code 1 = .ok (.sipush 255, 3) := by decide +kernel
theorem d6_4 : decode jdk_43_method_3_code 4 = .ok (.if_icmp .gt 7, 3) := by decide +kernel
theorem d6_7 : decode jdk_43_method_3_code 7 = .ok (.iconst 1, 1) := by decide +kernel
theorem d6_8 : decode jdk_43_method_3_code 8 = .ok (.goto 4, 3) := by decide +kernel
theorem d6_11 : decode jdk_43_method_3_code 11 = .ok (.iconst 0, 1) := by decide +kernel
theorem d6_12 : decode jdk_43_method_3_code 12 = .ok (.ireturn, 1) := by decide +kernel
theorem pn_6 : plainName "java/lang/StringLatin1" = true := by first | (simp [plainName, overriddenIn]; done) | decide +kernel
theorem ef_6 (m : MethodId) (p1 : Int32) : entryFrame m #[(.int p1)] 1 = mkF m 0 #[.val (.int p1)] [] := by first | (simp [entryFrame, mkF, argsToLocals, Value.category]; done) | rfl
def own_f6 (p1 : Int32) : Int32 :=
  (if (255 : Int32) < p1 then (0 : Int32) else (1 : Int32))
def Q6 (Z : State) (p1 : Int32) (h0 : Heap) (n0 : Nat) (v : Option Value) (h : Heap) (L : List Loc) : Prop := v = some (.int (own_f6 p1)) ∧ Fr n0 L ∧ h = h0
set_option maxRecDepth 65536 in
set_option maxHeartbeats 40000000 in
theorem rm6 (l : Launch) (Z : State) (a0 : Array Value) (hw : ∀ d ∈ tables_1, d.before a0 Z = true) (ws : List Jvm.Cond) (p1 : Int32) (h0 : Heap) (n0 : Nat) (Z0 : n0 ≤ h0.size) :
    MetFree l (⟨"java/lang/StringLatin1", "canEncode", "(C)Z"⟩ : MethodName) (head1 (Jvm.Cond.code (⟨"java/lang/StringLatin1", "canEncode", "(C)Z"⟩ : MethodName) jdk_43_method_3_code 1 (some .boolean) :: ws) ({ frames := 0, cells := 0, slots := 0, locals := 0 } : Room)) (fun a U => a = #[(.int p1)] ∧ Z.Warmed39 U.vm ∧ U.heap = h0) (fun _ _ _ _ _ => True) (fun _ U o U' => ∃ v L, o = .returned v ∧ Q6 Z p1 h0 n0 v U'.heap L ∧ FrameEnd U o U' L ({ frames := 0, cells := 0, slots := 0, locals := 0 } : Room).cells ({ frames := 0, cells := 0, slots := 0, locals := 0 } : Room).slots) := by
  refine MetFree.of_bodySF (plainFor_of_name pn_6) hisR ?_
  intro p e s m args below meth c s₁ Bd hml0 hP hK
  obtain ⟨rfl, hZ, hh⟩ := hP
  have hx := Bd.exec
  have hby := Bd.bytes
  have hml : c.maxLocals = 1 := hml0
  have hown : s.vm.findClass "java/lang/StringLatin1" = some m.cls := findClass_of_methodNamed Bd.named
  have hnm := (name_of_methodNamed Bd.named Bd.method).1
  have X0 : Stand p l e ({ frames := 0, cells := 0, slots := 0, locals := 0 } : Room) s m #[(.int p1)] below meth c s₁ [] 0 0 := Stand.of_body Bd
  have e0 : s₁.heap = h0 := by rw [← hh, Bd.state]; rfl
  have N0 := Fr.nil n0
  refine own_start (fun t k => castTop (ef_6 m p1) k) ?_
  show own_G p.tables e below _ (s₁.setTop (mkF m 0 #[.val (.int p1)] []))
  refine own_step (fun t k => XS.iloadN X0.here hx rfl (hb hby d6_0) rfl k) ?_
  show own_G p.tables e below _ (s₁.setTop (mkF m 1 #[.val (.int p1)] [(.int p1)]))
  refine own_step (fun t k => XS.sipush X0.here hx rfl (hb hby d6_1) k) ?_
  show own_G p.tables e below _ (s₁.setTop (mkF m 4 #[.val (.int p1)] [(.int (255 : Int32)), (.int p1)]))
  by_cases hc1 : (255 : Int32) < p1
  · skip
    refine own_step (fun t k => XS.icmpYes X0.here hx rfl (pc0 := 4) (pc' := 11) rfl (hb hby d6_4) rfl ((tlt hc1).2.2.1) (by decide) (by decide) k) ?_
    show own_G p.tables e below _ (s₁.setTop (mkF m 11 #[.val (.int p1)] []))
    refine own_step (fun t k => XS.iconst X0.here hx rfl (hb hby d6_11) k) ?_
    show own_G p.tables e below _ (s₁.setTop (mkF m 12 #[.val (.int p1)] [(.int (0 : Int32))]))
    obtain ⟨fs, hr, hrun, hended, hW, hsame⟩ := X0.leave (v := some (.int (0 : Int32))) (fun h => by rw [Bd.returns] at h; cases h)
    refine own_done (retN X0 hx (t := .boolean) Bd.returns (by simp) (hb hby d6_12) hr) hrun hended ⟨_, _, rfl, ?_, ⟨_, rfl⟩, hW, hsame.mono (by decide) (by decide)⟩
    show Q6 Z p1 h0 n0 _ s₁.heap _
    rw [e0]
    exact ⟨congrArg (fun z => some (Value.int z)) (show (0 : Int32) = (own_f6 p1) from by unfold own_f6; simp only [if_pos hc1]), N0, rfl⟩
  · skip
    refine own_step (fun t k => XS.icmpNo X0.here hx rfl (hb hby d6_4) rfl ((flt hc1).2.2.1) k) ?_
    show own_G p.tables e below _ (s₁.setTop (mkF m 7 #[.val (.int p1)] []))
    refine own_step (fun t k => XS.iconst X0.here hx rfl (hb hby d6_7) k) ?_
    show own_G p.tables e below _ (s₁.setTop (mkF m 8 #[.val (.int p1)] [(.int (1 : Int32))]))
    refine own_step (fun t k => XS.goto X0.here hx rfl (pc0 := 8) (pc' := 12) rfl (hb hby d6_8) (by decide) (by decide) k) ?_
    show own_G p.tables e below _ (s₁.setTop (mkF m 12 #[.val (.int p1)] [(.int (1 : Int32))]))
    obtain ⟨fs, hr, hrun, hended, hW, hsame⟩ := X0.leave (v := some (.int (1 : Int32))) (fun h => by rw [Bd.returns] at h; cases h)
    refine own_done (retN X0 hx (t := .boolean) Bd.returns (by simp) (hb hby d6_12) hr) hrun hended ⟨_, _, rfl, ?_, ⟨_, rfl⟩, hW, hsame.mono (by decide) (by decide)⟩
    show Q6 Z p1 h0 n0 _ s₁.heap _
    rw [e0]
    exact ⟨congrArg (fun z => some (Value.int z)) (show (1 : Int32) = (own_f6 p1) from by unfold own_f6; simp only [if_neg hc1]), N0, rfl⟩
theorem d7_0 : decode jdk_43_method_46_code 0 = .ok (.iconst 1, 1) := by decide +kernel
theorem d7_1 : decode jdk_43_method_46_code 1 = .ok (.newarray .byte, 2) := by decide +kernel
theorem d7_3 : decode jdk_43_method_46_code 3 = .ok (.dup, 1) := by decide +kernel
theorem d7_4 : decode jdk_43_method_46_code 4 = .ok (.iconst 0, 1) := by decide +kernel
theorem d7_5 : decode jdk_43_method_46_code 5 = .ok (.iload_n 0, 1) := by decide +kernel
theorem d7_6 : decode jdk_43_method_46_code 6 = .ok (.i2b, 1) := by decide +kernel
theorem d7_7 : decode jdk_43_method_46_code 7 = .ok (.bastore, 1) := by decide +kernel
theorem d7_8 : decode jdk_43_method_46_code 8 = .ok (.areturn, 1) := by decide +kernel
theorem pn_7 : plainName "java/lang/StringLatin1" = true := by first | (simp [plainName, overriddenIn]; done) | decide +kernel
theorem ef_7 (m : MethodId) (p1 : Int32) : entryFrame m #[(.int p1)] 1 = mkF m 0 #[.val (.int p1)] [] := by first | (simp [entryFrame, mkF, argsToLocals, Value.category]; done) | rfl
def Q7 (Z : State) (p1 : Int32) (h0 : Heap) (n0 : Nat) (v : Option Value) (h : Heap) (L : List Loc) : Prop := ∃ (rb : Addr), v = some (.ref rb) ∧ Fr n0 L ∧ Keep h0 h [] ∧ own_Ari Z h rb .byte [(nar .byte (p1.toInt8.toInt32))] ∧ h0.size ≤ rb
set_option maxRecDepth 65536 in
set_option maxHeartbeats 40000000 in
theorem rm7 (l : Launch) (Z : State) (a0 : Array Value) (hw : ∀ d ∈ tables_1, d.before a0 Z = true) (ws : List Jvm.Cond) (p1 : Int32) (h0 : Heap) (n0 : Nat) (Z0 : n0 ≤ h0.size) :
    MetFree l (⟨"java/lang/StringLatin1", "toBytes", "(C)[B"⟩ : MethodName) (head1 (Jvm.Cond.code (⟨"java/lang/StringLatin1", "toBytes", "(C)[B"⟩ : MethodName) jdk_43_method_46_code 1 (some (.array .byte)) :: ws) ({ frames := 0, cells := 1, slots := 1, locals := 0 } : Room)) (fun a U => a = #[(.int p1)] ∧ Z.Warmed39 U.vm ∧ U.heap = h0) (fun _ _ _ _ _ => True) (fun _ U o U' => ∃ v L, o = .returned v ∧ Q7 Z p1 h0 n0 v U'.heap L ∧ FrameEnd U o U' L ({ frames := 0, cells := 1, slots := 1, locals := 0 } : Room).cells ({ frames := 0, cells := 1, slots := 1, locals := 0 } : Room).slots) := by
  refine MetFree.of_bodySF (plainFor_of_name pn_7) hisR ?_
  intro p e s m args below meth c s₁ Bd hml0 hP hK
  obtain ⟨rfl, hZ, hh⟩ := hP
  have hx := Bd.exec
  have hby := Bd.bytes
  have hml : c.maxLocals = 1 := hml0
  have hown : s.vm.findClass "java/lang/StringLatin1" = some m.cls := findClass_of_methodNamed Bd.named
  have hnm := (name_of_methodNamed Bd.named Bd.method).1
  have X0 : Stand p l e ({ frames := 0, cells := 1, slots := 1, locals := 0 } : Room) s m #[(.int p1)] below meth c s₁ [] 0 0 := Stand.of_body Bd
  have e0 : s₁.heap = h0 := by rw [← hh, Bd.state]; rfl
  have N0 := Fr.nil n0
  refine own_start (fun t k => castTop (ef_7 m p1) k) ?_
  show own_G p.tables e below _ (s₁.setTop (mkF m 0 #[.val (.int p1)] []))
  refine own_step (fun t k => XS.iconst X0.here hx rfl (hb hby d7_0) k) ?_
  show own_G p.tables e below _ (s₁.setTop (mkF m 1 #[.val (.int p1)] [(.int (1 : Int32))]))
  obtain ⟨T1, h1, k1, X1, e1, E1, A1, st1⟩ := newP X0 hx hZ (hw _ (List.mem_of_getElem? (i := 40) rfl)) e0 (g := (mkF m 1 #[.val (.int p1)] [(.int (1 : Int32))])) rfl (hb hby d7_1) rfl (by decide) (cap := 1) (by decide) (by decide) (by decide) (by decide)
  obtain ⟨b1, g1⟩ : ∃ z, z = h0.size := ⟨_, rfl⟩
  have sz1 : h0.size ≤ b1 := Nat.le_trans (Keep.refl h0 []).1 (Nat.le_of_eq g1.symm)
  have ge1 : n0 ≤ b1 := Nat.le_trans Z0 sz1
  have K1 : Keep h0 h1 [] := (Keep.refl h0 []).ext E1
  rw [← g1] at A1 st1
  have c2 : own_Ari Z h1 b1 .byte [(0 : Int32)] := own_Ari_new (ty := .byte) A1 (by decide) rfl
  refine own_step st1 ?_
  show own_G p.tables e below _ (T1.setTop (mkF m 3 #[.val (.int p1)] [(.ref b1)]))
  refine own_step (fun t k => XS.dup X1.here hx rfl (hb hby d7_3) rfl rfl k) ?_
  show own_G p.tables e below _ (T1.setTop (mkF m 4 #[.val (.int p1)] [(.ref b1), (.ref b1)]))
  refine own_step (fun t k => XS.iconst X1.here hx rfl (hb hby d7_4) k) ?_
  show own_G p.tables e below _ (T1.setTop (mkF m 5 #[.val (.int p1)] [(.int (0 : Int32)), (.ref b1), (.ref b1)]))
  refine own_step (fun t k => XS.iloadN X1.here hx rfl (hb hby d7_5) rfl k) ?_
  show own_G p.tables e below _ (T1.setTop (mkF m 6 #[.val (.int p1)] [(.int p1), (.int (0 : Int32)), (.ref b1), (.ref b1)]))
  refine own_step (fun t k => XS.i2b X1.here hx rfl (hb hby d7_6) rfl k) ?_
  show own_G p.tables e below _ (T1.setTop (mkF m 7 #[.val (.int p1)] [(.int (p1.toInt8.toInt32)), (.int (0 : Int32)), (.ref b1), (.ref b1)]))
  obtain ⟨T3, h3, X3, e3, W3, c3, st3⟩ := own_bastore X1 hx hZ e1 c2 (own_inb (by decide) (Nat.le_of_ble_eq_true rfl)) (g := (mkF m 7 #[.val (.int p1)] [(.int (p1.toInt8.toInt32)), (.int (0 : Int32)), (.ref b1), (.ref b1)])) rfl rfl (hb hby d7_7)
  have N3 := Fr.snoc X3 N0 ge1
  have c4 : own_Ari Z h3 b1 .byte [(nar .byte (p1.toInt8.toInt32))] := c3
  have K3 : Keep h0 h3 [] := K1.wr W3 (Or.inr sz1)
  refine own_step st3 ?_
  clear A1 E1 K1 W3 X1 c2 c3 e1 g1 st1 st3
  show own_G p.tables e below _ (T3.setTop (mkF m 8 #[.val (.int p1)] [(.ref b1)]))
  obtain ⟨fs, hr, hrun, hended, hW, hsame⟩ := X3.leave (v := some (.ref b1)) (fun h => by rw [Bd.returns] at h; cases h)
  refine own_done (own_retA X3 hx Bd.returns (by decide) rfl (hb hby d7_8) hr) hrun hended ⟨_, _, rfl, ?_, ⟨_, rfl⟩, hW, hsame.mono (by decide) (by decide)⟩
  show Q7 Z p1 h0 n0 _ T3.heap _
  rw [e3]
  exact ⟨b1, rfl, N3, K3, c4, sz1⟩
theorem d8_0 : decode jdk_42_method_151_code 0 = .ok (.aload_n 0, 1) := by decide +kernel
theorem d8_1 : decode jdk_42_method_151_code 1 = .ok (.invokespecial 1, 3) := by decide +kernel
theorem d8_4 : decode jdk_42_method_151_code 4 = .ok (.aload_n 0, 1) := by decide +kernel
theorem d8_5 : decode jdk_42_method_151_code 5 = .ok (.aload_n 1, 1) := by decide +kernel
theorem d8_6 : decode jdk_42_method_151_code 6 = .ok (.putfield 9, 3) := by decide +kernel
theorem d8_9 : decode jdk_42_method_151_code 9 = .ok (.aload_n 0, 1) := by decide +kernel
theorem d8_10 : decode jdk_42_method_151_code 10 = .ok (.iload_n 2, 1) := by decide +kernel
theorem d8_11 : decode jdk_42_method_151_code 11 = .ok (.putfield 15, 3) := by decide +kernel
theorem d8_14 : decode jdk_42_method_151_code 14 = .ok (.return_, 1) := by decide +kernel
theorem pn_8 : plainName "java/lang/String" = true := by first | (simp [plainName, overriddenIn]; done) | decide +kernel
theorem ef_8 (m : MethodId) (a1 : Addr) (a2 : Addr) (p3 : Int32) : entryFrame m #[(.ref a1), (.ref a2), (.int p3)] 3 = mkF m 0 #[.val (.ref a1), .val (.ref a2), .val (.int p3)] [] := by first | (simp [entryFrame, mkF, argsToLocals, Value.category]; done) | rfl
def Q8 (Z : State) (a1 : Addr) (a2 : Addr) (p3 : Int32) (u_value_a1 : Value) (u_coder_a1 : Value) (h0 : Heap) (n0 : Nat) (v : Option Value) (h : Heap) (L : List Loc) : Prop := v = none ∧ Fr n0 L ∧ Keep h0 h [a1] ∧ Fld Z h a1 "java/lang/String" "value" "[B" (.ref a2) ∧ Fld Z h a1 "java/lang/String" "coder" "B" (.int (nar .byte p3))
set_option maxRecDepth 65536 in
set_option maxHeartbeats 40000000 in
theorem rm8 (l : Launch) (Z : State) (a0 : Array Value) (hw : ∀ d ∈ tables_1, d.before a0 Z = true) (ws : List Jvm.Cond) (a1 : Addr) (a2 : Addr) (p3 : Int32) (u_value_a1 : Value) (u_coder_a1 : Value) (h0 : Heap) (n0 : Nat) (Z0 : n0 ≤ h0.size) (fp0 : Exa Z h0 a1 "java/lang/String") (fp1 : Fld Z h0 a1 "java/lang/String" "value" "[B" u_value_a1) (fp2 : Fld Z h0 a1 "java/lang/String" "coder" "B" u_coder_a1) (g_a1 : n0 ≤ a1) :
    MetFree l (⟨"java/lang/String", "<init>", "([BB)V"⟩ : MethodName) (head1 (Jvm.Cond.code (⟨"java/lang/String", "<init>", "([BB)V"⟩ : MethodName) jdk_42_method_151_code 3 none :: ws) ({ frames := 1, cells := 0, slots := 0, locals := 12 } : Room)) (fun a U => a = #[(.ref a1), (.ref a2), (.int p3)] ∧ Z.Warmed39 U.vm ∧ U.heap = h0) (fun _ _ _ _ _ => True) (fun _ U o U' => ∃ v L, o = .returned v ∧ Q8 Z a1 a2 p3 u_value_a1 u_coder_a1 h0 n0 v U'.heap L ∧ FrameEnd U o U' L ({ frames := 1, cells := 0, slots := 0, locals := 12 } : Room).cells ({ frames := 1, cells := 0, slots := 0, locals := 12 } : Room).slots) := by
  refine MetFree.of_bodySF (plainFor_of_name pn_8) hisR ?_
  intro p e s m args below meth c s₁ Bd hml0 hP hK
  obtain ⟨rfl, hZ, hh⟩ := hP
  have hx := Bd.exec
  have hby := Bd.bytes
  have hml : c.maxLocals = 3 := hml0
  have hown : s.vm.findClass "java/lang/String" = some m.cls := findClass_of_methodNamed Bd.named
  have hnm := (name_of_methodNamed Bd.named Bd.method).1
  have X0 : Stand p l e ({ frames := 1, cells := 0, slots := 0, locals := 12 } : Room) s m #[(.ref a1), (.ref a2), (.int p3)] below meth c s₁ [] 0 0 := Stand.of_body Bd
  have e0 : s₁.heap = h0 := by rw [← hh, Bd.state]; rfl
  have N0 := Fr.nil n0
  refine own_start (fun t k => castTop (ef_8 m a1 a2 p3) k) ?_
  show own_G p.tables e below _ (s₁.setTop (mkF m 0 #[.val (.ref a1), .val (.ref a2), .val (.int p3)] []))
  refine own_step (fun t k => XS.aloadN X0.here hx rfl (hb hby d8_0) rfl rfl k) ?_
  show own_G p.tables e below _ (s₁.setTop (mkF m 1 #[.val (.ref a1), .val (.ref a2), .val (.int p3)] [(.ref a1)]))
  obtain ⟨T1, X1, e1, st1⟩ := initO X0 hx hZ hown (hw _ (List.mem_of_getElem? (i := 45) rfl)) (hw _ (List.mem_of_getElem? (i := 19) rfl)) (hw _ (List.mem_of_getElem? (i := 20) rfl)) e0 (g := (mkF m 1 #[.val (.ref a1), .val (.ref a2), .val (.int p3)] [(.ref a1)])) rfl (by rw [hml]; rfl) rfl (hb hby d8_1) (by decide) (W := 0) (by show 2 * 0 + _ ≤ _; exact Nat.le_of_eq rfl) (by decide)
  refine own_step st1 ?_
  show own_G p.tables e below _ (T1.setTop (mkF m 4 #[.val (.ref a1), .val (.ref a2), .val (.int p3)] []))
  refine own_step (fun t k => XS.aloadN X1.here hx rfl (hb hby d8_4) rfl rfl k) ?_
  show own_G p.tables e below _ (T1.setTop (mkF m 5 #[.val (.ref a1), .val (.ref a2), .val (.int p3)] [(.ref a1)]))
  refine own_step (fun t k => XS.aloadN X1.here hx rfl (hb hby d8_5) rfl rfl k) ?_
  show own_G p.tables e below _ (T1.setTop (mkF m 6 #[.val (.ref a1), .val (.ref a2), .val (.int p3)] [(.ref a2), (.ref a1)]))
  obtain ⟨T2, h2, X2, e2, W2, st2⟩ := putF X1 hx hZ hown (host := "") (Or.inl (hw _ (List.mem_of_getElem? (i := 46) rfl))) Via.refl e1 fp1 fp0 (Or.inr ⟨(hw _ (List.mem_of_getElem? (i := 47) rfl)), rfl, hnm⟩) (hw _ (List.mem_of_getElem? (i := 36) rfl)) (ty := (.array .byte)) (by decide) rfl rfl (g := (mkF m 6 #[.val (.ref a1), .val (.ref a2), .val (.int p3)] [(.ref a2), (.ref a1)])) rfl rfl (hb hby d8_6)
  have N2 := Fr.snoc X2 N0 g_a1
  have c3 : Fld Z h2 a1 "java/lang/String" "value" "[B" (.ref a2) := fp1.same W2
  have c4 : Exa Z h2 a1 "java/lang/String" := fp0.wr W2
  have c6 : Fld Z h2 a1 "java/lang/String" "coder" "B" u_coder_a1 := fp2.other W2 (Or.inr (slot_ne (Or.inr (hw _ (List.mem_of_getElem? (i := 49) rfl))) (Or.inr (hw _ (List.mem_of_getElem? (i := 47) rfl))) (by decide) (t := .byte) (t' := (.array .byte)) (by decide) (by decide)))
  have K2 : Keep h0 h2 [a1] := (Keep.refl h0 [a1]).wr W2 (Or.inl (List.mem_of_getElem? (i := 0) rfl))
  refine own_step st2 ?_
  show own_G p.tables e below _ (T2.setTop (mkF m 9 #[.val (.ref a1), .val (.ref a2), .val (.int p3)] []))
  refine own_step (fun t k => XS.aloadN X2.here hx rfl (hb hby d8_9) rfl rfl k) ?_
  show own_G p.tables e below _ (T2.setTop (mkF m 10 #[.val (.ref a1), .val (.ref a2), .val (.int p3)] [(.ref a1)]))
  refine own_step (fun t k => XS.iloadN X2.here hx rfl (hb hby d8_10) rfl k) ?_
  show own_G p.tables e below _ (T2.setTop (mkF m 11 #[.val (.ref a1), .val (.ref a2), .val (.int p3)] [(.int p3), (.ref a1)]))
  obtain ⟨T7, h7, X7, e7, W7, st7⟩ := putFN X2 hx hZ hown (hw _ (List.mem_of_getElem? (i := 48) rfl)) Via.refl e2 c6 c4 (Or.inr ⟨(hw _ (List.mem_of_getElem? (i := 49) rfl)), rfl, hnm⟩) (hw _ (List.mem_of_getElem? (i := 36) rfl)) (ty := .byte) (v' := (.int (nar .byte p3))) (by decide) rfl (fits_nar_byte _) (g := (mkF m 11 #[.val (.ref a1), .val (.ref a2), .val (.int p3)] [(.int p3), (.ref a1)])) rfl rfl (hb hby d8_11)
  have N7 := Fr.snoc X7 N2 g_a1
  have c8 : Fld Z h7 a1 "java/lang/String" "coder" "B" (.int (nar .byte p3)) := c6.same W7
  have c9 : Exa Z h7 a1 "java/lang/String" := c4.wr W7
  have c10 : Fld Z h7 a1 "java/lang/String" "value" "[B" (.ref a2) := c3.other W7 (Or.inr (slot_ne (Or.inr (hw _ (List.mem_of_getElem? (i := 47) rfl))) (Or.inr (hw _ (List.mem_of_getElem? (i := 49) rfl))) (by decide) (t := (.array .byte)) (t' := .byte) (by decide) (by decide)))
  have K7 : Keep h0 h7 [a1] := K2.wr W7 (Or.inl (List.mem_of_getElem? (i := 0) rfl))
  refine own_step st7 ?_
  clear K2 N2 W2 W7 X1 X2 c3 c4 c6 e1 e2 st1 st2 st7
  show own_G p.tables e below _ (T7.setTop (mkF m 14 #[.val (.ref a1), .val (.ref a2), .val (.int p3)] []))
  obtain ⟨fs, hr, hrun, hended, hW, hsame⟩ := X7.leave (v := none) (fun _ => rfl)
  refine own_done (X7.returnOut hx Bd.returns (hb hby d8_14) hr) hrun hended ⟨_, _, rfl, ?_, ⟨_, rfl⟩, hW, hsame.mono (by decide) (by decide)⟩
  show Q8 Z a1 a2 p3 u_value_a1 u_coder_a1 h0 n0 _ T7.heap _
  rw [e7]
  exact ⟨rfl, N7, K7, c10, c8⟩
theorem d5_0 : decode jdk_42_method_139_code 0 = .ok (.getstatic 38, 3) := by decide +kernel
theorem d5_3 : decode jdk_42_method_139_code 3 = .ok (.ifCond .eq 23, 3) := by decide +kernel
theorem d5_6 : decode jdk_42_method_139_code 6 = .ok (.iload_n 0, 1) := by decide +kernel
theorem d5_7 : decode jdk_42_method_139_code 7 = .ok (.invokestatic 1015, 3) := by decide +kernel
theorem d5_10 : decode jdk_42_method_139_code 10 = .ok (.ifCond .eq 16, 3) := by decide +kernel
theorem d5_13 : decode jdk_42_method_139_code 13 = .ok (.new 10, 3) := by decide +kernel
theorem d5_16 : decode jdk_42_method_139_code 16 = .ok (.dup, 1) := by decide +kernel
theorem d5_17 : decode jdk_42_method_139_code 17 = .ok (.iload_n 0, 1) := by decide +kernel
theorem d5_18 : decode jdk_42_method_139_code 18 = .ok (.invokestatic 1018, 3) := by decide +kernel
theorem d5_21 : decode jdk_42_method_139_code 21 = .ok (.iconst 0, 1) := by decide +kernel
theorem d5_22 : decode jdk_42_method_139_code 22 = .ok (.invokespecial 209, 3) := by decide +kernel
theorem d5_25 : decode jdk_42_method_139_code 25 = .ok (.areturn, 1) := by decide +kernel
theorem pn_5 : plainName "java/lang/String" = true := by first | (simp [plainName, overriddenIn]; done) | decide +kernel
theorem pd_5_0 : parseMethodDescriptor "(C)Z" = some ⟨[.char], some .boolean⟩ := by decide +kernel
theorem pd_5_1 : parseMethodDescriptor "(C)[B" = some ⟨[.char], some (.array .byte)⟩ := by decide +kernel
theorem pd_5_2 : parseMethodDescriptor "([BB)V" = some ⟨[(.array .byte), .byte], none⟩ := by decide +kernel
theorem ef_5 (m : MethodId) (p1 : Int32) : entryFrame m #[(.int p1)] 1 = mkF m 0 #[.val (.int p1)] [] := by first | (simp [entryFrame, mkF, argsToLocals, Value.category]; done) | rfl
def Q5 (Z : State) (p1 : Int32) (s_COMPACT_STRINGS : Int32) (h0 : Heap) (n0 : Nat) (v : Option Value) (h : Heap) (L : List Loc) : Prop := ∃ (rb : Addr) (x2 : Addr), v = some (.ref rb) ∧ Fr n0 L ∧ Keep h0 h [] ∧ Exa Z h rb "java/lang/String" ∧ Fld Z h rb "java/lang/String" "value" "[B" (.ref x2) ∧ Fld Z h rb "java/lang/String" "coder" "B" (.int (nar .byte (0 : Int32))) ∧ own_Ari Z h x2 .byte [(nar .byte (p1.toInt8.toInt32))] ∧ h0.size ≤ rb ∧ h0.size ≤ x2 ∧ rb ≠ x2
set_option maxRecDepth 65536 in
set_option maxHeartbeats 40000000 in
theorem rm5 (l : Launch) (Z : State) (a0 : Array Value) (hw : ∀ d ∈ tables_1, d.before a0 Z = true) (ws : List Jvm.Cond) (p1 : Int32) (s_COMPACT_STRINGS : Int32) (h0 : Heap) (n0 : Nat) (Z0 : n0 ≤ h0.size) (fp0 : Sta Z h0 "java/lang/String" "COMPACT_STRINGS" "Z" (.int s_COMPACT_STRINGS)) (hcs : ¬ (s_COMPACT_STRINGS = (0 : Int32))) (hp : ¬ ((255 : Int32) < p1)) :
    MetFree l (⟨"java/lang/String", "valueOf", "(C)Ljava/lang/String;"⟩ : MethodName) (head1 (Jvm.Cond.code (⟨"java/lang/String", "valueOf", "(C)Ljava/lang/String;"⟩ : MethodName) jdk_42_method_139_code 1 (some (.object "java/lang/String")) :: ws) ({ frames := 2, cells := 2, slots := 5, locals := 27 } : Room)) (fun a U => a = #[(.int p1)] ∧ Z.Warmed39 U.vm ∧ U.heap = h0) (fun _ _ _ _ _ => True) (fun _ U o U' => ∃ v L, o = .returned v ∧ Q5 Z p1 s_COMPACT_STRINGS h0 n0 v U'.heap L ∧ FrameEnd U o U' L ({ frames := 2, cells := 2, slots := 5, locals := 27 } : Room).cells ({ frames := 2, cells := 2, slots := 5, locals := 27 } : Room).slots) := by
  refine MetFree.of_bodySF (plainFor_of_name pn_5) hisR ?_
  intro p e s m args below meth c s₁ Bd hml0 hP hK
  obtain ⟨rfl, hZ, hh⟩ := hP
  have hx := Bd.exec
  have hby := Bd.bytes
  have hml : c.maxLocals = 1 := hml0
  have hown : s.vm.findClass "java/lang/String" = some m.cls := findClass_of_methodNamed Bd.named
  have hnm := (name_of_methodNamed Bd.named Bd.method).1
  have X0 : Stand p l e ({ frames := 2, cells := 2, slots := 5, locals := 27 } : Room) s m #[(.int p1)] below meth c s₁ [] 0 0 := Stand.of_body Bd
  have e0 : s₁.heap = h0 := by rw [← hh, Bd.state]; rfl
  have N0 := Fr.nil n0
  refine own_start (fun t k => castTop (ef_5 m p1) k) ?_
  show own_G p.tables e below _ (s₁.setTop (mkF m 0 #[.val (.int p1)] []))
  obtain ⟨T1, X1, e1, st1⟩ := getS2 X0 hx hZ hown (host := "") (Or.inl (hw _ (List.mem_of_getElem? (i := 30) rfl))) Via.refl e0 fp0 (g := (mkF m 0 #[.val (.int p1)] [])) rfl (hb hby d5_0)
  refine own_step st1 ?_
  show own_G p.tables e below _ (T1.setTop (mkF m 3 #[.val (.int p1)] [(.int s_COMPACT_STRINGS)]))
  have hk2 : ¬ (s_COMPACT_STRINGS = (0 : Int32)) := hcs
  refine own_step (fun t k => XS.ifNo X1.here hx rfl (hb hby d5_3) rfl ((if0 _ _).trans (feq hk2).1) k) ?_
  show own_G p.tables e below _ (T1.setTop (mkF m 6 #[.val (.int p1)] []))
  refine own_step (fun t k => XS.iloadN X1.here hx rfl (hb hby d5_6) rfl k) ?_
  show own_G p.tables e below _ (T1.setTop (mkF m 7 #[.val (.int p1)] [(.int p1)]))
  obtain ⟨_, _, ⟨T3, L3, k3, n3⟩, -, X3, ⟨Lc3, hQ3, l3, y3, z3⟩, st3⟩ := Jvm.LawKit.callS X1 hx (y := (⟨"java/lang/StringLatin1", "canEncode", "(C)Z"⟩ : MethodName)) hown (mvT hZ (hw _ (List.mem_of_getElem? (i := 31) rfl))) (mvT hZ (hw _ (List.mem_of_getElem? (i := 32) rfl))) (mvT hZ (hw _ (List.mem_of_getElem? (i := 33) rfl))) (mvT hZ (hw _ (List.mem_of_getElem? (i := 34) rfl))) (by decide) (backOf (W := 0) (rm6 l Z a0 hw [] p1 h0 n0 (Nat.le_trans Z0 (Keep.refl h0 []).1) ) hZ (hw _ (List.mem_of_getElem? (i := 34) rfl)) (hw _ (List.mem_of_getElem? (i := 33) rfl)) (by decide) (by decide)) (g := (mkF m 7 #[.val (.int p1)] [(.int p1)])) rfl (by rw [hml]; rfl) (argsL := [(.int p1)]) (rest := []) (lenOf pd_5_0 rfl) rfl (by show 2 * 0 + _ ≤ _; exact Nat.le_of_eq rfl) (hb hby d5_7) (fun _ _ => ⟨rfl, e1, (by decide : 0 + 0 ≤ _), (by decide : 0 + 0 ≤ _)⟩)
  dsimp only [Pt.U, Pt.locs, Pt.cells, Pt.slots] at X3 l3 y3 z3 st3 hQ3
  subst y3 z3
  obtain ⟨rfl, N3q, e3⟩ := hQ3
  have N3 : Fr n0 L3 := by rw [l3]; exact Fr.app N0 N3q
  refine own_step st3 ?_
  show own_G p.tables e below _ (T3.setTop (mkF m 10 #[.val (.int p1)] [(.int (own_f6 p1))]))
  have hk4 : ¬ ((own_f6 p1) = (0 : Int32)) := (by unfold own_f6; rw [if_neg hp]; decide)
  refine own_step (fun t k => XS.ifNo X3.here hx rfl (hb hby d5_10) rfl ((if0 _ _).trans (feq hk4).1) k) ?_
  show own_G p.tables e below _ (T3.setTop (mkF m 13 #[.val (.int p1)] []))
  obtain ⟨T5, h5, X5, e5, E5, A5, D5, -, st5⟩ := newO X3 hx hZ hown (hw _ (List.mem_of_getElem? (i := 35) rfl)) (hw _ (List.mem_of_getElem? (i := 36) rfl)) (hw _ (List.mem_of_getElem? (i := 28) rfl)) e3 (g := (mkF m 13 #[.val (.int p1)] [])) rfl (hb hby d5_13) (by decide) (by decide)
  obtain ⟨b5, g5⟩ : ∃ z, z = h0.size := ⟨_, rfl⟩
  have sz5 : h0.size ≤ b5 := Nat.le_trans (Keep.refl h0 []).1 (Nat.le_of_eq g5.symm)
  have ge5 : n0 ≤ b5 := Nat.le_trans Z0 sz5
  have c6 : Sta Z h5 "java/lang/String" "COMPACT_STRINGS" "Z" (.int s_COMPACT_STRINGS) := fp0.ext E5
  have K5 : Keep h0 h5 [] := (Keep.refl h0 []).ext E5
  rw [← g5] at A5 D5 st5
  have c7 : Fld Z h5 b5 "java/lang/String" "value" "[B" .null := D5 (Or.inr (hw _ (List.mem_of_getElem? (i := 47) rfl))) (ty := (.array .byte)) (by decide)
  have c8 : Fld Z h5 b5 "java/lang/String" "coder" "B" (.int (0 : Int32)) := D5 (Or.inr (hw _ (List.mem_of_getElem? (i := 49) rfl))) (ty := .byte) (by decide)
  refine own_step st5 ?_
  clear D5 E5 N3q X1 X3 e1 e3 g5 hk2 hk4 st1 st3 st5
  show own_G p.tables e below _ (T5.setTop (mkF m 16 #[.val (.int p1)] [(.ref b5)]))
  refine own_step (fun t k => XS.dup X5.here hx rfl (hb hby d5_16) rfl rfl k) ?_
  show own_G p.tables e below _ (T5.setTop (mkF m 17 #[.val (.int p1)] [(.ref b5), (.ref b5)]))
  refine own_step (fun t k => XS.iloadN X5.here hx rfl (hb hby d5_17) rfl k) ?_
  show own_G p.tables e below _ (T5.setTop (mkF m 18 #[.val (.int p1)] [(.int p1), (.ref b5), (.ref b5)]))
  obtain ⟨_, _, ⟨T9, L9, k9, n9⟩, -, X9, ⟨Lc9, hQ9, l9, y9, z9⟩, st9⟩ := Jvm.LawKit.callS X5 hx (y := (⟨"java/lang/StringLatin1", "toBytes", "(C)[B"⟩ : MethodName)) hown (mvT hZ (hw _ (List.mem_of_getElem? (i := 37) rfl))) (mvT hZ (hw _ (List.mem_of_getElem? (i := 38) rfl))) (mvT hZ (hw _ (List.mem_of_getElem? (i := 33) rfl))) (mvT hZ (hw _ (List.mem_of_getElem? (i := 39) rfl))) (by decide) (backOf (W := 2) (rm7 l Z a0 hw [] p1 h5 n0 (Nat.le_trans Z0 K5.1) ) hZ (hw _ (List.mem_of_getElem? (i := 39) rfl)) (hw _ (List.mem_of_getElem? (i := 33) rfl)) (by decide) (by decide)) (g := (mkF m 18 #[.val (.int p1)] [(.int p1), (.ref b5), (.ref b5)])) rfl (by rw [hml]; rfl) (argsL := [(.int p1)]) (rest := [(.ref b5), (.ref b5)]) (lenOf pd_5_1 rfl) rfl (by show 2 * 0 + _ ≤ _; exact Nat.le_of_eq rfl) (hb hby d5_18) (fun _ _ => ⟨rfl, e5, (by decide : 1 + 1 ≤ _), (by decide : 4 + 1 ≤ _)⟩)
  dsimp only [Pt.U, Pt.locs, Pt.cells, Pt.slots] at X9 l9 y9 z9 st9 hQ9
  subst y9 z9
  obtain ⟨bx9_rb, rfl, N9q, K9q, w9_0, sx9_0⟩ := hQ9
  have c10 : Sta Z T9.heap "java/lang/String" "COMPACT_STRINGS" "Z" (.int s_COMPACT_STRINGS) := own_staKeep c6 K9q all0
  have c11 : Exa Z T9.heap b5 "java/lang/String" := A5.keep K9q
  have c12 : Fld Z T9.heap b5 "java/lang/String" "value" "[B" .null := c7.keep K9q nin0
  have c13 : Fld Z T9.heap b5 "java/lang/String" "coder" "B" (.int (0 : Int32)) := c8.keep K9q nin0
  have sz9_0 : h0.size ≤ bx9_rb := Nat.le_trans K5.1 sx9_0
  have ge9_0 : n0 ≤ bx9_rb := Nat.le_trans Z0 sz9_0
  have ne14 : b5 ≠ bx9_rb := Nat.ne_of_lt (Nat.lt_of_lt_of_le A5.lt sx9_0)
  have K9 : Keep h0 T9.heap [] := K5.trans K9q all0
  have N9 : Fr n0 L9 := by rw [l9]; exact Fr.app N3 N9q
  refine own_step st9 ?_
  clear A5 K5 K9q N3 N9q X5 c6 c7 c8 e5 st9 sx9_0
  show own_G p.tables e below _ (T9.setTop (mkF m 21 #[.val (.int p1)] [(.ref bx9_rb), (.ref b5), (.ref b5)]))
  refine own_step (fun t k => XS.iconst X9.here hx rfl (hb hby d5_21) k) ?_
  show own_G p.tables e below _ (T9.setTop (mkF m 22 #[.val (.int p1)] [(.int (0 : Int32)), (.ref bx9_rb), (.ref b5), (.ref b5)]))
  obtain ⟨_, _, ⟨T15, L15, k15, n15⟩, -, X15, ⟨Lc15, hQ15, l15, y15, z15⟩, st15⟩ := X9.specialBack hx (y := (⟨"java/lang/String", "<init>", "([BB)V"⟩ : MethodName)) rfl hown (mvT hZ (hw _ (List.mem_of_getElem? (i := 41) rfl))) (mvT hZ (hw _ (List.mem_of_getElem? (i := 42) rfl))) (mvT hZ (hw _ (List.mem_of_getElem? (i := 44) rfl))) (by decide) (backOf (W := 1) (rm8 l Z a0 hw [] b5 bx9_rb (0 : Int32) .null (.int (0 : Int32)) T9.heap n0 (Nat.le_trans Z0 K9.1) c11 c12 c13 ge5) hZ (hw _ (List.mem_of_getElem? (i := 44) rfl)) (hw _ (List.mem_of_getElem? (i := 28) rfl)) (by decide) (by decide)) (g := (mkF m 22 #[.val (.int p1)] [(.int (0 : Int32)), (.ref bx9_rb), (.ref b5), (.ref b5)])) rfl (by rw [hml]; rfl) (Steps.refl _) (a := b5) (argsL := [(.ref bx9_rb), (.int (0 : Int32))]) (rest := [(.ref b5)]) (lenOf pd_5_2 rfl) rfl (by show 2 * 0 + _ ≤ _; exact Nat.le_of_eq rfl) (hb hby d5_22) (fun _ _ => ⟨rfl, rfl, (by decide : 2 + 0 ≤ _), (by decide : 5 + 0 ≤ _)⟩)
  dsimp only [Pt.U, Pt.locs, Pt.cells, Pt.slots] at X15 l15 y15 z15 st15 hQ15
  subst y15 z15
  obtain ⟨rfl, N15q, K15q, w15_0, w15_1⟩ := hQ15
  have c16 : Sta Z T15.heap "java/lang/String" "COMPACT_STRINGS" "Z" (.int s_COMPACT_STRINGS) := own_staKeep c10 K15q (allS (own_nsE c11) all0)
  have c17 : Exa Z T15.heap b5 "java/lang/String" := c11.keep K15q
  have c20 : own_Ari Z T15.heap bx9_rb .byte [(nar .byte (p1.toInt8.toInt32))] := w9_0.keep K15q (ninS (Ne.symm ne14) nin0)
  have K15 : Keep h0 T15.heap [] := K9.trans K15q (allS (Or.inr sz5) all0)
  have N15 : Fr n0 L15 := by rw [l15]; exact Fr.app N9 N15q
  refine own_step (fun t k => st15.trans k) ?_
  clear K15q K9 N15q N9 X9 c10 c11 c12 c13 st15 w9_0
  show own_G p.tables e below _ (T15.setTop (mkF m 25 #[.val (.int p1)] [(.ref b5)]))
  obtain ⟨fs, hr, hrun, hended, hW, hsame⟩ := X15.leave (v := some (.ref b5)) (fun h => by rw [Bd.returns] at h; cases h)
  refine own_done (own_retA X15 hx Bd.returns (by decide) rfl (hb hby d5_25) hr) hrun hended ⟨_, _, rfl, ?_, ⟨_, rfl⟩, hW, hsame.mono (by decide) (by decide)⟩
  show Q5 Z p1 s_COMPACT_STRINGS h0 n0 _ T15.heap _
  exact ⟨b5, bx9_rb, rfl, N15, K15, c17, w15_0, w15_1, c20, sz5, sz9_0, ne14⟩
theorem d13_0 : decode jdk_29_method_65_code 0 = .ok (.iload_n 0, 1) := by decide +kernel
theorem d13_1 : decode jdk_29_method_65_code 1 = .ok (.iload_n 1, 1) := by decide +kernel
theorem d13_2 : decode jdk_29_method_65_code 2 = .ok (.if_icmp .lt 7, 3) := by decide +kernel
theorem d13_5 : decode jdk_29_method_65_code 5 = .ok (.iload_n 0, 1) := by decide +kernel
theorem d13_6 : decode jdk_29_method_65_code 6 = .ok (.goto 4, 3) := by decide +kernel
theorem d13_9 : decode jdk_29_method_65_code 9 = .ok (.iload_n 1, 1) := by decide +kernel
theorem d13_10 : decode jdk_29_method_65_code 10 = .ok (.ireturn, 1) := by decide +kernel
theorem ef_13 (m : MethodId) (p1 : Int32) (p2 : Int32) : entryFrame m #[(.int p1), (.int p2)] 2 = mkF m 0 #[.val (.int p1), .val (.int p2)] [] := by first | (simp [entryFrame, mkF, argsToLocals, Value.category]; done) | rfl
def own_f13 (p1 : Int32) (p2 : Int32) : Int32 :=
  (if p1 < p2 then p2 else p1)
def Q13 (Z : State) (p1 : Int32) (p2 : Int32) (h0 : Heap) (n0 : Nat) (v : Option Value) (h : Heap) (L : List Loc) : Prop := v = some (.int (own_f13 p1 p2)) ∧ Fr n0 L ∧ h = h0
set_option maxRecDepth 65536 in
set_option maxHeartbeats 40000000 in
theorem rm13 (l : Launch) (Z : State) (a0 : Array Value) (hw : ∀ d ∈ tables_1, d.before a0 Z = true) (ws : List Jvm.Cond) (p1 : Int32) (p2 : Int32) (h0 : Heap) (n0 : Nat) (Z0 : n0 ≤ h0.size) :
    MetFree l (⟨"java/lang/Math", "max", "(II)I"⟩ : MethodName) (head1 (Jvm.Cond.code (⟨"java/lang/Math", "max", "(II)I"⟩ : MethodName) jdk_29_method_65_code 2 (some .int) :: ws) ({ frames := 0, cells := 0, slots := 0, locals := 0 } : Room)) (fun a U => a = #[(.int p1), (.int p2)] ∧ Z.Warmed39 U.vm ∧ U.heap = h0) (fun _ _ _ _ _ => True) (fun _ U o U' => ∃ v L, o = .returned v ∧ Q13 Z p1 p2 h0 n0 v U'.heap L ∧ FrameEnd U o U' L ({ frames := 0, cells := 0, slots := 0, locals := 0 } : Room).cells ({ frames := 0, cells := 0, slots := 0, locals := 0 } : Room).slots) := by
  refine MetFree.of_bodySF (Jvm.Free.JP.mathPlain rfl (by decide +kernel)) hisR ?_
  intro p e s m args below meth c s₁ Bd hml0 hP hK
  obtain ⟨rfl, hZ, hh⟩ := hP
  have hx := Bd.exec
  have hby := Bd.bytes
  have hml : c.maxLocals = 2 := hml0
  have hown : s.vm.findClass "java/lang/Math" = some m.cls := findClass_of_methodNamed Bd.named
  have hnm := (name_of_methodNamed Bd.named Bd.method).1
  have X0 : Stand p l e ({ frames := 0, cells := 0, slots := 0, locals := 0 } : Room) s m #[(.int p1), (.int p2)] below meth c s₁ [] 0 0 := Stand.of_body Bd
  have e0 : s₁.heap = h0 := by rw [← hh, Bd.state]; rfl
  have N0 := Fr.nil n0
  refine own_start (fun t k => castTop (ef_13 m p1 p2) k) ?_
  show own_G p.tables e below _ (s₁.setTop (mkF m 0 #[.val (.int p1), .val (.int p2)] []))
  refine own_step (fun t k => XS.iloadN X0.here hx rfl (hb hby d13_0) rfl k) ?_
  show own_G p.tables e below _ (s₁.setTop (mkF m 1 #[.val (.int p1), .val (.int p2)] [(.int p1)]))
  refine own_step (fun t k => XS.iloadN X0.here hx rfl (hb hby d13_1) rfl k) ?_
  show own_G p.tables e below _ (s₁.setTop (mkF m 2 #[.val (.int p1), .val (.int p2)] [(.int p2), (.int p1)]))
  by_cases hc1 : p1 < p2
  · skip
    refine own_step (fun t k => XS.icmpYes X0.here hx rfl (pc0 := 2) (pc' := 9) rfl (hb hby d13_2) rfl ((tlt hc1).1) (by decide) (by decide) k) ?_
    show own_G p.tables e below _ (s₁.setTop (mkF m 9 #[.val (.int p1), .val (.int p2)] []))
    refine own_step (fun t k => XS.iloadN X0.here hx rfl (hb hby d13_9) rfl k) ?_
    show own_G p.tables e below _ (s₁.setTop (mkF m 10 #[.val (.int p1), .val (.int p2)] [(.int p2)]))
    obtain ⟨fs, hr, hrun, hended, hW, hsame⟩ := X0.leave (v := some (.int p2)) (fun h => by rw [Bd.returns] at h; cases h)
    refine own_done (retI X0 hx Bd.returns (hb hby d13_10) hr) hrun hended ⟨_, _, rfl, ?_, ⟨_, rfl⟩, hW, hsame.mono (by decide) (by decide)⟩
    show Q13 Z p1 p2 h0 n0 _ s₁.heap _
    rw [e0]
    exact ⟨congrArg (fun z => some (Value.int z)) (show p2 = (own_f13 p1 p2) from by unfold own_f13; simp only [if_pos hc1]), N0, rfl⟩
  · skip
    refine own_step (fun t k => XS.icmpNo X0.here hx rfl (hb hby d13_2) rfl ((flt hc1).1) k) ?_
    show own_G p.tables e below _ (s₁.setTop (mkF m 5 #[.val (.int p1), .val (.int p2)] []))
    refine own_step (fun t k => XS.iloadN X0.here hx rfl (hb hby d13_5) rfl k) ?_
    show own_G p.tables e below _ (s₁.setTop (mkF m 6 #[.val (.int p1), .val (.int p2)] [(.int p1)]))
    refine own_step (fun t k => XS.goto X0.here hx rfl (pc0 := 6) (pc' := 10) rfl (hb hby d13_6) (by decide) (by decide) k) ?_
    show own_G p.tables e below _ (s₁.setTop (mkF m 10 #[.val (.int p1), .val (.int p2)] [(.int p1)]))
    obtain ⟨fs, hr, hrun, hended, hW, hsame⟩ := X0.leave (v := some (.int p1)) (fun h => by rw [Bd.returns] at h; cases h)
    refine own_done (retI X0 hx Bd.returns (hb hby d13_10) hr) hrun hended ⟨_, _, rfl, ?_, ⟨_, rfl⟩, hW, hsame.mono (by decide) (by decide)⟩
    show Q13 Z p1 p2 h0 n0 _ s₁.heap _
    rw [e0]
    exact ⟨congrArg (fun z => some (Value.int z)) (show p1 = (own_f13 p1 p2) from by unfold own_f13; simp only [if_neg hc1]), N0, rfl⟩
theorem d12_0 : decode jdk_38_method_6_code 0 = .ok (.aload_n 0, 1) := by decide +kernel
theorem d12_1 : decode jdk_38_method_6_code 1 = .ok (.getfield 9, 3) := by decide +kernel
theorem d12_4 : decode jdk_38_method_6_code 4 = .ok (.arraylength, 1) := by decide +kernel
theorem d12_5 : decode jdk_38_method_6_code 5 = .ok (.istore_n 2, 1) := by decide +kernel
theorem d12_6 : decode jdk_38_method_6_code 6 = .ok (.iload_n 2, 1) := by decide +kernel
theorem d12_7 : decode jdk_38_method_6_code 7 = .ok (.ifCond .gt 13, 3) := by decide +kernel
theorem d12_10 : decode jdk_38_method_6_code 10 = .ok (.aload_n 0, 1) := by decide +kernel
theorem d12_11 : decode jdk_38_method_6_code 11 = .ok (.getfield 9, 3) := by decide +kernel
theorem d12_14 : decode jdk_38_method_6_code 14 = .ok (.getstatic 39, 3) := by decide +kernel
theorem d12_17 : decode jdk_38_method_6_code 17 = .ok (.if_acmp .eq 28, 3) := by decide +kernel
theorem d12_45 : decode jdk_38_method_6_code 45 = .ok (.aload_n 0, 1) := by decide +kernel
theorem d12_46 : decode jdk_38_method_6_code 46 = .ok (.bipush 10, 2) := by decide +kernel
theorem d12_48 : decode jdk_38_method_6_code 48 = .ok (.iload_n 1, 1) := by decide +kernel
theorem d12_49 : decode jdk_38_method_6_code 49 = .ok (.invokestatic 79, 3) := by decide +kernel
theorem d12_52 : decode jdk_38_method_6_code 52 = .ok (.anewarray 7, 3) := by decide +kernel
theorem d12_55 : decode jdk_38_method_6_code 55 = .ok (.dup_x1, 1) := by decide +kernel
theorem d12_56 : decode jdk_38_method_6_code 56 = .ok (.putfield 9, 3) := by decide +kernel
theorem d12_59 : decode jdk_38_method_6_code 59 = .ok (.areturn, 1) := by decide +kernel
theorem pn_12_z : plainName "java/util/ArrayList" = true := by first | (simp [plainName, overriddenIn]; done) | decide +kernel
theorem pd_12_z_0 : parseMethodDescriptor "(II)I" = some ⟨[.int, .int], some .int⟩ := by decide +kernel
theorem ef_12_z (m : MethodId) (a1 : Addr) : entryFrame m #[(.ref a1), (.int (1 : Int32))] 4 = mkF m 0 #[.val (.ref a1), .val (.int (1 : Int32)), .unset, .unset] [] := by first | (simp [entryFrame, mkF, argsToLocals, Value.category]; done) | rfl
def Q12_z (Z : State) (a1 : Addr) (dd : Addr) (u_mod : Int32) (h0 : Heap) (n0 : Nat) (v : Option Value) (h : Heap) (L : List Loc) : Prop := ∃ (rb : Addr), v = some (.ref rb) ∧ Fr n0 L ∧ Keep h0 h [a1] ∧ Fld Z h a1 "java/util/AbstractList" "modCount" "I" (.int u_mod) ∧ Fld Z h a1 "java/util/ArrayList" "elementData" "[Ljava/lang/Object;" (.ref rb) ∧ Fld Z h a1 "java/util/ArrayList" "size" "I" (.int (0 : Int32)) ∧ own_Aro Z h rb 10 ∧ h0.size ≤ rb
set_option maxRecDepth 65536 in
set_option maxHeartbeats 40000000 in
theorem rm12_z (l : Launch) (Z : State) (a0 : Array Value) (hw : ∀ d ∈ tables_1, d.before a0 Z = true) (ws : List Jvm.Cond) (a1 : Addr) (dd : Addr) (u_mod : Int32) (h0 : Heap) (n0 : Nat) (Z0 : n0 ≤ h0.size) (fp0 : Exa Z h0 a1 "java/util/ArrayList") (fp1 : Fld Z h0 a1 "java/util/AbstractList" "modCount" "I" (.int u_mod)) (fp2 : Fld Z h0 a1 "java/util/ArrayList" "elementData" "[Ljava/lang/Object;" (.ref dd)) (fp3 : Fld Z h0 a1 "java/util/ArrayList" "size" "I" (.int (0 : Int32))) (fp4 : Sta Z h0 "java/util/ArrayList" "DEFAULTCAPACITY_EMPTY_ELEMENTDATA" "[Ljava/lang/Object;" (.ref dd)) (fp5 : own_Arl Z h0 dd 0) (g_a1 : n0 ≤ a1) (ne_dd_a1 : dd ≠ a1) :
    MetFree l (⟨"java/util/ArrayList", "grow", "(I)[Ljava/lang/Object;"⟩ : MethodName) (head1 (Jvm.Cond.code (⟨"java/util/ArrayList", "grow", "(I)[Ljava/lang/Object;"⟩ : MethodName) jdk_38_method_6_code 4 (some (.array (.object "java/lang/Object"))) :: ws) ({ frames := 1, cells := 1, slots := 10, locals := 14 } : Room)) (fun a U => a = #[(.ref a1), (.int (1 : Int32))] ∧ Z.Warmed39 U.vm ∧ U.heap = h0) (fun _ _ _ _ _ => True) (fun _ U o U' => ∃ v L, o = .returned v ∧ Q12_z Z a1 dd u_mod h0 n0 v U'.heap L ∧ FrameEnd U o U' L ({ frames := 1, cells := 1, slots := 10, locals := 14 } : Room).cells ({ frames := 1, cells := 1, slots := 10, locals := 14 } : Room).slots) := by
  refine MetFree.of_bodySF (plainFor_of_name pn_12_z) hisR ?_
  intro p e s m args below meth c s₁ Bd hml0 hP hK
  obtain ⟨rfl, hZ, hh⟩ := hP
  have hx := Bd.exec
  have hby := Bd.bytes
  have hml : c.maxLocals = 4 := hml0
  have hown : s.vm.findClass "java/util/ArrayList" = some m.cls := findClass_of_methodNamed Bd.named
  have hnm := (name_of_methodNamed Bd.named Bd.method).1
  have X0 : Stand p l e ({ frames := 1, cells := 1, slots := 10, locals := 14 } : Room) s m #[(.ref a1), (.int (1 : Int32))] below meth c s₁ [] 0 0 := Stand.of_body Bd
  have e0 : s₁.heap = h0 := by rw [← hh, Bd.state]; rfl
  have N0 := Fr.nil n0
  refine own_start (fun t k => castTop (ef_12_z m a1) k) ?_
  show own_G p.tables e below _ (s₁.setTop (mkF m 0 #[.val (.ref a1), .val (.int (1 : Int32)), .unset, .unset] []))
  refine own_step (fun t k => XS.aloadN X0.here hx rfl (hb hby d12_0) rfl rfl k) ?_
  show own_G p.tables e below _ (s₁.setTop (mkF m 1 #[.val (.ref a1), .val (.int (1 : Int32)), .unset, .unset] [(.ref a1)]))
  obtain ⟨T1, X1, e1, st1⟩ := getF X0 hx hZ hown (host := "") (Or.inl (hw _ (List.mem_of_getElem? (i := 24) rfl))) Via.refl e0 fp2 (g := (mkF m 1 #[.val (.ref a1), .val (.int (1 : Int32)), .unset, .unset] [(.ref a1)])) rfl rfl (hb hby d12_1)
  refine own_step st1 ?_
  show own_G p.tables e below _ (T1.setTop (mkF m 4 #[.val (.ref a1), .val (.int (1 : Int32)), .unset, .unset] [(.ref dd)]))
  refine own_step (own_lenL X1 hx hZ e1 fp5 (g := (mkF m 4 #[.val (.ref a1), .val (.int (1 : Int32)), .unset, .unset] [(.ref dd)])) rfl rfl (hb hby d12_4)) ?_
  show own_G p.tables e below _ (T1.setTop (mkF m 5 #[.val (.ref a1), .val (.int (1 : Int32)), .unset, .unset] [(.int (0 : Int32))]))
  refine own_step (fun t k => XS.istoreN X1.here hx rfl (hb hby d12_5) rfl (l' := #[.val (.ref a1), .val (.int (1 : Int32)), .val (.int (0 : Int32)), .unset]) rfl k) ?_
  show own_G p.tables e below _ (T1.setTop (mkF m 6 #[.val (.ref a1), .val (.int (1 : Int32)), .val (.int (0 : Int32)), .unset] []))
  refine own_step (fun t k => XS.iloadN X1.here hx rfl (hb hby d12_6) rfl k) ?_
  show own_G p.tables e below _ (T1.setTop (mkF m 7 #[.val (.ref a1), .val (.int (1 : Int32)), .val (.int (0 : Int32)), .unset] [(.int (0 : Int32))]))
  have hk2 : ¬ ((0 : Int32) < (0 : Int32)) := (by decide)
  refine own_step (fun t k => XS.ifNo X1.here hx rfl (hb hby d12_7) rfl ((if0 _ _).trans (flt hk2).2.2.1) k) ?_
  show own_G p.tables e below _ (T1.setTop (mkF m 10 #[.val (.ref a1), .val (.int (1 : Int32)), .val (.int (0 : Int32)), .unset] []))
  refine own_step (fun t k => XS.aloadN X1.here hx rfl (hb hby d12_10) rfl rfl k) ?_
  show own_G p.tables e below _ (T1.setTop (mkF m 11 #[.val (.ref a1), .val (.int (1 : Int32)), .val (.int (0 : Int32)), .unset] [(.ref a1)]))
  obtain ⟨T3, X3, e3, st3⟩ := getF X1 hx hZ hown (host := "") (Or.inl (hw _ (List.mem_of_getElem? (i := 24) rfl))) Via.refl e1 fp2 (g := (mkF m 11 #[.val (.ref a1), .val (.int (1 : Int32)), .val (.int (0 : Int32)), .unset] [(.ref a1)])) rfl rfl (hb hby d12_11)
  refine own_step st3 ?_
  show own_G p.tables e below _ (T3.setTop (mkF m 14 #[.val (.ref a1), .val (.int (1 : Int32)), .val (.int (0 : Int32)), .unset] [(.ref dd)]))
  obtain ⟨T4, X4, e4, st4⟩ := getS2 X3 hx hZ hown (host := "") (Or.inl (hw _ (List.mem_of_getElem? (i := 23) rfl))) Via.refl e3 fp4 (g := (mkF m 14 #[.val (.ref a1), .val (.int (1 : Int32)), .val (.int (0 : Int32)), .unset] [(.ref dd)])) rfl (hb hby d12_14)
  refine own_step st4 ?_
  show own_G p.tables e below _ (T4.setTop (mkF m 17 #[.val (.ref a1), .val (.int (1 : Int32)), .val (.int (0 : Int32)), .unset] [(.ref dd), (.ref dd)]))
  refine own_step (fun t k => Jvm.RoadKit.acmp (g := (mkF m 17 #[.val (.ref a1), .val (.int (1 : Int32)), .val (.int (0 : Int32)), .unset] [(.ref dd), (.ref dd)])) X4 hx rfl rfl rfl (pc0 := 17) (pc' := 45) (same := true) rfl (hb hby d12_17) rfl (decide_eq_true rfl) (by decide) (by decide) k) ?_
  show own_G p.tables e below _ (T4.setTop (mkF m 45 #[.val (.ref a1), .val (.int (1 : Int32)), .val (.int (0 : Int32)), .unset] []))
  refine own_step (fun t k => XS.aloadN X4.here hx rfl (hb hby d12_45) rfl rfl k) ?_
  show own_G p.tables e below _ (T4.setTop (mkF m 46 #[.val (.ref a1), .val (.int (1 : Int32)), .val (.int (0 : Int32)), .unset] [(.ref a1)]))
  refine own_step (fun t k => XS.bipush X4.here hx rfl (hb hby d12_46) k) ?_
  show own_G p.tables e below _ (T4.setTop (mkF m 48 #[.val (.ref a1), .val (.int (1 : Int32)), .val (.int (0 : Int32)), .unset] [(.int (10 : Int32)), (.ref a1)]))
  refine own_step (fun t k => XS.iloadN X4.here hx rfl (hb hby d12_48) rfl k) ?_
  show own_G p.tables e below _ (T4.setTop (mkF m 49 #[.val (.ref a1), .val (.int (1 : Int32)), .val (.int (0 : Int32)), .unset] [(.int (1 : Int32)), (.int (10 : Int32)), (.ref a1)]))
  obtain ⟨_, _, ⟨T5, L5, k5, n5⟩, -, X5, ⟨Lc5, hQ5, l5, y5, z5⟩, st5⟩ := Jvm.LawKit.callS X4 hx (y := (⟨"java/lang/Math", "max", "(II)I"⟩ : MethodName)) hown (mvT hZ (hw _ (List.mem_of_getElem? (i := 74) rfl))) (mvT hZ (hw _ (List.mem_of_getElem? (i := 75) rfl))) (mvT hZ (hw _ (List.mem_of_getElem? (i := 76) rfl))) (mvT hZ (hw _ (List.mem_of_getElem? (i := 77) rfl))) (by decide) (backOf (W := 1) (rm13 l Z a0 hw [] (10 : Int32) (1 : Int32) h0 n0 (Nat.le_trans Z0 (Keep.refl h0 [a1]).1) ) hZ (hw _ (List.mem_of_getElem? (i := 77) rfl)) (hw _ (List.mem_of_getElem? (i := 76) rfl)) (by decide) (by decide)) (g := (mkF m 49 #[.val (.ref a1), .val (.int (1 : Int32)), .val (.int (0 : Int32)), .unset] [(.int (1 : Int32)), (.int (10 : Int32)), (.ref a1)])) rfl (by rw [hml]; rfl) (argsL := [(.int (10 : Int32)), (.int (1 : Int32))]) (rest := [(.ref a1)]) (lenOf pd_12_z_0 rfl) rfl (by show 2 * 0 + _ ≤ _; exact Nat.le_of_eq rfl) (hb hby d12_49) (fun _ _ => ⟨rfl, e4, (by decide : 0 + 0 ≤ _), (by decide : 0 + 0 ≤ _)⟩)
  dsimp only [Pt.U, Pt.locs, Pt.cells, Pt.slots] at X5 l5 y5 z5 st5 hQ5
  subst y5 z5
  obtain ⟨rfl, N5q, e5⟩ := hQ5
  have N5 : Fr n0 L5 := by rw [l5]; exact Fr.app N0 N5q
  refine own_step st5 ?_
  clear N5q X1 X3 X4 e1 e3 e4 hk2 st1 st3 st4 st5
  show own_G p.tables e below _ (T5.setTop (mkF m 52 #[.val (.ref a1), .val (.int (1 : Int32)), .val (.int (0 : Int32)), .unset] [(.int (own_f13 (10 : Int32) (1 : Int32))), (.ref a1)]))
  rw [show (own_f13 (10 : Int32) (1 : Int32)) = (10 : Int32) from by decide]
  show own_G p.tables e below _ (T5.setTop (mkF m 52 #[.val (.ref a1), .val (.int (1 : Int32)), .val (.int (0 : Int32)), .unset] [(.int (10 : Int32)), (.ref a1)]))
  obtain ⟨T6, h6, k6, X6, e6, E6, A6, B6, st6⟩ := newR X5 hx hZ hown (hw _ (List.mem_of_getElem? (i := 78) rfl)) (hw _ (List.mem_of_getElem? (i := 79) rfl)) e5 (g := (mkF m 52 #[.val (.ref a1), .val (.int (1 : Int32)), .val (.int (0 : Int32)), .unset] [(.int (10 : Int32)), (.ref a1)])) rfl (hb hby d12_52) rfl (by decide) (cap := 10) (by decide) (by decide) (by decide) (by decide)
  obtain ⟨b6, g6⟩ : ∃ z, z = h0.size := ⟨_, rfl⟩
  have ne7 : a1 ≠ b6 := Nat.ne_of_lt (Nat.lt_of_lt_of_le fp0.lt (Nat.le_of_eq g6.symm))
  have ne8 : dd ≠ b6 := Nat.ne_of_lt (Nat.lt_of_lt_of_le fp5.lt (Nat.le_of_eq g6.symm))
  have sz6 : h0.size ≤ b6 := Nat.le_trans (Keep.refl h0 [a1]).1 (Nat.le_of_eq g6.symm)
  have ge6 : n0 ≤ b6 := Nat.le_trans Z0 sz6
  have c9 : Exa Z h6 a1 "java/util/ArrayList" := fp0.ext E6
  have c10 : Fld Z h6 a1 "java/util/AbstractList" "modCount" "I" (.int u_mod) := fp1.ext E6
  have c11 : Fld Z h6 a1 "java/util/ArrayList" "elementData" "[Ljava/lang/Object;" (.ref dd) := fp2.ext E6
  have c12 : Fld Z h6 a1 "java/util/ArrayList" "size" "I" (.int (0 : Int32)) := fp3.ext E6
  have c13 : Sta Z h6 "java/util/ArrayList" "DEFAULTCAPACITY_EMPTY_ELEMENTDATA" "[Ljava/lang/Object;" (.ref dd) := fp4.ext E6
  have c14 : own_Arl Z h6 dd 0 := fp5.ext E6
  have K6 : Keep h0 h6 [a1] := (Keep.refl h0 [a1]).ext E6
  rw [← g6] at A6 st6
  have c15 : own_Aro Z h6 b6 10 := own_Aro_new A6 B6 (by decide) rfl
  refine own_step st6 ?_
  show own_G p.tables e below _ (T6.setTop (mkF m 55 #[.val (.ref a1), .val (.int (1 : Int32)), .val (.int (0 : Int32)), .unset] [(.ref b6), (.ref a1)]))
  refine own_step (fun t k => XS.dupX1 X6.here hx rfl (hb hby d12_55) rfl rfl rfl k) ?_
  show own_G p.tables e below _ (T6.setTop (mkF m 56 #[.val (.ref a1), .val (.int (1 : Int32)), .val (.int (0 : Int32)), .unset] [(.ref b6), (.ref a1), (.ref b6)]))
  obtain ⟨T16, h16, X16, e16, W16, st16⟩ := putF X6 hx hZ hown (host := "") (Or.inl (hw _ (List.mem_of_getElem? (i := 24) rfl))) Via.refl e6 c11 c9 (Or.inl (hw _ (List.mem_of_getElem? (i := 25) rfl))) (hw _ (List.mem_of_getElem? (i := 1) rfl)) (ty := (.array (.object "java/lang/Object"))) (by decide) rfl rfl (g := (mkF m 56 #[.val (.ref a1), .val (.int (1 : Int32)), .val (.int (0 : Int32)), .unset] [(.ref b6), (.ref a1), (.ref b6)])) rfl rfl (hb hby d12_56)
  have N16 := Fr.snoc X16 N5 g_a1
  have c17 : Fld Z h16 a1 "java/util/ArrayList" "elementData" "[Ljava/lang/Object;" (.ref b6) := c11.same W16
  have c18 : Exa Z h16 a1 "java/util/ArrayList" := c9.wr W16
  have c19 : Fld Z h16 a1 "java/util/AbstractList" "modCount" "I" (.int u_mod) := c10.other W16 (Or.inr (slot_ne (Or.inl (hw _ (List.mem_of_getElem? (i := 22) rfl))) (Or.inl (hw _ (List.mem_of_getElem? (i := 25) rfl))) (by decide) (t := .int) (t' := (.array (.object "java/lang/Object"))) (by decide) (by decide)))
  have c21 : Fld Z h16 a1 "java/util/ArrayList" "size" "I" (.int (0 : Int32)) := c12.other W16 (Or.inr (slot_ne (Or.inl (hw _ (List.mem_of_getElem? (i := 58) rfl))) (Or.inl (hw _ (List.mem_of_getElem? (i := 25) rfl))) (by decide) (t := .int) (t' := (.array (.object "java/lang/Object"))) (by decide) (by decide)))
  have c22 : Sta Z h16 "java/util/ArrayList" "DEFAULTCAPACITY_EMPTY_ELEMENTDATA" "[Ljava/lang/Object;" (.ref dd) := c13.wr W16
  have c23 : own_Arl Z h16 dd 0 := c14.other W16 ne_dd_a1
  have c24 : own_Aro Z h16 b6 10 := c15.other W16 (Ne.symm ne7)
  have K16 : Keep h0 h16 [a1] := K6.wr W16 (Or.inl (List.mem_of_getElem? (i := 0) rfl))
  refine own_step st16 ?_
  clear A6 B6 E6 K6 N5 W16 X5 X6 c10 c11 c12 c13 c14 c15 c9 e5 e6 g6 st16 st6
  show own_G p.tables e below _ (T16.setTop (mkF m 59 #[.val (.ref a1), .val (.int (1 : Int32)), .val (.int (0 : Int32)), .unset] [(.ref b6)]))
  obtain ⟨fs, hr, hrun, hended, hW, hsame⟩ := X16.leave (v := some (.ref b6)) (fun h => by rw [Bd.returns] at h; cases h)
  refine own_done (own_retA X16 hx Bd.returns (by decide) rfl (hb hby d12_59) hr) hrun hended ⟨_, _, rfl, ?_, ⟨_, rfl⟩, hW, hsame.mono (by decide) (by decide)⟩
  show Q12_z Z a1 dd u_mod h0 n0 _ T16.heap _
  rw [e16]
  exact ⟨b6, rfl, N16, K16, c19, c17, c21, c24, sz6⟩
theorem d11_0 : decode jdk_38_method_7_code 0 = .ok (.aload_n 0, 1) := by decide +kernel
theorem d11_1 : decode jdk_38_method_7_code 1 = .ok (.aload_n 0, 1) := by decide +kernel
theorem d11_2 : decode jdk_38_method_7_code 2 = .ok (.getfield 48, 3) := by decide +kernel
theorem d11_5 : decode jdk_38_method_7_code 5 = .ok (.iconst 1, 1) := by decide +kernel
theorem d11_6 : decode jdk_38_method_7_code 6 = .ok (.iadd, 1) := by decide +kernel
theorem d11_7 : decode jdk_38_method_7_code 7 = .ok (.invokevirtual 69, 3) := by decide +kernel
theorem d11_10 : decode jdk_38_method_7_code 10 = .ok (.areturn, 1) := by decide +kernel
theorem pn_11 : plainName "java/util/ArrayList" = true := by first | (simp [plainName, overriddenIn]; done) | decide +kernel
theorem pd_11_0 : parseMethodDescriptor "(I)[Ljava/lang/Object;" = some ⟨[.int], some (.array (.object "java/lang/Object"))⟩ := by decide +kernel
theorem ef_11 (m : MethodId) (a1 : Addr) : entryFrame m #[(.ref a1)] 1 = mkF m 0 #[.val (.ref a1)] [] := by first | (simp [entryFrame, mkF, argsToLocals, Value.category]; done) | rfl
def Q11 (Z : State) (a1 : Addr) (dd : Addr) (u_mod : Int32) (h0 : Heap) (n0 : Nat) (v : Option Value) (h : Heap) (L : List Loc) : Prop := ∃ (rb : Addr), v = some (.ref rb) ∧ Fr n0 L ∧ Keep h0 h [a1] ∧ Fld Z h a1 "java/util/AbstractList" "modCount" "I" (.int u_mod) ∧ Fld Z h a1 "java/util/ArrayList" "elementData" "[Ljava/lang/Object;" (.ref rb) ∧ Fld Z h a1 "java/util/ArrayList" "size" "I" (.int (0 : Int32)) ∧ own_Aro Z h rb 10 ∧ h0.size ≤ rb
set_option maxRecDepth 65536 in
set_option maxHeartbeats 40000000 in
theorem rm11 (l : Launch) (Z : State) (a0 : Array Value) (hw : ∀ d ∈ tables_1, d.before a0 Z = true) (ws : List Jvm.Cond) (a1 : Addr) (dd : Addr) (u_mod : Int32) (h0 : Heap) (n0 : Nat) (Z0 : n0 ≤ h0.size) (fp0 : Exa Z h0 a1 "java/util/ArrayList") (fp1 : Fld Z h0 a1 "java/util/AbstractList" "modCount" "I" (.int u_mod)) (fp2 : Fld Z h0 a1 "java/util/ArrayList" "elementData" "[Ljava/lang/Object;" (.ref dd)) (fp3 : Fld Z h0 a1 "java/util/ArrayList" "size" "I" (.int (0 : Int32))) (fp4 : Sta Z h0 "java/util/ArrayList" "DEFAULTCAPACITY_EMPTY_ELEMENTDATA" "[Ljava/lang/Object;" (.ref dd)) (fp5 : own_Arl Z h0 dd 0) (g_a1 : n0 ≤ a1) (ne_dd_a1 : dd ≠ a1) :
    MetFree l (⟨"java/util/ArrayList", "grow", "()[Ljava/lang/Object;"⟩ : MethodName) (head1 (Jvm.Cond.code (⟨"java/util/ArrayList", "grow", "()[Ljava/lang/Object;"⟩ : MethodName) jdk_38_method_7_code 1 (some (.array (.object "java/lang/Object"))) :: ws) ({ frames := 2, cells := 1, slots := 10, locals := 29 } : Room)) (fun a U => a = #[(.ref a1)] ∧ Z.Warmed39 U.vm ∧ U.heap = h0) (fun _ _ _ _ _ => True) (fun _ U o U' => ∃ v L, o = .returned v ∧ Q11 Z a1 dd u_mod h0 n0 v U'.heap L ∧ FrameEnd U o U' L ({ frames := 2, cells := 1, slots := 10, locals := 29 } : Room).cells ({ frames := 2, cells := 1, slots := 10, locals := 29 } : Room).slots) := by
  refine MetFree.of_bodySF (plainFor_of_name pn_11) hisR ?_
  intro p e s m args below meth c s₁ Bd hml0 hP hK
  obtain ⟨rfl, hZ, hh⟩ := hP
  have hx := Bd.exec
  have hby := Bd.bytes
  have hml : c.maxLocals = 1 := hml0
  have hown : s.vm.findClass "java/util/ArrayList" = some m.cls := findClass_of_methodNamed Bd.named
  have hnm := (name_of_methodNamed Bd.named Bd.method).1
  have X0 : Stand p l e ({ frames := 2, cells := 1, slots := 10, locals := 29 } : Room) s m #[(.ref a1)] below meth c s₁ [] 0 0 := Stand.of_body Bd
  have e0 : s₁.heap = h0 := by rw [← hh, Bd.state]; rfl
  have N0 := Fr.nil n0
  refine own_start (fun t k => castTop (ef_11 m a1) k) ?_
  show own_G p.tables e below _ (s₁.setTop (mkF m 0 #[.val (.ref a1)] []))
  refine own_step (fun t k => XS.aloadN X0.here hx rfl (hb hby d11_0) rfl rfl k) ?_
  show own_G p.tables e below _ (s₁.setTop (mkF m 1 #[.val (.ref a1)] [(.ref a1)]))
  refine own_step (fun t k => XS.aloadN X0.here hx rfl (hb hby d11_1) rfl rfl k) ?_
  show own_G p.tables e below _ (s₁.setTop (mkF m 2 #[.val (.ref a1)] [(.ref a1), (.ref a1)]))
  obtain ⟨T1, X1, e1, st1⟩ := getF X0 hx hZ hown (host := "") (Or.inl (hw _ (List.mem_of_getElem? (i := 57) rfl))) Via.refl e0 fp3 (g := (mkF m 2 #[.val (.ref a1)] [(.ref a1), (.ref a1)])) rfl rfl (hb hby d11_2)
  refine own_step st1 ?_
  show own_G p.tables e below _ (T1.setTop (mkF m 5 #[.val (.ref a1)] [(.int (0 : Int32)), (.ref a1)]))
  refine own_step (fun t k => XS.iconst X1.here hx rfl (hb hby d11_5) k) ?_
  show own_G p.tables e below _ (T1.setTop (mkF m 6 #[.val (.ref a1)] [(.int (1 : Int32)), (.int (0 : Int32)), (.ref a1)]))
  refine own_step (fun t k => XS.iadd X1.here hx rfl (hb hby d11_6) rfl k) ?_
  show own_G p.tables e below _ (T1.setTop (mkF m 7 #[.val (.ref a1)] [(.int (1 : Int32)), (.ref a1)]))
  obtain ⟨cq2, q2, q2'⟩ := fp0.cell
  obtain ⟨_, _, ⟨T2, L2, k2, n2⟩, -, X2, ⟨Lc2, hQ2, l2, y2, z2⟩, st2⟩ := X1.privateBack hx (y := (⟨"java/util/ArrayList", "grow", "(I)[Ljava/lang/Object;"⟩ : MethodName)) hown (mvT hZ (hw _ (List.mem_of_getElem? (i := 69) rfl))) (mvT hZ (hw _ (List.mem_of_getElem? (i := 70) rfl))) (mvT hZ (hw _ (List.mem_of_getElem? (i := 72) rfl))) (Cond.privateMethod_at (mvP hZ (hw _ (List.mem_of_getElem? (i := 71) rfl)) (args := #[]))) (mvT hZ (hw _ (List.mem_of_getElem? (i := 73) rfl))) (by decide) (backOf (W := 0) (rm12_z l Z a0 hw [] a1 dd u_mod h0 n0 (Nat.le_trans Z0 (Keep.refl h0 [a1]).1) fp0 fp1 fp2 fp3 fp4 fp5 g_a1 ne_dd_a1) hZ (hw _ (List.mem_of_getElem? (i := 73) rfl)) (hw _ (List.mem_of_getElem? (i := 2) rfl)) (by decide) (by decide)) (g := (mkF m 7 #[.val (.ref a1)] [(.int (1 : Int32)), (.ref a1)])) rfl (by rw [hml]; rfl) (Steps.refl _) (a := a1) (by rw [e1]; exact q2) q2' (argsL := [(.int (1 : Int32))]) (rest := []) (lenOf pd_11_0 rfl) rfl (by show 2 * 0 + _ ≤ _; exact Nat.le_of_eq rfl) (hb hby d11_7) (fun _ _ => ⟨rfl, e1, (by decide : 0 + 1 ≤ _), (by decide : 0 + 10 ≤ _)⟩)
  dsimp only [Pt.U, Pt.locs, Pt.cells, Pt.slots] at X2 l2 y2 z2 st2 hQ2
  subst y2 z2
  obtain ⟨bx2_rb, rfl, N2q, K2q, w2_0, w2_1, w2_2, w2_3, sx2_0⟩ := hQ2
  have c3 : Exa Z T2.heap a1 "java/util/ArrayList" := fp0.keep K2q
  have c7 : Sta Z T2.heap "java/util/ArrayList" "DEFAULTCAPACITY_EMPTY_ELEMENTDATA" "[Ljava/lang/Object;" (.ref dd) := own_staKeep fp4 K2q (allS (own_nsE fp0) all0)
  have c8 : own_Arl Z T2.heap dd 0 := fp5.keep K2q (ninS ne_dd_a1 nin0)
  have sz2_0 : h0.size ≤ bx2_rb := Nat.le_trans (Keep.refl h0 [a1]).1 sx2_0
  have ge2_0 : n0 ≤ bx2_rb := Nat.le_trans Z0 sz2_0
  have ne9 : a1 ≠ bx2_rb := Nat.ne_of_lt (Nat.lt_of_lt_of_le fp0.lt sx2_0)
  have ne10 : dd ≠ bx2_rb := Nat.ne_of_lt (Nat.lt_of_lt_of_le fp5.lt sx2_0)
  have K2 : Keep h0 T2.heap [a1] := (Keep.refl h0 [a1]).trans K2q (allS (Or.inl (List.mem_of_getElem? (i := 0) rfl)) all0)
  have N2 : Fr n0 L2 := by rw [l2]; exact Fr.app N0 N2q
  refine own_step (fun t k => st2.trans k) ?_
  show own_G p.tables e below _ (T2.setTop (mkF m 10 #[.val (.ref a1)] [(.ref bx2_rb)]))
  obtain ⟨fs, hr, hrun, hended, hW, hsame⟩ := X2.leave (v := some (.ref bx2_rb)) (fun h => by rw [Bd.returns] at h; cases h)
  refine own_done (own_retA X2 hx Bd.returns (by decide) rfl (hb hby d11_10) hr) hrun hended ⟨_, _, rfl, ?_, ⟨_, rfl⟩, hW, hsame.mono (by decide) (by decide)⟩
  show Q11 Z a1 dd u_mod h0 n0 _ T2.heap _
  exact ⟨bx2_rb, rfl, N2, K2, w2_0, w2_1, w2_2, w2_3, sz2_0⟩
theorem d10_0 : decode jdk_38_method_24_code 0 = .ok (.iload_n 3, 1) := by decide +kernel
theorem d10_1 : decode jdk_38_method_24_code 1 = .ok (.aload_n 2, 1) := by decide +kernel
theorem d10_2 : decode jdk_38_method_24_code 2 = .ok (.arraylength, 1) := by decide +kernel
theorem d10_3 : decode jdk_38_method_24_code 3 = .ok (.if_icmp .ne 8, 3) := by decide +kernel
theorem d10_6 : decode jdk_38_method_24_code 6 = .ok (.aload_n 0, 1) := by decide +kernel
theorem d10_7 : decode jdk_38_method_24_code 7 = .ok (.invokevirtual 129, 3) := by decide +kernel
theorem d10_10 : decode jdk_38_method_24_code 10 = .ok (.astore_n 2, 1) := by decide +kernel
theorem d10_11 : decode jdk_38_method_24_code 11 = .ok (.aload_n 2, 1) := by decide +kernel
theorem d10_12 : decode jdk_38_method_24_code 12 = .ok (.iload_n 3, 1) := by decide +kernel
theorem d10_13 : decode jdk_38_method_24_code 13 = .ok (.aload_n 1, 1) := by decide +kernel
theorem d10_14 : decode jdk_38_method_24_code 14 = .ok (.aastore, 1) := by decide +kernel
theorem d10_15 : decode jdk_38_method_24_code 15 = .ok (.aload_n 0, 1) := by decide +kernel
theorem d10_16 : decode jdk_38_method_24_code 16 = .ok (.iload_n 3, 1) := by decide +kernel
theorem d10_17 : decode jdk_38_method_24_code 17 = .ok (.iconst 1, 1) := by decide +kernel
theorem d10_18 : decode jdk_38_method_24_code 18 = .ok (.iadd, 1) := by decide +kernel
theorem d10_19 : decode jdk_38_method_24_code 19 = .ok (.putfield 48, 3) := by decide +kernel
theorem d10_22 : decode jdk_38_method_24_code 22 = .ok (.return_, 1) := by decide +kernel
theorem pn_10_z : plainName "java/util/ArrayList" = true := by first | (simp [plainName, overriddenIn]; done) | decide +kernel
theorem pd_10_z_0 : parseMethodDescriptor "()[Ljava/lang/Object;" = some ⟨[], some (.array (.object "java/lang/Object"))⟩ := by decide +kernel
theorem ef_10_z (m : MethodId) (a1 : Addr) (a2 : Addr) (dd : Addr) : entryFrame m #[(.ref a1), (.ref a2), (.ref dd), (.int (0 : Int32))] 4 = mkF m 0 #[.val (.ref a1), .val (.ref a2), .val (.ref dd), .val (.int (0 : Int32))] [] := by first | (simp [entryFrame, mkF, argsToLocals, Value.category]; done) | rfl
def Q10_z (Z : State) (a1 : Addr) (a2 : Addr) (dd : Addr) (u_mod : Int32) (h0 : Heap) (n0 : Nat) (v : Option Value) (h : Heap) (L : List Loc) : Prop := ∃ (x1 : Addr), v = none ∧ Fr n0 L ∧ Keep h0 h [a1] ∧ Fld Z h a1 "java/util/AbstractList" "modCount" "I" (.int u_mod) ∧ Fld Z h a1 "java/util/ArrayList" "elementData" "[Ljava/lang/Object;" (.ref x1) ∧ Fld Z h a1 "java/util/ArrayList" "size" "I" (.int (1 : Int32)) ∧ own_Aro Z h x1 10 ∧ h0.size ≤ x1
set_option maxRecDepth 65536 in
set_option maxHeartbeats 40000000 in
theorem rm10_z (l : Launch) (Z : State) (a0 : Array Value) (hw : ∀ d ∈ tables_1, d.before a0 Z = true) (ws : List Jvm.Cond) (a1 : Addr) (a2 : Addr) (dd : Addr) (u_mod : Int32) (h0 : Heap) (n0 : Nat) (Z0 : n0 ≤ h0.size) (fp0 : Exa Z h0 a1 "java/util/ArrayList") (fp1 : Fld Z h0 a1 "java/util/AbstractList" "modCount" "I" (.int u_mod)) (fp2 : Fld Z h0 a1 "java/util/ArrayList" "elementData" "[Ljava/lang/Object;" (.ref dd)) (fp3 : Fld Z h0 a1 "java/util/ArrayList" "size" "I" (.int (0 : Int32))) (fp4 : Exa Z h0 a2 "java/lang/String") (fp5 : Sta Z h0 "java/util/ArrayList" "DEFAULTCAPACITY_EMPTY_ELEMENTDATA" "[Ljava/lang/Object;" (.ref dd)) (fp6 : own_Arl Z h0 dd 0) (g_a1 : n0 ≤ a1) (ne_dd_a1 : dd ≠ a1) :
    MetFree l (⟨"java/util/ArrayList", "add", "(Ljava/lang/Object;[Ljava/lang/Object;I)V"⟩ : MethodName) (head1 (Jvm.Cond.code (⟨"java/util/ArrayList", "add", "(Ljava/lang/Object;[Ljava/lang/Object;I)V"⟩ : MethodName) jdk_38_method_24_code 4 none :: ws) ({ frames := 3, cells := 1, slots := 10, locals := 41 } : Room)) (fun a U => a = #[(.ref a1), (.ref a2), (.ref dd), (.int (0 : Int32))] ∧ Z.Warmed39 U.vm ∧ U.heap = h0) (fun _ _ _ _ _ => True) (fun _ U o U' => ∃ v L, o = .returned v ∧ Q10_z Z a1 a2 dd u_mod h0 n0 v U'.heap L ∧ FrameEnd U o U' L ({ frames := 3, cells := 1, slots := 10, locals := 41 } : Room).cells ({ frames := 3, cells := 1, slots := 10, locals := 41 } : Room).slots) := by
  refine MetFree.of_bodySF (plainFor_of_name pn_10_z) hisR ?_
  intro p e s m args below meth c s₁ Bd hml0 hP hK
  obtain ⟨rfl, hZ, hh⟩ := hP
  have hx := Bd.exec
  have hby := Bd.bytes
  have hml : c.maxLocals = 4 := hml0
  have hown : s.vm.findClass "java/util/ArrayList" = some m.cls := findClass_of_methodNamed Bd.named
  have hnm := (name_of_methodNamed Bd.named Bd.method).1
  have X0 : Stand p l e ({ frames := 3, cells := 1, slots := 10, locals := 41 } : Room) s m #[(.ref a1), (.ref a2), (.ref dd), (.int (0 : Int32))] below meth c s₁ [] 0 0 := Stand.of_body Bd
  have e0 : s₁.heap = h0 := by rw [← hh, Bd.state]; rfl
  have N0 := Fr.nil n0
  refine own_start (fun t k => castTop (ef_10_z m a1 a2 dd) k) ?_
  show own_G p.tables e below _ (s₁.setTop (mkF m 0 #[.val (.ref a1), .val (.ref a2), .val (.ref dd), .val (.int (0 : Int32))] []))
  refine own_step (fun t k => XS.iloadN X0.here hx rfl (hb hby d10_0) rfl k) ?_
  show own_G p.tables e below _ (s₁.setTop (mkF m 1 #[.val (.ref a1), .val (.ref a2), .val (.ref dd), .val (.int (0 : Int32))] [(.int (0 : Int32))]))
  refine own_step (fun t k => XS.aloadN X0.here hx rfl (hb hby d10_1) rfl rfl k) ?_
  show own_G p.tables e below _ (s₁.setTop (mkF m 2 #[.val (.ref a1), .val (.ref a2), .val (.ref dd), .val (.int (0 : Int32))] [(.ref dd), (.int (0 : Int32))]))
  refine own_step (own_lenL X0 hx hZ e0 fp6 (g := (mkF m 2 #[.val (.ref a1), .val (.ref a2), .val (.ref dd), .val (.int (0 : Int32))] [(.ref dd), (.int (0 : Int32))])) rfl rfl (hb hby d10_2)) ?_
  show own_G p.tables e below _ (s₁.setTop (mkF m 3 #[.val (.ref a1), .val (.ref a2), .val (.ref dd), .val (.int (0 : Int32))] [(.int (0 : Int32)), (.int (0 : Int32))]))
  have hk1 : (0 : Int32) = (0 : Int32) := rfl
  refine own_step (fun t k => XS.icmpNo X0.here hx rfl (hb hby d10_3) rfl ((teq hk1).2) k) ?_
  show own_G p.tables e below _ (s₁.setTop (mkF m 6 #[.val (.ref a1), .val (.ref a2), .val (.ref dd), .val (.int (0 : Int32))] []))
  refine own_step (fun t k => XS.aloadN X0.here hx rfl (hb hby d10_6) rfl rfl k) ?_
  show own_G p.tables e below _ (s₁.setTop (mkF m 7 #[.val (.ref a1), .val (.ref a2), .val (.ref dd), .val (.int (0 : Int32))] [(.ref a1)]))
  obtain ⟨cq2, q2, q2'⟩ := fp0.cell
  obtain ⟨_, _, ⟨T2, L2, k2, n2⟩, -, X2, ⟨Lc2, hQ2, l2, y2, z2⟩, st2⟩ := X0.privateBack hx (y := (⟨"java/util/ArrayList", "grow", "()[Ljava/lang/Object;"⟩ : MethodName)) hown (mvT hZ (hw _ (List.mem_of_getElem? (i := 64) rfl))) (mvT hZ (hw _ (List.mem_of_getElem? (i := 65) rfl))) (mvT hZ (hw _ (List.mem_of_getElem? (i := 67) rfl))) (Cond.privateMethod_at (mvP hZ (hw _ (List.mem_of_getElem? (i := 66) rfl)) (args := #[]))) (mvT hZ (hw _ (List.mem_of_getElem? (i := 68) rfl))) (by decide) (backOf (W := 0) (rm11 l Z a0 hw [] a1 dd u_mod h0 n0 (Nat.le_trans Z0 (Keep.refl h0 [a1]).1) fp0 fp1 fp2 fp3 fp5 fp6 g_a1 ne_dd_a1) hZ (hw _ (List.mem_of_getElem? (i := 68) rfl)) (hw _ (List.mem_of_getElem? (i := 2) rfl)) (by decide) (by decide)) (g := (mkF m 7 #[.val (.ref a1), .val (.ref a2), .val (.ref dd), .val (.int (0 : Int32))] [(.ref a1)])) rfl (by rw [hml]; rfl) (Steps.refl _) (a := a1) (by rw [e0]; exact q2) q2' (argsL := []) (rest := []) (lenOf pd_10_z_0 rfl) rfl (by show 2 * 0 + _ ≤ _; exact Nat.le_of_eq rfl) (hb hby d10_7) (fun _ _ => ⟨rfl, e0, (by decide : 0 + 1 ≤ _), (by decide : 0 + 10 ≤ _)⟩)
  dsimp only [Pt.U, Pt.locs, Pt.cells, Pt.slots] at X2 l2 y2 z2 st2 hQ2
  subst y2 z2
  obtain ⟨bx2_rb, rfl, N2q, K2q, w2_0, w2_1, w2_2, w2_3, sx2_0⟩ := hQ2
  have c3 : Exa Z T2.heap a1 "java/util/ArrayList" := fp0.keep K2q
  have c7 : Exa Z T2.heap a2 "java/lang/String" := fp4.keep K2q
  have c8 : Sta Z T2.heap "java/util/ArrayList" "DEFAULTCAPACITY_EMPTY_ELEMENTDATA" "[Ljava/lang/Object;" (.ref dd) := own_staKeep fp5 K2q (allS (own_nsE fp0) all0)
  have c9 : own_Arl Z T2.heap dd 0 := fp6.keep K2q (ninS ne_dd_a1 nin0)
  have sz2_0 : h0.size ≤ bx2_rb := Nat.le_trans (Keep.refl h0 [a1]).1 sx2_0
  have ge2_0 : n0 ≤ bx2_rb := Nat.le_trans Z0 sz2_0
  have ne10 : a1 ≠ bx2_rb := Nat.ne_of_lt (Nat.lt_of_lt_of_le fp0.lt sx2_0)
  have ne11 : a2 ≠ bx2_rb := Nat.ne_of_lt (Nat.lt_of_lt_of_le fp4.lt sx2_0)
  have ne12 : dd ≠ bx2_rb := Nat.ne_of_lt (Nat.lt_of_lt_of_le fp6.lt sx2_0)
  have K2 : Keep h0 T2.heap [a1] := (Keep.refl h0 [a1]).trans K2q (allS (Or.inl (List.mem_of_getElem? (i := 0) rfl)) all0)
  have N2 : Fr n0 L2 := by rw [l2]; exact Fr.app N0 N2q
  refine own_step (fun t k => st2.trans k) ?_
  show own_G p.tables e below _ (T2.setTop (mkF m 10 #[.val (.ref a1), .val (.ref a2), .val (.ref dd), .val (.int (0 : Int32))] [(.ref bx2_rb)]))
  refine own_step (fun t k => XS.astoreN X2.here hx rfl (hb hby d10_10) rfl rfl (l' := #[.val (.ref a1), .val (.ref a2), .val (.ref bx2_rb), .val (.int (0 : Int32))]) rfl k) ?_
  show own_G p.tables e below _ (T2.setTop (mkF m 11 #[.val (.ref a1), .val (.ref a2), .val (.ref bx2_rb), .val (.int (0 : Int32))] []))
  refine own_step (fun t k => XS.aloadN X2.here hx rfl (hb hby d10_11) rfl rfl k) ?_
  show own_G p.tables e below _ (T2.setTop (mkF m 12 #[.val (.ref a1), .val (.ref a2), .val (.ref bx2_rb), .val (.int (0 : Int32))] [(.ref bx2_rb)]))
  refine own_step (fun t k => XS.iloadN X2.here hx rfl (hb hby d10_12) rfl k) ?_
  show own_G p.tables e below _ (T2.setTop (mkF m 13 #[.val (.ref a1), .val (.ref a2), .val (.ref bx2_rb), .val (.int (0 : Int32))] [(.int (0 : Int32)), (.ref bx2_rb)]))
  refine own_step (fun t k => XS.aloadN X2.here hx rfl (hb hby d10_13) rfl rfl k) ?_
  show own_G p.tables e below _ (T2.setTop (mkF m 14 #[.val (.ref a1), .val (.ref a2), .val (.ref bx2_rb), .val (.int (0 : Int32))] [(.ref a2), (.int (0 : Int32)), (.ref bx2_rb)]))
  obtain ⟨T13, h13, X13, e13, W13, c13, st13⟩ := own_aastore X2 hx hZ rfl w2_3 (Ins.of_exa c7 (hw _ (List.mem_of_getElem? (i := 80) rfl))) (own_inb (by decide) (by decide)) (g := (mkF m 14 #[.val (.ref a1), .val (.ref a2), .val (.ref bx2_rb), .val (.int (0 : Int32))] [(.ref a2), (.int (0 : Int32)), (.ref bx2_rb)])) rfl rfl (hb hby d10_14)
  have N13 := Fr.snoc X13 N2 ge2_0
  have c14 : Exa Z h13 a1 "java/util/ArrayList" := c3.wr W13
  have c15 : Exa Z h13 a2 "java/lang/String" := c7.wr W13
  have c16 : Sta Z h13 "java/util/ArrayList" "DEFAULTCAPACITY_EMPTY_ELEMENTDATA" "[Ljava/lang/Object;" (.ref dd) := c8.wr W13
  have c17 : own_Arl Z h13 dd 0 := c9.other W13 ne12
  have c18 : Fld Z h13 a1 "java/util/AbstractList" "modCount" "I" (.int u_mod) := w2_0.other W13 (Or.inl ne10)
  have c19 : Fld Z h13 a1 "java/util/ArrayList" "elementData" "[Ljava/lang/Object;" (.ref bx2_rb) := w2_1.other W13 (Or.inl ne10)
  have c20 : Fld Z h13 a1 "java/util/ArrayList" "size" "I" (.int (0 : Int32)) := w2_2.other W13 (Or.inl ne10)
  have K13 : Keep h0 h13 [a1] := K2.wr W13 (Or.inr sz2_0)
  refine own_step st13 ?_
  clear K2 K2q N2 N2q W13 X2 c3 c7 c8 c9 hk1 q2 q2' st13 st2 sx2_0 w2_0 w2_1 w2_2 w2_3
  show own_G p.tables e below _ (T13.setTop (mkF m 15 #[.val (.ref a1), .val (.ref a2), .val (.ref bx2_rb), .val (.int (0 : Int32))] []))
  refine own_step (fun t k => XS.aloadN X13.here hx rfl (hb hby d10_15) rfl rfl k) ?_
  show own_G p.tables e below _ (T13.setTop (mkF m 16 #[.val (.ref a1), .val (.ref a2), .val (.ref bx2_rb), .val (.int (0 : Int32))] [(.ref a1)]))
  refine own_step (fun t k => XS.iloadN X13.here hx rfl (hb hby d10_16) rfl k) ?_
  show own_G p.tables e below _ (T13.setTop (mkF m 17 #[.val (.ref a1), .val (.ref a2), .val (.ref bx2_rb), .val (.int (0 : Int32))] [(.int (0 : Int32)), (.ref a1)]))
  refine own_step (fun t k => XS.iconst X13.here hx rfl (hb hby d10_17) k) ?_
  show own_G p.tables e below _ (T13.setTop (mkF m 18 #[.val (.ref a1), .val (.ref a2), .val (.ref bx2_rb), .val (.int (0 : Int32))] [(.int (1 : Int32)), (.int (0 : Int32)), (.ref a1)]))
  refine own_step (fun t k => XS.iadd X13.here hx rfl (hb hby d10_18) rfl k) ?_
  show own_G p.tables e below _ (T13.setTop (mkF m 19 #[.val (.ref a1), .val (.ref a2), .val (.ref bx2_rb), .val (.int (0 : Int32))] [(.int (1 : Int32)), (.ref a1)]))
  obtain ⟨T22, h22, X22, e22, W22, st22⟩ := putF X13 hx hZ hown (host := "") (Or.inl (hw _ (List.mem_of_getElem? (i := 57) rfl))) Via.refl e13 c20 c14 (Or.inl (hw _ (List.mem_of_getElem? (i := 58) rfl))) (hw _ (List.mem_of_getElem? (i := 1) rfl)) (ty := .int) (by decide) rfl rfl (g := (mkF m 19 #[.val (.ref a1), .val (.ref a2), .val (.ref bx2_rb), .val (.int (0 : Int32))] [(.int (1 : Int32)), (.ref a1)])) rfl rfl (hb hby d10_19)
  have N22 := Fr.snoc X22 N13 g_a1
  have c23 : Fld Z h22 a1 "java/util/ArrayList" "size" "I" (.int (1 : Int32)) := c20.same W22
  have c24 : Exa Z h22 a1 "java/util/ArrayList" := c14.wr W22
  have c25 : Exa Z h22 a2 "java/lang/String" := c15.wr W22
  have c26 : Sta Z h22 "java/util/ArrayList" "DEFAULTCAPACITY_EMPTY_ELEMENTDATA" "[Ljava/lang/Object;" (.ref dd) := c16.wr W22
  have c27 : own_Arl Z h22 dd 0 := c17.other W22 ne_dd_a1
  have c28 : Fld Z h22 a1 "java/util/AbstractList" "modCount" "I" (.int u_mod) := c18.other W22 (Or.inr (slot_ne (Or.inl (hw _ (List.mem_of_getElem? (i := 22) rfl))) (Or.inl (hw _ (List.mem_of_getElem? (i := 58) rfl))) (by decide) (t := .int) (t' := .int) (by decide) (by decide)))
  have c29 : Fld Z h22 a1 "java/util/ArrayList" "elementData" "[Ljava/lang/Object;" (.ref bx2_rb) := c19.other W22 (Or.inr (slot_ne (Or.inl (hw _ (List.mem_of_getElem? (i := 25) rfl))) (Or.inl (hw _ (List.mem_of_getElem? (i := 58) rfl))) (by decide) (t := (.array (.object "java/lang/Object"))) (t' := .int) (by decide) (by decide)))
  have c31 : own_Aro Z h22 bx2_rb 10 := c13.other W22 (Ne.symm ne10)
  have K22 : Keep h0 h22 [a1] := K13.wr W22 (Or.inl (List.mem_of_getElem? (i := 0) rfl))
  refine own_step st22 ?_
  clear K13 N13 W22 X13 c13 c14 c15 c16 c17 c18 c19 c20 e13 st22
  show own_G p.tables e below _ (T22.setTop (mkF m 22 #[.val (.ref a1), .val (.ref a2), .val (.ref bx2_rb), .val (.int (0 : Int32))] []))
  obtain ⟨fs, hr, hrun, hended, hW, hsame⟩ := X22.leave (v := none) (fun _ => rfl)
  refine own_done (X22.returnOut hx Bd.returns (hb hby d10_22) hr) hrun hended ⟨_, _, rfl, ?_, ⟨_, rfl⟩, hW, hsame.mono (by decide) (by decide)⟩
  show Q10_z Z a1 a2 dd u_mod h0 n0 _ T22.heap _
  rw [e22]
  exact ⟨bx2_rb, rfl, N22, K22, c28, c29, c23, c31, sz2_0⟩
theorem d9_0 : decode jdk_38_method_25_code 0 = .ok (.aload_n 0, 1) := by decide +kernel
theorem d9_1 : decode jdk_38_method_25_code 1 = .ok (.dup, 1) := by decide +kernel
theorem d9_2 : decode jdk_38_method_25_code 2 = .ok (.getfield 63, 3) := by decide +kernel
theorem d9_5 : decode jdk_38_method_25_code 5 = .ok (.iconst 1, 1) := by decide +kernel
theorem d9_6 : decode jdk_38_method_25_code 6 = .ok (.iadd, 1) := by decide +kernel
theorem d9_7 : decode jdk_38_method_25_code 7 = .ok (.putfield 63, 3) := by decide +kernel
theorem d9_10 : decode jdk_38_method_25_code 10 = .ok (.aload_n 0, 1) := by decide +kernel
theorem d9_11 : decode jdk_38_method_25_code 11 = .ok (.aload_n 1, 1) := by decide +kernel
theorem d9_12 : decode jdk_38_method_25_code 12 = .ok (.aload_n 0, 1) := by decide +kernel
theorem d9_13 : decode jdk_38_method_25_code 13 = .ok (.getfield 9, 3) := by decide +kernel
theorem d9_16 : decode jdk_38_method_25_code 16 = .ok (.aload_n 0, 1) := by decide +kernel
theorem d9_17 : decode jdk_38_method_25_code 17 = .ok (.getfield 48, 3) := by decide +kernel
theorem d9_20 : decode jdk_38_method_25_code 20 = .ok (.invokevirtual 131, 3) := by decide +kernel
theorem d9_23 : decode jdk_38_method_25_code 23 = .ok (.iconst 1, 1) := by decide +kernel
theorem d9_24 : decode jdk_38_method_25_code 24 = .ok (.ireturn, 1) := by decide +kernel
theorem pn_9 : plainName "java/util/ArrayList" = true := by first | (simp [plainName, overriddenIn]; done) | decide +kernel
theorem pd_9_0 : parseMethodDescriptor "(Ljava/lang/Object;[Ljava/lang/Object;I)V" = some ⟨[(.object "java/lang/Object"), (.array (.object "java/lang/Object")), .int], none⟩ := by decide +kernel
theorem ef_9 (m : MethodId) (a1 : Addr) (a2 : Addr) : entryFrame m #[(.ref a1), (.ref a2)] 2 = mkF m 0 #[.val (.ref a1), .val (.ref a2)] [] := by first | (simp [entryFrame, mkF, argsToLocals, Value.category]; done) | rfl
def Q9 (Z : State) (a1 : Addr) (a2 : Addr) (dd : Addr) (u_mod : Int32) (h0 : Heap) (n0 : Nat) (v : Option Value) (h : Heap) (L : List Loc) : Prop := ∃ (x1 : Addr), v = some (.int (1 : Int32)) ∧ Fr n0 L ∧ Keep h0 h [a1] ∧ Fld Z h a1 "java/util/AbstractList" "modCount" "I" (.int (u_mod + (1 : Int32))) ∧ Fld Z h a1 "java/util/ArrayList" "elementData" "[Ljava/lang/Object;" (.ref x1) ∧ Fld Z h a1 "java/util/ArrayList" "size" "I" (.int (1 : Int32)) ∧ own_Aro Z h x1 10 ∧ h0.size ≤ x1
set_option maxRecDepth 65536 in
set_option maxHeartbeats 40000000 in
theorem rm9 (l : Launch) (Z : State) (a0 : Array Value) (hw : ∀ d ∈ tables_1, d.before a0 Z = true) (ws : List Jvm.Cond) (a1 : Addr) (a2 : Addr) (dd : Addr) (u_mod : Int32) (h0 : Heap) (n0 : Nat) (Z0 : n0 ≤ h0.size) (fp0 : Exa Z h0 a1 "java/util/ArrayList") (fp1 : Fld Z h0 a1 "java/util/AbstractList" "modCount" "I" (.int u_mod)) (fp2 : Fld Z h0 a1 "java/util/ArrayList" "elementData" "[Ljava/lang/Object;" (.ref dd)) (fp3 : Fld Z h0 a1 "java/util/ArrayList" "size" "I" (.int (0 : Int32))) (fp4 : Exa Z h0 a2 "java/lang/String") (fp5 : Sta Z h0 "java/util/ArrayList" "DEFAULTCAPACITY_EMPTY_ELEMENTDATA" "[Ljava/lang/Object;" (.ref dd)) (fp6 : own_Arl Z h0 dd 0) (g_a1 : n0 ≤ a1) (ne_dd_a1 : dd ≠ a1) :
    MetFree l (⟨"java/util/ArrayList", "add", "(Ljava/lang/Object;)Z"⟩ : MethodName) (head1 (Jvm.Cond.code (⟨"java/util/ArrayList", "add", "(Ljava/lang/Object;)Z"⟩ : MethodName) jdk_38_method_25_code 2 (some .boolean) :: ws) ({ frames := 4, cells := 1, slots := 10, locals := 56 } : Room)) (fun a U => a = #[(.ref a1), (.ref a2)] ∧ Z.Warmed39 U.vm ∧ U.heap = h0) (fun _ _ _ _ _ => True) (fun _ U o U' => ∃ v L, o = .returned v ∧ Q9 Z a1 a2 dd u_mod h0 n0 v U'.heap L ∧ FrameEnd U o U' L ({ frames := 4, cells := 1, slots := 10, locals := 56 } : Room).cells ({ frames := 4, cells := 1, slots := 10, locals := 56 } : Room).slots) := by
  refine MetFree.of_bodySF (plainFor_of_name pn_9) hisR ?_
  intro p e s m args below meth c s₁ Bd hml0 hP hK
  obtain ⟨rfl, hZ, hh⟩ := hP
  have hx := Bd.exec
  have hby := Bd.bytes
  have hml : c.maxLocals = 2 := hml0
  have hown : s.vm.findClass "java/util/ArrayList" = some m.cls := findClass_of_methodNamed Bd.named
  have hnm := (name_of_methodNamed Bd.named Bd.method).1
  have X0 : Stand p l e ({ frames := 4, cells := 1, slots := 10, locals := 56 } : Room) s m #[(.ref a1), (.ref a2)] below meth c s₁ [] 0 0 := Stand.of_body Bd
  have e0 : s₁.heap = h0 := by rw [← hh, Bd.state]; rfl
  have N0 := Fr.nil n0
  refine own_start (fun t k => castTop (ef_9 m a1 a2) k) ?_
  show own_G p.tables e below _ (s₁.setTop (mkF m 0 #[.val (.ref a1), .val (.ref a2)] []))
  refine own_step (fun t k => XS.aloadN X0.here hx rfl (hb hby d9_0) rfl rfl k) ?_
  show own_G p.tables e below _ (s₁.setTop (mkF m 1 #[.val (.ref a1), .val (.ref a2)] [(.ref a1)]))
  refine own_step (fun t k => XS.dup X0.here hx rfl (hb hby d9_1) rfl rfl k) ?_
  show own_G p.tables e below _ (s₁.setTop (mkF m 2 #[.val (.ref a1), .val (.ref a2)] [(.ref a1), (.ref a1)]))
  obtain ⟨T1, X1, e1, st1⟩ := getF X0 hx hZ hown (host := "") (Or.inl (hw _ (List.mem_of_getElem? (i := 55) rfl))) (Via.of (hw _ (List.mem_of_getElem? (i := 56) rfl))) e0 fp1 (g := (mkF m 2 #[.val (.ref a1), .val (.ref a2)] [(.ref a1), (.ref a1)])) rfl rfl (hb hby d9_2)
  refine own_step st1 ?_
  show own_G p.tables e below _ (T1.setTop (mkF m 5 #[.val (.ref a1), .val (.ref a2)] [(.int u_mod), (.ref a1)]))
  refine own_step (fun t k => XS.iconst X1.here hx rfl (hb hby d9_5) k) ?_
  show own_G p.tables e below _ (T1.setTop (mkF m 6 #[.val (.ref a1), .val (.ref a2)] [(.int (1 : Int32)), (.int u_mod), (.ref a1)]))
  refine own_step (fun t k => XS.iadd X1.here hx rfl (hb hby d9_6) rfl k) ?_
  show own_G p.tables e below _ (T1.setTop (mkF m 7 #[.val (.ref a1), .val (.ref a2)] [(.int (u_mod + (1 : Int32))), (.ref a1)]))
  obtain ⟨T2, h2, X2, e2, W2, st2⟩ := putF X1 hx hZ hown (host := "") (Or.inl (hw _ (List.mem_of_getElem? (i := 55) rfl))) (Via.of (hw _ (List.mem_of_getElem? (i := 56) rfl))) e1 fp1 fp0 (Or.inl (hw _ (List.mem_of_getElem? (i := 22) rfl))) (hw _ (List.mem_of_getElem? (i := 1) rfl)) (ty := .int) (by decide) rfl rfl (g := (mkF m 7 #[.val (.ref a1), .val (.ref a2)] [(.int (u_mod + (1 : Int32))), (.ref a1)])) rfl rfl (hb hby d9_7)
  have N2 := Fr.snoc X2 N0 g_a1
  have c3 : Fld Z h2 a1 "java/util/AbstractList" "modCount" "I" (.int (u_mod + (1 : Int32))) := fp1.same W2
  have c4 : Exa Z h2 a1 "java/util/ArrayList" := fp0.wr W2
  have c6 : Fld Z h2 a1 "java/util/ArrayList" "elementData" "[Ljava/lang/Object;" (.ref dd) := fp2.other W2 (Or.inr (slot_ne (Or.inl (hw _ (List.mem_of_getElem? (i := 25) rfl))) (Or.inl (hw _ (List.mem_of_getElem? (i := 22) rfl))) (by decide) (t := (.array (.object "java/lang/Object"))) (t' := .int) (by decide) (by decide)))
  have c7 : Fld Z h2 a1 "java/util/ArrayList" "size" "I" (.int (0 : Int32)) := fp3.other W2 (Or.inr (slot_ne (Or.inl (hw _ (List.mem_of_getElem? (i := 58) rfl))) (Or.inl (hw _ (List.mem_of_getElem? (i := 22) rfl))) (by decide) (t := .int) (t' := .int) (by decide) (by decide)))
  have c8 : Exa Z h2 a2 "java/lang/String" := fp4.wr W2
  have c9 : Sta Z h2 "java/util/ArrayList" "DEFAULTCAPACITY_EMPTY_ELEMENTDATA" "[Ljava/lang/Object;" (.ref dd) := fp5.wr W2
  have c10 : own_Arl Z h2 dd 0 := fp6.other W2 ne_dd_a1
  have K2 : Keep h0 h2 [a1] := (Keep.refl h0 [a1]).wr W2 (Or.inl (List.mem_of_getElem? (i := 0) rfl))
  refine own_step st2 ?_
  show own_G p.tables e below _ (T2.setTop (mkF m 10 #[.val (.ref a1), .val (.ref a2)] []))
  refine own_step (fun t k => XS.aloadN X2.here hx rfl (hb hby d9_10) rfl rfl k) ?_
  show own_G p.tables e below _ (T2.setTop (mkF m 11 #[.val (.ref a1), .val (.ref a2)] [(.ref a1)]))
  refine own_step (fun t k => XS.aloadN X2.here hx rfl (hb hby d9_11) rfl rfl k) ?_
  show own_G p.tables e below _ (T2.setTop (mkF m 12 #[.val (.ref a1), .val (.ref a2)] [(.ref a2), (.ref a1)]))
  refine own_step (fun t k => XS.aloadN X2.here hx rfl (hb hby d9_12) rfl rfl k) ?_
  show own_G p.tables e below _ (T2.setTop (mkF m 13 #[.val (.ref a1), .val (.ref a2)] [(.ref a1), (.ref a2), (.ref a1)]))
  obtain ⟨T11, X11, e11, st11⟩ := getF X2 hx hZ hown (host := "") (Or.inl (hw _ (List.mem_of_getElem? (i := 24) rfl))) Via.refl e2 c6 (g := (mkF m 13 #[.val (.ref a1), .val (.ref a2)] [(.ref a1), (.ref a2), (.ref a1)])) rfl rfl (hb hby d9_13)
  refine own_step st11 ?_
  show own_G p.tables e below _ (T11.setTop (mkF m 16 #[.val (.ref a1), .val (.ref a2)] [(.ref dd), (.ref a2), (.ref a1)]))
  refine own_step (fun t k => XS.aloadN X11.here hx rfl (hb hby d9_16) rfl rfl k) ?_
  show own_G p.tables e below _ (T11.setTop (mkF m 17 #[.val (.ref a1), .val (.ref a2)] [(.ref a1), (.ref dd), (.ref a2), (.ref a1)]))
  obtain ⟨T12, X12, e12, st12⟩ := getF X11 hx hZ hown (host := "") (Or.inl (hw _ (List.mem_of_getElem? (i := 57) rfl))) Via.refl e11 c7 (g := (mkF m 17 #[.val (.ref a1), .val (.ref a2)] [(.ref a1), (.ref dd), (.ref a2), (.ref a1)])) rfl rfl (hb hby d9_17)
  refine own_step st12 ?_
  clear W2 X1 X11 X2 e1 e11 e2 st1 st11 st12 st2
  show own_G p.tables e below _ (T12.setTop (mkF m 20 #[.val (.ref a1), .val (.ref a2)] [(.int (0 : Int32)), (.ref dd), (.ref a2), (.ref a1)]))
  obtain ⟨cq13, q13, q13'⟩ := c4.cell
  obtain ⟨_, _, ⟨T13, L13, k13, n13⟩, -, X13, ⟨Lc13, hQ13, l13, y13, z13⟩, st13⟩ := X12.privateBack hx (y := (⟨"java/util/ArrayList", "add", "(Ljava/lang/Object;[Ljava/lang/Object;I)V"⟩ : MethodName)) hown (mvT hZ (hw _ (List.mem_of_getElem? (i := 59) rfl))) (mvT hZ (hw _ (List.mem_of_getElem? (i := 60) rfl))) (mvT hZ (hw _ (List.mem_of_getElem? (i := 62) rfl))) (Cond.privateMethod_at (mvP hZ (hw _ (List.mem_of_getElem? (i := 61) rfl)) (args := #[]))) (mvT hZ (hw _ (List.mem_of_getElem? (i := 63) rfl))) (by decide) (backOf (W := 0) (rm10_z l Z a0 hw [] a1 a2 dd (u_mod + (1 : Int32)) h2 n0 (Nat.le_trans Z0 K2.1) c4 c3 c6 c7 c8 c9 c10 g_a1 ne_dd_a1) hZ (hw _ (List.mem_of_getElem? (i := 63) rfl)) (hw _ (List.mem_of_getElem? (i := 2) rfl)) (by decide) (by decide)) (g := (mkF m 20 #[.val (.ref a1), .val (.ref a2)] [(.int (0 : Int32)), (.ref dd), (.ref a2), (.ref a1)])) rfl (by rw [hml]; rfl) (Steps.refl _) (a := a1) (by rw [e12]; exact q13) q13' (argsL := [(.ref a2), (.ref dd), (.int (0 : Int32))]) (rest := []) (lenOf pd_9_0 rfl) rfl (by show 2 * 0 + _ ≤ _; exact Nat.le_of_eq rfl) (hb hby d9_20) (fun _ _ => ⟨rfl, e12, (by decide : 0 + 1 ≤ _), (by decide : 0 + 10 ≤ _)⟩)
  dsimp only [Pt.U, Pt.locs, Pt.cells, Pt.slots] at X13 l13 y13 z13 st13 hQ13
  subst y13 z13
  obtain ⟨bx13_x1, rfl, N13q, K13q, w13_0, w13_1, w13_2, w13_3, sx13_0⟩ := hQ13
  have c14 : Exa Z T13.heap a1 "java/util/ArrayList" := c4.keep K13q
  have c18 : Exa Z T13.heap a2 "java/lang/String" := c8.keep K13q
  have c19 : Sta Z T13.heap "java/util/ArrayList" "DEFAULTCAPACITY_EMPTY_ELEMENTDATA" "[Ljava/lang/Object;" (.ref dd) := own_staKeep c9 K13q (allS (own_nsE c4) all0)
  have c20 : own_Arl Z T13.heap dd 0 := c10.keep K13q (ninS ne_dd_a1 nin0)
  have sz13_0 : h0.size ≤ bx13_x1 := Nat.le_trans K2.1 sx13_0
  have ge13_0 : n0 ≤ bx13_x1 := Nat.le_trans Z0 sz13_0
  have ne21 : a1 ≠ bx13_x1 := Nat.ne_of_lt (Nat.lt_of_lt_of_le c4.lt sx13_0)
  have ne22 : a2 ≠ bx13_x1 := Nat.ne_of_lt (Nat.lt_of_lt_of_le c8.lt sx13_0)
  have ne23 : dd ≠ bx13_x1 := Nat.ne_of_lt (Nat.lt_of_lt_of_le c10.lt sx13_0)
  have K13 : Keep h0 T13.heap [a1] := K2.trans K13q (allS (Or.inl (List.mem_of_getElem? (i := 0) rfl)) all0)
  have N13 : Fr n0 L13 := by rw [l13]; exact Fr.app N2 N13q
  refine own_step (fun t k => st13.trans k) ?_
  clear K13q K2 N13q N2 X12 c10 c3 c4 c6 c7 c8 c9 e12 q13 q13' st13 sx13_0
  show own_G p.tables e below _ (T13.setTop (mkF m 23 #[.val (.ref a1), .val (.ref a2)] []))
  refine own_step (fun t k => XS.iconst X13.here hx rfl (hb hby d9_23) k) ?_
  show own_G p.tables e below _ (T13.setTop (mkF m 24 #[.val (.ref a1), .val (.ref a2)] [(.int (1 : Int32))]))
  obtain ⟨fs, hr, hrun, hended, hW, hsame⟩ := X13.leave (v := some (.int (1 : Int32))) (fun h => by rw [Bd.returns] at h; cases h)
  refine own_done (retN X13 hx (t := .boolean) Bd.returns (by simp) (hb hby d9_24) hr) hrun hended ⟨_, _, rfl, ?_, ⟨_, rfl⟩, hW, hsame.mono (by decide) (by decide)⟩
  show Q9 Z a1 a2 dd u_mod h0 n0 _ T13.heap _
  exact ⟨bx13_x1, congrArg (fun z => some (Value.int z)) (show (1 : Int32) = (1 : Int32) from rfl), N13, K13, w13_0, w13_1, w13_2, w13_3, sz13_0⟩
theorem pn_0 : plainName "com/example/brisktest/brisktest/RunSucceededPinLaw" = true := by first | (simp [plainName, overriddenIn]; done) | decide +kernel
theorem pd_0_0 : parseMethodDescriptor "()V" = some ⟨[], none⟩ := by decide +kernel
theorem pd_0_1 : parseMethodDescriptor "(IZJLjava/util/List;Ljava/util/List;Ljava/util/List;)V" = some ⟨[.int, .boolean, .long, (.object "java/util/List"), (.object "java/util/List"), (.object "java/util/List")], none⟩ := by decide +kernel
theorem pd_0_2 : parseMethodDescriptor "()Z" = some ⟨[], some .boolean⟩ := by decide +kernel
theorem pd_0_3 : parseMethodDescriptor "(C)Ljava/lang/String;" = some ⟨[.char], some (.object "java/lang/String")⟩ := by decide +kernel
theorem pd_0_4 : parseMethodDescriptor "(Ljava/lang/Object;)Z" = some ⟨[(.object "java/lang/Object")], some .boolean⟩ := by decide +kernel
theorem ef_0 (m : MethodId) (p1 : Int32) (p2 : Int32) (q3 : Int64) : entryFrame m #[(.int p1), (.int p2), (.long q3)] maxLocals = mkF m 0 #[.val (.int p1), .val (.int p2), .val (.long q3), .second, .unset, .unset, .unset, .unset, .unset, .unset, .unset, .unset] [] := by first | (simp [entryFrame, mkF, argsToLocals, Value.category, maxLocals]; done) | rfl
def Q0 (Z : State) (p1 : Int32) (p2 : Int32) (q3 : Int64) (dd : Addr) (s_COMPACT_STRINGS : Int32) (h0 : Heap) (n0 : Nat) (v : Option Value) (h : Heap) (L : List Loc) : Prop := v = some (.int (1 : Int32)) ∧ Fr n0 L
set_option maxRecDepth 65536 in
set_option maxHeartbeats 40000000 in
theorem rm0 (l : Launch) (Z : State) (a0 : Array Value) (hw : ∀ d ∈ tables_1, d.before a0 Z = true) (ws : List Jvm.Cond) (p1 : Int32) (p2 : Int32) (q3 : Int64) (dd : Addr) (s_COMPACT_STRINGS : Int32) (h0 : Heap) (n0 : Nat) (Z0 : n0 ≤ h0.size) (fp0 : Sta Z h0 "java/lang/String" "COMPACT_STRINGS" "Z" (.int s_COMPACT_STRINGS)) (fp1 : Sta Z h0 "java/util/ArrayList" "DEFAULTCAPACITY_EMPTY_ELEMENTDATA" "[Ljava/lang/Object;" (.ref dd)) (fp2 : own_Arl Z h0 dd 0) (hcs : ¬ (s_COMPACT_STRINGS = (0 : Int32))) :
    MetFree l x (head1 (Jvm.Cond.code x code maxLocals ret :: ws) room_1) (fun a U => a = #[(.int p1), (.int p2), (.long q3)] ∧ Z.Warmed39 U.vm ∧ U.heap = h0) (fun _ _ _ _ _ => True) (fun _ U o U' => ∃ v L, o = .returned v ∧ Q0 Z p1 p2 q3 dd s_COMPACT_STRINGS h0 n0 v U'.heap L ∧ FrameEnd U o U' L room_1.cells room_1.slots) := by
  refine MetFree.of_bodySF (plainFor_of_name pn_0) hisR ?_
  intro p e s m args below meth c s₁ Bd hml0 hP hK
  obtain ⟨rfl, hZ, hh⟩ := hP
  have hx := Bd.exec
  have hby := Bd.bytes
  have hml : c.maxLocals = 12 := hml0
  have hown : s.vm.findClass "com/example/brisktest/brisktest/RunSucceededPinLaw" = some m.cls := findClass_of_methodNamed Bd.named
  have hnm := (name_of_methodNamed Bd.named Bd.method).1
  have X0 : Stand p l e room_1 s m #[(.int p1), (.int p2), (.long q3)] below meth c s₁ [] 0 0 := Stand.of_body Bd
  have e0 : s₁.heap = h0 := by rw [← hh, Bd.state]; rfl
  have N0 := Fr.nil n0
  refine own_start (fun t k => castTop (ef_0 m p1 p2 q3) k) ?_
  show own_G p.tables e below _ (s₁.setTop (mkF m 0 #[.val (.int p1), .val (.int p2), .val (.long q3), .second, .unset, .unset, .unset, .unset, .unset, .unset, .unset, .unset] []))
  refine own_step (fun t k => XS.iloadN X0.here hx rfl (hb hby at_0) rfl k) ?_
  show own_G p.tables e below _ (s₁.setTop (mkF m 1 #[.val (.int p1), .val (.int p2), .val (.long q3), .second, .unset, .unset, .unset, .unset, .unset, .unset, .unset, .unset] [(.int p2)]))
  refine own_step (fun t k => XS.iconst X0.here hx rfl (hb hby at_1) k) ?_
  show own_G p.tables e below _ (s₁.setTop (mkF m 2 #[.val (.int p1), .val (.int p2), .val (.long q3), .second, .unset, .unset, .unset, .unset, .unset, .unset, .unset, .unset] [(.int (4 : Int32)), (.int p2)]))
  refine own_step (fun t k => XS.iand X0.here hx rfl (hb hby at_2) rfl k) ?_
  show own_G p.tables e below _ (s₁.setTop (mkF m 3 #[.val (.int p1), .val (.int p2), .val (.long q3), .second, .unset, .unset, .unset, .unset, .unset, .unset, .unset, .unset] [(.int (p2 &&& (4 : Int32)))]))
  refine own_imp (B := s₁.setTop (mkF m 11 #[.val (.int p1), .val (.int p2), .val (.long q3), .second, .unset, .unset, .unset, .unset, .unset, .unset, .unset, .unset] [(.int (if (p2 &&& (4 : Int32)) = (0 : Int32) then p1 else (0 : Int32)))])) (fun k0 => ?_) ?_
  · by_cases hc1 : (p2 &&& (4 : Int32)) = (0 : Int32)
    · simp only [if_pos hc1] at k0
      refine own_step (fun t k => XS.ifYes X0.here hx rfl (pc0 := 3) (pc' := 10) rfl (hb hby at_3) rfl ((if0 _ _).trans (teq hc1).1) (by decide) (by decide) k) ?_
      show own_G p.tables e below _ (s₁.setTop (mkF m 10 #[.val (.int p1), .val (.int p2), .val (.long q3), .second, .unset, .unset, .unset, .unset, .unset, .unset, .unset, .unset] []))
      refine own_step (fun t k => XS.iloadN X0.here hx rfl (hb hby at_10) rfl k) ?_
      show own_G p.tables e below _ (s₁.setTop (mkF m 11 #[.val (.int p1), .val (.int p2), .val (.long q3), .second, .unset, .unset, .unset, .unset, .unset, .unset, .unset, .unset] [(.int p1)]))
      exact k0
    · simp only [if_neg hc1] at k0
      refine own_step (fun t k => XS.ifNo X0.here hx rfl (hb hby at_3) rfl ((if0 _ _).trans (feq hc1).1) k) ?_
      show own_G p.tables e below _ (s₁.setTop (mkF m 6 #[.val (.int p1), .val (.int p2), .val (.long q3), .second, .unset, .unset, .unset, .unset, .unset, .unset, .unset, .unset] []))
      refine own_step (fun t k => XS.iconst X0.here hx rfl (hb hby at_6) k) ?_
      show own_G p.tables e below _ (s₁.setTop (mkF m 7 #[.val (.int p1), .val (.int p2), .val (.long q3), .second, .unset, .unset, .unset, .unset, .unset, .unset, .unset, .unset] [(.int (0 : Int32))]))
      refine own_step (fun t k => XS.goto X0.here hx rfl (pc0 := 7) (pc' := 11) rfl (hb hby at_7) (by decide) (by decide) k) ?_
      show own_G p.tables e below _ (s₁.setTop (mkF m 11 #[.val (.int p1), .val (.int p2), .val (.long q3), .second, .unset, .unset, .unset, .unset, .unset, .unset, .unset, .unset] [(.int (0 : Int32))]))
      exact k0
  show own_G p.tables e below _ (s₁.setTop (mkF m 11 #[.val (.int p1), .val (.int p2), .val (.long q3), .second, .unset, .unset, .unset, .unset, .unset, .unset, .unset, .unset] [(.int (if (p2 &&& (4 : Int32)) = (0 : Int32) then p1 else (0 : Int32)))]))
  refine own_nm ((if (p2 &&& (4 : Int32)) = (0 : Int32) then p1 else (0 : Int32)) : Int32) (fun cd => s₁.setTop (mkF m 11 #[.val (.int p1), .val (.int p2), .val (.long q3), .second, .unset, .unset, .unset, .unset, .unset, .unset, .unset, .unset] [(.int cd)])) ?_
  intro cd hd_cd
  show own_G p.tables e below _ (s₁.setTop (mkF m 11 #[.val (.int p1), .val (.int p2), .val (.long q3), .second, .unset, .unset, .unset, .unset, .unset, .unset, .unset, .unset] [(.int cd)]))
  refine own_step (fun t k => XS.istore X0.here hx rfl (hb hby at_11) rfl (l' := #[.val (.int p1), .val (.int p2), .val (.long q3), .second, .val (.int cd), .unset, .unset, .unset, .unset, .unset, .unset, .unset]) rfl k) ?_
  show own_G p.tables e below _ (s₁.setTop (mkF m 13 #[.val (.int p1), .val (.int p2), .val (.long q3), .second, .val (.int cd), .unset, .unset, .unset, .unset, .unset, .unset, .unset] []))
  refine own_step (fun t k => XS.iloadN X0.here hx rfl (hb hby at_13) rfl k) ?_
  show own_G p.tables e below _ (s₁.setTop (mkF m 14 #[.val (.int p1), .val (.int p2), .val (.long q3), .second, .val (.int cd), .unset, .unset, .unset, .unset, .unset, .unset, .unset] [(.int p2)]))
  refine own_step (fun t k => XS.iconst X0.here hx rfl (hb hby at_14) k) ?_
  show own_G p.tables e below _ (s₁.setTop (mkF m 15 #[.val (.int p1), .val (.int p2), .val (.long q3), .second, .val (.int cd), .unset, .unset, .unset, .unset, .unset, .unset, .unset] [(.int (1 : Int32)), (.int p2)]))
  refine own_step (fun t k => XS.iand X0.here hx rfl (hb hby at_15) rfl k) ?_
  show own_G p.tables e below _ (s₁.setTop (mkF m 16 #[.val (.int p1), .val (.int p2), .val (.long q3), .second, .val (.int cd), .unset, .unset, .unset, .unset, .unset, .unset, .unset] [(.int (p2 &&& (1 : Int32)))]))
  refine own_imp (B := s₁.setTop (mkF m 24 #[.val (.int p1), .val (.int p2), .val (.long q3), .second, .val (.int cd), .unset, .unset, .unset, .unset, .unset, .unset, .unset] [(.int (if (p2 &&& (1 : Int32)) = (0 : Int32) then (0 : Int32) else (1 : Int32)))])) (fun k0 => ?_) ?_
  · by_cases hc2 : (p2 &&& (1 : Int32)) = (0 : Int32)
    · simp only [if_pos hc2] at k0
      refine own_step (fun t k => XS.ifYes X0.here hx rfl (pc0 := 16) (pc' := 23) rfl (hb hby at_16) rfl ((if0 _ _).trans (teq hc2).1) (by decide) (by decide) k) ?_
      show own_G p.tables e below _ (s₁.setTop (mkF m 23 #[.val (.int p1), .val (.int p2), .val (.long q3), .second, .val (.int cd), .unset, .unset, .unset, .unset, .unset, .unset, .unset] []))
      refine own_step (fun t k => XS.iconst X0.here hx rfl (hb hby at_23) k) ?_
      show own_G p.tables e below _ (s₁.setTop (mkF m 24 #[.val (.int p1), .val (.int p2), .val (.long q3), .second, .val (.int cd), .unset, .unset, .unset, .unset, .unset, .unset, .unset] [(.int (0 : Int32))]))
      exact k0
    · simp only [if_neg hc2] at k0
      refine own_step (fun t k => XS.ifNo X0.here hx rfl (hb hby at_16) rfl ((if0 _ _).trans (feq hc2).1) k) ?_
      show own_G p.tables e below _ (s₁.setTop (mkF m 19 #[.val (.int p1), .val (.int p2), .val (.long q3), .second, .val (.int cd), .unset, .unset, .unset, .unset, .unset, .unset, .unset] []))
      refine own_step (fun t k => XS.iconst X0.here hx rfl (hb hby at_19) k) ?_
      show own_G p.tables e below _ (s₁.setTop (mkF m 20 #[.val (.int p1), .val (.int p2), .val (.long q3), .second, .val (.int cd), .unset, .unset, .unset, .unset, .unset, .unset, .unset] [(.int (1 : Int32))]))
      refine own_step (fun t k => XS.goto X0.here hx rfl (pc0 := 20) (pc' := 24) rfl (hb hby at_20) (by decide) (by decide) k) ?_
      show own_G p.tables e below _ (s₁.setTop (mkF m 24 #[.val (.int p1), .val (.int p2), .val (.long q3), .second, .val (.int cd), .unset, .unset, .unset, .unset, .unset, .unset, .unset] [(.int (1 : Int32))]))
      exact k0
  show own_G p.tables e below _ (s₁.setTop (mkF m 24 #[.val (.int p1), .val (.int p2), .val (.long q3), .second, .val (.int cd), .unset, .unset, .unset, .unset, .unset, .unset, .unset] [(.int (if (p2 &&& (1 : Int32)) = (0 : Int32) then (0 : Int32) else (1 : Int32)))]))
  refine own_nm ((if (p2 &&& (1 : Int32)) = (0 : Int32) then (0 : Int32) else (1 : Int32)) : Int32) (fun to => s₁.setTop (mkF m 24 #[.val (.int p1), .val (.int p2), .val (.long q3), .second, .val (.int cd), .unset, .unset, .unset, .unset, .unset, .unset, .unset] [(.int to)])) ?_
  intro to hd_to
  show own_G p.tables e below _ (s₁.setTop (mkF m 24 #[.val (.int p1), .val (.int p2), .val (.long q3), .second, .val (.int cd), .unset, .unset, .unset, .unset, .unset, .unset, .unset] [(.int to)]))
  refine own_step (fun t k => XS.istore X0.here hx rfl (hb hby at_24) rfl (l' := #[.val (.int p1), .val (.int p2), .val (.long q3), .second, .val (.int cd), .val (.int to), .unset, .unset, .unset, .unset, .unset, .unset]) rfl k) ?_
  show own_G p.tables e below _ (s₁.setTop (mkF m 26 #[.val (.int p1), .val (.int p2), .val (.long q3), .second, .val (.int cd), .val (.int to), .unset, .unset, .unset, .unset, .unset, .unset] []))
  refine own_step (fun t k => XS.iloadN X0.here hx rfl (hb hby at_26) rfl k) ?_
  show own_G p.tables e below _ (s₁.setTop (mkF m 27 #[.val (.int p1), .val (.int p2), .val (.long q3), .second, .val (.int cd), .val (.int to), .unset, .unset, .unset, .unset, .unset, .unset] [(.int p2)]))
  refine own_step (fun t k => XS.iconst X0.here hx rfl (hb hby at_27) k) ?_
  show own_G p.tables e below _ (s₁.setTop (mkF m 28 #[.val (.int p1), .val (.int p2), .val (.long q3), .second, .val (.int cd), .val (.int to), .unset, .unset, .unset, .unset, .unset, .unset] [(.int (2 : Int32)), (.int p2)]))
  refine own_step (fun t k => XS.iand X0.here hx rfl (hb hby at_28) rfl k) ?_
  show own_G p.tables e below _ (s₁.setTop (mkF m 29 #[.val (.int p1), .val (.int p2), .val (.long q3), .second, .val (.int cd), .val (.int to), .unset, .unset, .unset, .unset, .unset, .unset] [(.int (p2 &&& (2 : Int32)))]))
  refine own_imp (B := s₁.setTop (mkF m 37 #[.val (.int p1), .val (.int p2), .val (.long q3), .second, .val (.int cd), .val (.int to), .unset, .unset, .unset, .unset, .unset, .unset] [(.int (if (p2 &&& (2 : Int32)) = (0 : Int32) then (0 : Int32) else (1 : Int32)))])) (fun k0 => ?_) ?_
  · by_cases hc3 : (p2 &&& (2 : Int32)) = (0 : Int32)
    · simp only [if_pos hc3] at k0
      refine own_step (fun t k => XS.ifYes X0.here hx rfl (pc0 := 29) (pc' := 36) rfl (hb hby at_29) rfl ((if0 _ _).trans (teq hc3).1) (by decide) (by decide) k) ?_
      show own_G p.tables e below _ (s₁.setTop (mkF m 36 #[.val (.int p1), .val (.int p2), .val (.long q3), .second, .val (.int cd), .val (.int to), .unset, .unset, .unset, .unset, .unset, .unset] []))
      refine own_step (fun t k => XS.iconst X0.here hx rfl (hb hby at_36) k) ?_
      show own_G p.tables e below _ (s₁.setTop (mkF m 37 #[.val (.int p1), .val (.int p2), .val (.long q3), .second, .val (.int cd), .val (.int to), .unset, .unset, .unset, .unset, .unset, .unset] [(.int (0 : Int32))]))
      exact k0
    · simp only [if_neg hc3] at k0
      refine own_step (fun t k => XS.ifNo X0.here hx rfl (hb hby at_29) rfl ((if0 _ _).trans (feq hc3).1) k) ?_
      show own_G p.tables e below _ (s₁.setTop (mkF m 32 #[.val (.int p1), .val (.int p2), .val (.long q3), .second, .val (.int cd), .val (.int to), .unset, .unset, .unset, .unset, .unset, .unset] []))
      refine own_step (fun t k => XS.iconst X0.here hx rfl (hb hby at_32) k) ?_
      show own_G p.tables e below _ (s₁.setTop (mkF m 33 #[.val (.int p1), .val (.int p2), .val (.long q3), .second, .val (.int cd), .val (.int to), .unset, .unset, .unset, .unset, .unset, .unset] [(.int (1 : Int32))]))
      refine own_step (fun t k => XS.goto X0.here hx rfl (pc0 := 33) (pc' := 37) rfl (hb hby at_33) (by decide) (by decide) k) ?_
      show own_G p.tables e below _ (s₁.setTop (mkF m 37 #[.val (.int p1), .val (.int p2), .val (.long q3), .second, .val (.int cd), .val (.int to), .unset, .unset, .unset, .unset, .unset, .unset] [(.int (1 : Int32))]))
      exact k0
  show own_G p.tables e below _ (s₁.setTop (mkF m 37 #[.val (.int p1), .val (.int p2), .val (.long q3), .second, .val (.int cd), .val (.int to), .unset, .unset, .unset, .unset, .unset, .unset] [(.int (if (p2 &&& (2 : Int32)) = (0 : Int32) then (0 : Int32) else (1 : Int32)))]))
  refine own_nm ((if (p2 &&& (2 : Int32)) = (0 : Int32) then (0 : Int32) else (1 : Int32)) : Int32) (fun wl => s₁.setTop (mkF m 37 #[.val (.int p1), .val (.int p2), .val (.long q3), .second, .val (.int cd), .val (.int to), .unset, .unset, .unset, .unset, .unset, .unset] [(.int wl)])) ?_
  intro wl hd_wl
  show own_G p.tables e below _ (s₁.setTop (mkF m 37 #[.val (.int p1), .val (.int p2), .val (.long q3), .second, .val (.int cd), .val (.int to), .unset, .unset, .unset, .unset, .unset, .unset] [(.int wl)]))
  refine own_step (fun t k => XS.istore X0.here hx rfl (hb hby at_37) rfl (l' := #[.val (.int p1), .val (.int p2), .val (.long q3), .second, .val (.int cd), .val (.int to), .val (.int wl), .unset, .unset, .unset, .unset, .unset]) rfl k) ?_
  show own_G p.tables e below _ (s₁.setTop (mkF m 39 #[.val (.int p1), .val (.int p2), .val (.long q3), .second, .val (.int cd), .val (.int to), .val (.int wl), .unset, .unset, .unset, .unset, .unset] []))
  obtain ⟨T4, h4, X4, e4, E4, A4, D4, -, st4⟩ := newO X0 hx hZ hown (hw _ (List.mem_of_getElem? (i := 0) rfl)) (hw _ (List.mem_of_getElem? (i := 1) rfl)) (hw _ (List.mem_of_getElem? (i := 2) rfl)) e0 (g := (mkF m 39 #[.val (.int p1), .val (.int p2), .val (.long q3), .second, .val (.int cd), .val (.int to), .val (.int wl), .unset, .unset, .unset, .unset, .unset] [])) rfl (hb hby at_39) (by decide) (by decide)
  obtain ⟨b4, g4⟩ : ∃ z, z = h0.size := ⟨_, rfl⟩
  have ne5 : dd ≠ b4 := Nat.ne_of_lt (Nat.lt_of_lt_of_le fp2.lt (Nat.le_of_eq g4.symm))
  have sz4 : h0.size ≤ b4 := Nat.le_trans (Keep.refl h0 []).1 (Nat.le_of_eq g4.symm)
  have ge4 : n0 ≤ b4 := Nat.le_trans Z0 sz4
  have c6 : Sta Z h4 "java/lang/String" "COMPACT_STRINGS" "Z" (.int s_COMPACT_STRINGS) := fp0.ext E4
  have c7 : Sta Z h4 "java/util/ArrayList" "DEFAULTCAPACITY_EMPTY_ELEMENTDATA" "[Ljava/lang/Object;" (.ref dd) := fp1.ext E4
  have c8 : own_Arl Z h4 dd 0 := fp2.ext E4
  have K4 : Keep h0 h4 [] := (Keep.refl h0 []).ext E4
  rw [← g4] at A4 D4 st4
  have c9 : Fld Z h4 b4 "java/util/AbstractList" "modCount" "I" (.int (0 : Int32)) := D4 (Or.inl (hw _ (List.mem_of_getElem? (i := 22) rfl))) (ty := .int) (by decide)
  have c10 : Fld Z h4 b4 "java/util/ArrayList" "elementData" "[Ljava/lang/Object;" .null := D4 (Or.inl (hw _ (List.mem_of_getElem? (i := 25) rfl))) (ty := (.array (.object "java/lang/Object"))) (by decide)
  have c11 : Fld Z h4 b4 "java/util/ArrayList" "size" "I" (.int (0 : Int32)) := D4 (Or.inl (hw _ (List.mem_of_getElem? (i := 58) rfl))) (ty := .int) (by decide)
  refine own_step st4 ?_
  show own_G p.tables e below _ (T4.setTop (mkF m 42 #[.val (.int p1), .val (.int p2), .val (.long q3), .second, .val (.int cd), .val (.int to), .val (.int wl), .unset, .unset, .unset, .unset, .unset] [(.ref b4)]))
  refine own_step (fun t k => XS.dup X4.here hx rfl (hb hby at_42) rfl rfl k) ?_
  show own_G p.tables e below _ (T4.setTop (mkF m 43 #[.val (.int p1), .val (.int p2), .val (.long q3), .second, .val (.int cd), .val (.int to), .val (.int wl), .unset, .unset, .unset, .unset, .unset] [(.ref b4), (.ref b4)]))
  obtain ⟨_, _, ⟨T12, L12, k12, n12⟩, -, X12, ⟨Lc12, hQ12, l12, y12, z12⟩, st12⟩ := X4.specialBack hx (y := (⟨"java/util/ArrayList", "<init>", "()V"⟩ : MethodName)) rfl hown (mvT hZ (hw _ (List.mem_of_getElem? (i := 3) rfl))) (mvT hZ (hw _ (List.mem_of_getElem? (i := 4) rfl))) (mvT hZ (hw _ (List.mem_of_getElem? (i := 5) rfl))) (by decide) (backOf (W := 1) (rm1 l Z a0 hw [] b4 dd (.int (0 : Int32)) .null (.int (0 : Int32)) h4 n0 (Nat.le_trans Z0 K4.1) c7 A4 c9 c10 c11 ge4) hZ (hw _ (List.mem_of_getElem? (i := 5) rfl)) (hw _ (List.mem_of_getElem? (i := 2) rfl)) (by decide) (by decide)) (g := (mkF m 43 #[.val (.int p1), .val (.int p2), .val (.long q3), .second, .val (.int cd), .val (.int to), .val (.int wl), .unset, .unset, .unset, .unset, .unset] [(.ref b4), (.ref b4)])) rfl (by rw [hml]; rfl) (Steps.refl _) (a := b4) (argsL := []) (rest := [(.ref b4)]) (lenOf pd_0_0 rfl) rfl (by show 2 * 0 + _ ≤ _; exact Nat.le_of_eq rfl) (hb hby at_43) (fun _ _ => ⟨rfl, e4, (by decide : 1 + 0 ≤ _), (by decide : 3 + 0 ≤ _)⟩)
  dsimp only [Pt.U, Pt.locs, Pt.cells, Pt.slots] at X12 l12 y12 z12 st12 hQ12
  subst y12 z12
  obtain ⟨rfl, N12q, K12q, w12_0, w12_1, w12_2⟩ := hQ12
  have c13 : Sta Z T12.heap "java/lang/String" "COMPACT_STRINGS" "Z" (.int s_COMPACT_STRINGS) := own_staKeep c6 K12q (allS (own_nsE A4) all0)
  have c14 : Sta Z T12.heap "java/util/ArrayList" "DEFAULTCAPACITY_EMPTY_ELEMENTDATA" "[Ljava/lang/Object;" (.ref dd) := own_staKeep c7 K12q (allS (own_nsE A4) all0)
  have c15 : own_Arl Z T12.heap dd 0 := c8.keep K12q (ninS ne5 nin0)
  have c16 : Exa Z T12.heap b4 "java/util/ArrayList" := A4.keep K12q
  have K12 : Keep h0 T12.heap [] := K4.trans K12q (allS (Or.inr sz4) all0)
  have N12 : Fr n0 L12 := by rw [l12]; exact Fr.app N0 N12q
  refine own_step (fun t k => st12.trans k) ?_
  clear A4 D4 E4 K12q K4 N12q X4 c10 c11 c6 c7 c8 c9 e4 g4 st12 st4
  show own_G p.tables e below _ (T12.setTop (mkF m 46 #[.val (.int p1), .val (.int p2), .val (.long q3), .second, .val (.int cd), .val (.int to), .val (.int wl), .unset, .unset, .unset, .unset, .unset] [(.ref b4)]))
  refine own_step (fun t k => XS.astore X12.here hx rfl (hb hby at_46) rfl rfl (l' := #[.val (.int p1), .val (.int p2), .val (.long q3), .second, .val (.int cd), .val (.int to), .val (.int wl), .val (.ref b4), .unset, .unset, .unset, .unset]) rfl k) ?_
  show own_G p.tables e below _ (T12.setTop (mkF m 48 #[.val (.int p1), .val (.int p2), .val (.long q3), .second, .val (.int cd), .val (.int to), .val (.int wl), .val (.ref b4), .unset, .unset, .unset, .unset] []))
  obtain ⟨T20, h20, X20, e20, E20, A20, D20, -, st20⟩ := newO X12 hx hZ hown (hw _ (List.mem_of_getElem? (i := 0) rfl)) (hw _ (List.mem_of_getElem? (i := 1) rfl)) (hw _ (List.mem_of_getElem? (i := 2) rfl)) rfl (g := (mkF m 48 #[.val (.int p1), .val (.int p2), .val (.long q3), .second, .val (.int cd), .val (.int to), .val (.int wl), .val (.ref b4), .unset, .unset, .unset, .unset] [])) rfl (hb hby at_48) (by decide) (by decide)
  obtain ⟨b20, g20⟩ : ∃ z, z = T12.heap.size := ⟨_, rfl⟩
  have ne21 : dd ≠ b20 := Nat.ne_of_lt (Nat.lt_of_lt_of_le c15.lt (Nat.le_of_eq g20.symm))
  have ne22 : b4 ≠ b20 := Nat.ne_of_lt (Nat.lt_of_lt_of_le c16.lt (Nat.le_of_eq g20.symm))
  have sz20 : h0.size ≤ b20 := Nat.le_trans K12.1 (Nat.le_of_eq g20.symm)
  have ge20 : n0 ≤ b20 := Nat.le_trans Z0 sz20
  have c23 : Sta Z h20 "java/lang/String" "COMPACT_STRINGS" "Z" (.int s_COMPACT_STRINGS) := c13.ext E20
  have c24 : Sta Z h20 "java/util/ArrayList" "DEFAULTCAPACITY_EMPTY_ELEMENTDATA" "[Ljava/lang/Object;" (.ref dd) := c14.ext E20
  have c25 : own_Arl Z h20 dd 0 := c15.ext E20
  have c26 : Exa Z h20 b4 "java/util/ArrayList" := c16.ext E20
  have c27 : Fld Z h20 b4 "java/util/AbstractList" "modCount" "I" (.int (0 : Int32)) := w12_0.ext E20
  have c28 : Fld Z h20 b4 "java/util/ArrayList" "elementData" "[Ljava/lang/Object;" (.ref dd) := w12_1.ext E20
  have c29 : Fld Z h20 b4 "java/util/ArrayList" "size" "I" (.int (0 : Int32)) := w12_2.ext E20
  have K20 : Keep h0 h20 [] := K12.ext E20
  rw [← g20] at A20 D20 st20
  have c30 : Fld Z h20 b20 "java/util/AbstractList" "modCount" "I" (.int (0 : Int32)) := D20 (Or.inl (hw _ (List.mem_of_getElem? (i := 22) rfl))) (ty := .int) (by decide)
  have c31 : Fld Z h20 b20 "java/util/ArrayList" "elementData" "[Ljava/lang/Object;" .null := D20 (Or.inl (hw _ (List.mem_of_getElem? (i := 25) rfl))) (ty := (.array (.object "java/lang/Object"))) (by decide)
  have c32 : Fld Z h20 b20 "java/util/ArrayList" "size" "I" (.int (0 : Int32)) := D20 (Or.inl (hw _ (List.mem_of_getElem? (i := 58) rfl))) (ty := .int) (by decide)
  refine own_step st20 ?_
  clear D20 E20 K12 X12 c13 c14 c15 c16 g20 st20 w12_0 w12_1 w12_2
  show own_G p.tables e below _ (T20.setTop (mkF m 51 #[.val (.int p1), .val (.int p2), .val (.long q3), .second, .val (.int cd), .val (.int to), .val (.int wl), .val (.ref b4), .unset, .unset, .unset, .unset] [(.ref b20)]))
  refine own_step (fun t k => XS.dup X20.here hx rfl (hb hby at_51) rfl rfl k) ?_
  show own_G p.tables e below _ (T20.setTop (mkF m 52 #[.val (.int p1), .val (.int p2), .val (.long q3), .second, .val (.int cd), .val (.int to), .val (.int wl), .val (.ref b4), .unset, .unset, .unset, .unset] [(.ref b20), (.ref b20)]))
  obtain ⟨_, _, ⟨T33, L33, k33, n33⟩, -, X33, ⟨Lc33, hQ33, l33, y33, z33⟩, st33⟩ := X20.specialBack hx (y := (⟨"java/util/ArrayList", "<init>", "()V"⟩ : MethodName)) rfl hown (mvT hZ (hw _ (List.mem_of_getElem? (i := 3) rfl))) (mvT hZ (hw _ (List.mem_of_getElem? (i := 4) rfl))) (mvT hZ (hw _ (List.mem_of_getElem? (i := 5) rfl))) (by decide) (backOf (W := 1) (rm1 l Z a0 hw [] b20 dd (.int (0 : Int32)) .null (.int (0 : Int32)) h20 n0 (Nat.le_trans Z0 K20.1) c24 A20 c30 c31 c32 ge20) hZ (hw _ (List.mem_of_getElem? (i := 5) rfl)) (hw _ (List.mem_of_getElem? (i := 2) rfl)) (by decide) (by decide)) (g := (mkF m 52 #[.val (.int p1), .val (.int p2), .val (.long q3), .second, .val (.int cd), .val (.int to), .val (.int wl), .val (.ref b4), .unset, .unset, .unset, .unset] [(.ref b20), (.ref b20)])) rfl (by rw [hml]; rfl) (Steps.refl _) (a := b20) (argsL := []) (rest := [(.ref b20)]) (lenOf pd_0_0 rfl) rfl (by show 2 * 0 + _ ≤ _; exact Nat.le_of_eq rfl) (hb hby at_52) (fun _ _ => ⟨rfl, e20, (by decide : 2 + 0 ≤ _), (by decide : 6 + 0 ≤ _)⟩)
  dsimp only [Pt.U, Pt.locs, Pt.cells, Pt.slots] at X33 l33 y33 z33 st33 hQ33
  subst y33 z33
  obtain ⟨rfl, N33q, K33q, w33_0, w33_1, w33_2⟩ := hQ33
  have c34 : Sta Z T33.heap "java/lang/String" "COMPACT_STRINGS" "Z" (.int s_COMPACT_STRINGS) := own_staKeep c23 K33q (allS (own_nsE A20) all0)
  have c35 : Sta Z T33.heap "java/util/ArrayList" "DEFAULTCAPACITY_EMPTY_ELEMENTDATA" "[Ljava/lang/Object;" (.ref dd) := own_staKeep c24 K33q (allS (own_nsE A20) all0)
  have c36 : own_Arl Z T33.heap dd 0 := c25.keep K33q (ninS ne21 nin0)
  have c37 : Exa Z T33.heap b4 "java/util/ArrayList" := c26.keep K33q
  have c38 : Fld Z T33.heap b4 "java/util/AbstractList" "modCount" "I" (.int (0 : Int32)) := c27.keep K33q (ninS ne22 nin0)
  have c39 : Fld Z T33.heap b4 "java/util/ArrayList" "elementData" "[Ljava/lang/Object;" (.ref dd) := c28.keep K33q (ninS ne22 nin0)
  have c40 : Fld Z T33.heap b4 "java/util/ArrayList" "size" "I" (.int (0 : Int32)) := c29.keep K33q (ninS ne22 nin0)
  have c41 : Exa Z T33.heap b20 "java/util/ArrayList" := A20.keep K33q
  have K33 : Keep h0 T33.heap [] := K20.trans K33q (allS (Or.inr sz20) all0)
  have N33 : Fr n0 L33 := by rw [l33]; exact Fr.app N12 N33q
  refine own_step (fun t k => st33.trans k) ?_
  clear A20 K20 K33q N12 N33q X20 c23 c24 c25 c26 c27 c28 c29 c30 c31 c32 e20 st33
  show own_G p.tables e below _ (T33.setTop (mkF m 55 #[.val (.int p1), .val (.int p2), .val (.long q3), .second, .val (.int cd), .val (.int to), .val (.int wl), .val (.ref b4), .unset, .unset, .unset, .unset] [(.ref b20)]))
  refine own_step (fun t k => XS.astore X33.here hx rfl (hb hby at_55) rfl rfl (l' := #[.val (.int p1), .val (.int p2), .val (.long q3), .second, .val (.int cd), .val (.int to), .val (.int wl), .val (.ref b4), .val (.ref b20), .unset, .unset, .unset]) rfl k) ?_
  show own_G p.tables e below _ (T33.setTop (mkF m 57 #[.val (.int p1), .val (.int p2), .val (.long q3), .second, .val (.int cd), .val (.int to), .val (.int wl), .val (.ref b4), .val (.ref b20), .unset, .unset, .unset] []))
  obtain ⟨T45, h45, X45, e45, E45, A45, D45, -, st45⟩ := newO X33 hx hZ hown (hw _ (List.mem_of_getElem? (i := 0) rfl)) (hw _ (List.mem_of_getElem? (i := 1) rfl)) (hw _ (List.mem_of_getElem? (i := 2) rfl)) rfl (g := (mkF m 57 #[.val (.int p1), .val (.int p2), .val (.long q3), .second, .val (.int cd), .val (.int to), .val (.int wl), .val (.ref b4), .val (.ref b20), .unset, .unset, .unset] [])) rfl (hb hby at_57) (by decide) (by decide)
  obtain ⟨b45, g45⟩ : ∃ z, z = T33.heap.size := ⟨_, rfl⟩
  have ne46 : dd ≠ b45 := Nat.ne_of_lt (Nat.lt_of_lt_of_le c36.lt (Nat.le_of_eq g45.symm))
  have ne47 : b4 ≠ b45 := Nat.ne_of_lt (Nat.lt_of_lt_of_le c37.lt (Nat.le_of_eq g45.symm))
  have ne48 : b20 ≠ b45 := Nat.ne_of_lt (Nat.lt_of_lt_of_le c41.lt (Nat.le_of_eq g45.symm))
  have sz45 : h0.size ≤ b45 := Nat.le_trans K33.1 (Nat.le_of_eq g45.symm)
  have ge45 : n0 ≤ b45 := Nat.le_trans Z0 sz45
  have c49 : Sta Z h45 "java/lang/String" "COMPACT_STRINGS" "Z" (.int s_COMPACT_STRINGS) := c34.ext E45
  have c50 : Sta Z h45 "java/util/ArrayList" "DEFAULTCAPACITY_EMPTY_ELEMENTDATA" "[Ljava/lang/Object;" (.ref dd) := c35.ext E45
  have c51 : own_Arl Z h45 dd 0 := c36.ext E45
  have c52 : Exa Z h45 b4 "java/util/ArrayList" := c37.ext E45
  have c53 : Fld Z h45 b4 "java/util/AbstractList" "modCount" "I" (.int (0 : Int32)) := c38.ext E45
  have c54 : Fld Z h45 b4 "java/util/ArrayList" "elementData" "[Ljava/lang/Object;" (.ref dd) := c39.ext E45
  have c55 : Fld Z h45 b4 "java/util/ArrayList" "size" "I" (.int (0 : Int32)) := c40.ext E45
  have c56 : Exa Z h45 b20 "java/util/ArrayList" := c41.ext E45
  have c57 : Fld Z h45 b20 "java/util/AbstractList" "modCount" "I" (.int (0 : Int32)) := w33_0.ext E45
  have c58 : Fld Z h45 b20 "java/util/ArrayList" "elementData" "[Ljava/lang/Object;" (.ref dd) := w33_1.ext E45
  have c59 : Fld Z h45 b20 "java/util/ArrayList" "size" "I" (.int (0 : Int32)) := w33_2.ext E45
  have K45 : Keep h0 h45 [] := K33.ext E45
  rw [← g45] at A45 D45 st45
  have c60 : Fld Z h45 b45 "java/util/AbstractList" "modCount" "I" (.int (0 : Int32)) := D45 (Or.inl (hw _ (List.mem_of_getElem? (i := 22) rfl))) (ty := .int) (by decide)
  have c61 : Fld Z h45 b45 "java/util/ArrayList" "elementData" "[Ljava/lang/Object;" .null := D45 (Or.inl (hw _ (List.mem_of_getElem? (i := 25) rfl))) (ty := (.array (.object "java/lang/Object"))) (by decide)
  have c62 : Fld Z h45 b45 "java/util/ArrayList" "size" "I" (.int (0 : Int32)) := D45 (Or.inl (hw _ (List.mem_of_getElem? (i := 58) rfl))) (ty := .int) (by decide)
  refine own_step st45 ?_
  clear D45 E45 K33 X33 c34 c35 c36 c37 c38 c39 c40 c41 g45 st45 w33_0 w33_1 w33_2
  show own_G p.tables e below _ (T45.setTop (mkF m 60 #[.val (.int p1), .val (.int p2), .val (.long q3), .second, .val (.int cd), .val (.int to), .val (.int wl), .val (.ref b4), .val (.ref b20), .unset, .unset, .unset] [(.ref b45)]))
  refine own_step (fun t k => XS.dup X45.here hx rfl (hb hby at_60) rfl rfl k) ?_
  show own_G p.tables e below _ (T45.setTop (mkF m 61 #[.val (.int p1), .val (.int p2), .val (.long q3), .second, .val (.int cd), .val (.int to), .val (.int wl), .val (.ref b4), .val (.ref b20), .unset, .unset, .unset] [(.ref b45), (.ref b45)]))
  obtain ⟨_, _, ⟨T63, L63, k63, n63⟩, -, X63, ⟨Lc63, hQ63, l63, y63, z63⟩, st63⟩ := X45.specialBack hx (y := (⟨"java/util/ArrayList", "<init>", "()V"⟩ : MethodName)) rfl hown (mvT hZ (hw _ (List.mem_of_getElem? (i := 3) rfl))) (mvT hZ (hw _ (List.mem_of_getElem? (i := 4) rfl))) (mvT hZ (hw _ (List.mem_of_getElem? (i := 5) rfl))) (by decide) (backOf (W := 1) (rm1 l Z a0 hw [] b45 dd (.int (0 : Int32)) .null (.int (0 : Int32)) h45 n0 (Nat.le_trans Z0 K45.1) c50 A45 c60 c61 c62 ge45) hZ (hw _ (List.mem_of_getElem? (i := 5) rfl)) (hw _ (List.mem_of_getElem? (i := 2) rfl)) (by decide) (by decide)) (g := (mkF m 61 #[.val (.int p1), .val (.int p2), .val (.long q3), .second, .val (.int cd), .val (.int to), .val (.int wl), .val (.ref b4), .val (.ref b20), .unset, .unset, .unset] [(.ref b45), (.ref b45)])) rfl (by rw [hml]; rfl) (Steps.refl _) (a := b45) (argsL := []) (rest := [(.ref b45)]) (lenOf pd_0_0 rfl) rfl (by show 2 * 0 + _ ≤ _; exact Nat.le_of_eq rfl) (hb hby at_61) (fun _ _ => ⟨rfl, e45, (by decide : 3 + 0 ≤ _), (by decide : 9 + 0 ≤ _)⟩)
  dsimp only [Pt.U, Pt.locs, Pt.cells, Pt.slots] at X63 l63 y63 z63 st63 hQ63
  subst y63 z63
  obtain ⟨rfl, N63q, K63q, w63_0, w63_1, w63_2⟩ := hQ63
  have c64 : Sta Z T63.heap "java/lang/String" "COMPACT_STRINGS" "Z" (.int s_COMPACT_STRINGS) := own_staKeep c49 K63q (allS (own_nsE A45) all0)
  have c65 : Sta Z T63.heap "java/util/ArrayList" "DEFAULTCAPACITY_EMPTY_ELEMENTDATA" "[Ljava/lang/Object;" (.ref dd) := own_staKeep c50 K63q (allS (own_nsE A45) all0)
  have c66 : own_Arl Z T63.heap dd 0 := c51.keep K63q (ninS ne46 nin0)
  have c67 : Exa Z T63.heap b4 "java/util/ArrayList" := c52.keep K63q
  have c68 : Fld Z T63.heap b4 "java/util/AbstractList" "modCount" "I" (.int (0 : Int32)) := c53.keep K63q (ninS ne47 nin0)
  have c69 : Fld Z T63.heap b4 "java/util/ArrayList" "elementData" "[Ljava/lang/Object;" (.ref dd) := c54.keep K63q (ninS ne47 nin0)
  have c70 : Fld Z T63.heap b4 "java/util/ArrayList" "size" "I" (.int (0 : Int32)) := c55.keep K63q (ninS ne47 nin0)
  have c71 : Exa Z T63.heap b20 "java/util/ArrayList" := c56.keep K63q
  have c72 : Fld Z T63.heap b20 "java/util/AbstractList" "modCount" "I" (.int (0 : Int32)) := c57.keep K63q (ninS ne48 nin0)
  have c73 : Fld Z T63.heap b20 "java/util/ArrayList" "elementData" "[Ljava/lang/Object;" (.ref dd) := c58.keep K63q (ninS ne48 nin0)
  have c74 : Fld Z T63.heap b20 "java/util/ArrayList" "size" "I" (.int (0 : Int32)) := c59.keep K63q (ninS ne48 nin0)
  have c75 : Exa Z T63.heap b45 "java/util/ArrayList" := A45.keep K63q
  have K63 : Keep h0 T63.heap [] := K45.trans K63q (allS (Or.inr sz45) all0)
  have N63 : Fr n0 L63 := by rw [l63]; exact Fr.app N33 N63q
  refine own_step (fun t k => st63.trans k) ?_
  clear A45 K45 K63q N33 N63q X45 c49 c50 c51 c52 c53 c54 c55 c56 c57 c58 c59 c60 c61 c62 e45 st63
  show own_G p.tables e below _ (T63.setTop (mkF m 64 #[.val (.int p1), .val (.int p2), .val (.long q3), .second, .val (.int cd), .val (.int to), .val (.int wl), .val (.ref b4), .val (.ref b20), .unset, .unset, .unset] [(.ref b45)]))
  refine own_step (fun t k => XS.astore X63.here hx rfl (hb hby at_64) rfl rfl (l' := #[.val (.int p1), .val (.int p2), .val (.long q3), .second, .val (.int cd), .val (.int to), .val (.int wl), .val (.ref b4), .val (.ref b20), .val (.ref b45), .unset, .unset]) rfl k) ?_
  show own_G p.tables e below _ (T63.setTop (mkF m 66 #[.val (.int p1), .val (.int p2), .val (.long q3), .second, .val (.int cd), .val (.int to), .val (.int wl), .val (.ref b4), .val (.ref b20), .val (.ref b45), .unset, .unset] []))
  refine own_step (fun t k => XS.iload X63.here hx rfl (hb hby at_66) rfl k) ?_
  show own_G p.tables e below _ (T63.setTop (mkF m 68 #[.val (.int p1), .val (.int p2), .val (.long q3), .second, .val (.int cd), .val (.int to), .val (.int wl), .val (.ref b4), .val (.ref b20), .val (.ref b45), .unset, .unset] [(.int wl)]))
  by_cases hc79 : wl = (0 : Int32)
  · skip
    refine own_step (fun t k => XS.ifYes X63.here hx rfl (pc0 := 68) (pc' := 104) rfl (hb hby at_68) rfl ((if0 _ _).trans (teq hc79).1) (by decide) (by decide) k) ?_
    show own_G p.tables e below _ (T63.setTop (mkF m 104 #[.val (.int p1), .val (.int p2), .val (.long q3), .second, .val (.int cd), .val (.int to), .val (.int wl), .val (.ref b4), .val (.ref b20), .val (.ref b45), .unset, .unset] []))
    obtain ⟨T80, h80, X80, e80, E80, A80, D80, -, st80⟩ := newO X63 hx hZ hown (hw _ (List.mem_of_getElem? (i := 81) rfl)) (hw _ (List.mem_of_getElem? (i := 82) rfl)) (hw _ (List.mem_of_getElem? (i := 83) rfl)) rfl (g := (mkF m 104 #[.val (.int p1), .val (.int p2), .val (.long q3), .second, .val (.int cd), .val (.int to), .val (.int wl), .val (.ref b4), .val (.ref b20), .val (.ref b45), .unset, .unset] [])) rfl (hb hby at_104) (by decide) (by decide)
    obtain ⟨b80, g80⟩ : ∃ z, z = T63.heap.size := ⟨_, rfl⟩
    have ne81 : dd ≠ b80 := Nat.ne_of_lt (Nat.lt_of_lt_of_le c66.lt (Nat.le_of_eq g80.symm))
    have ne82 : b4 ≠ b80 := Nat.ne_of_lt (Nat.lt_of_lt_of_le c67.lt (Nat.le_of_eq g80.symm))
    have ne83 : b20 ≠ b80 := Nat.ne_of_lt (Nat.lt_of_lt_of_le c71.lt (Nat.le_of_eq g80.symm))
    have ne84 : b45 ≠ b80 := Nat.ne_of_lt (Nat.lt_of_lt_of_le c75.lt (Nat.le_of_eq g80.symm))
    have sz80 : h0.size ≤ b80 := Nat.le_trans K63.1 (Nat.le_of_eq g80.symm)
    have ge80 : n0 ≤ b80 := Nat.le_trans Z0 sz80
    have c85 : Sta Z h80 "java/lang/String" "COMPACT_STRINGS" "Z" (.int s_COMPACT_STRINGS) := c64.ext E80
    have c86 : Sta Z h80 "java/util/ArrayList" "DEFAULTCAPACITY_EMPTY_ELEMENTDATA" "[Ljava/lang/Object;" (.ref dd) := c65.ext E80
    have c87 : own_Arl Z h80 dd 0 := c66.ext E80
    have c88 : Exa Z h80 b4 "java/util/ArrayList" := c67.ext E80
    have c89 : Fld Z h80 b4 "java/util/AbstractList" "modCount" "I" (.int (0 : Int32)) := c68.ext E80
    have c90 : Fld Z h80 b4 "java/util/ArrayList" "elementData" "[Ljava/lang/Object;" (.ref dd) := c69.ext E80
    have c91 : Fld Z h80 b4 "java/util/ArrayList" "size" "I" (.int (0 : Int32)) := c70.ext E80
    have c92 : Exa Z h80 b20 "java/util/ArrayList" := c71.ext E80
    have c93 : Fld Z h80 b20 "java/util/AbstractList" "modCount" "I" (.int (0 : Int32)) := c72.ext E80
    have c94 : Fld Z h80 b20 "java/util/ArrayList" "elementData" "[Ljava/lang/Object;" (.ref dd) := c73.ext E80
    have c95 : Fld Z h80 b20 "java/util/ArrayList" "size" "I" (.int (0 : Int32)) := c74.ext E80
    have c96 : Exa Z h80 b45 "java/util/ArrayList" := c75.ext E80
    have c97 : Fld Z h80 b45 "java/util/AbstractList" "modCount" "I" (.int (0 : Int32)) := w63_0.ext E80
    have c98 : Fld Z h80 b45 "java/util/ArrayList" "elementData" "[Ljava/lang/Object;" (.ref dd) := w63_1.ext E80
    have c99 : Fld Z h80 b45 "java/util/ArrayList" "size" "I" (.int (0 : Int32)) := w63_2.ext E80
    have K80 : Keep h0 h80 [] := K63.ext E80
    rw [← g80] at A80 D80 st80
    have c100 : Fld Z h80 b80 "com/example/brisktest/brisktest/Maven$Run" "exitCode" "I" (.int (0 : Int32)) := D80 (Or.inr (hw _ (List.mem_of_getElem? (i := 94) rfl))) (ty := .int) (by decide)
    have c101 : Fld Z h80 b80 "com/example/brisktest/brisktest/Maven$Run" "timedOut" "Z" (.int (0 : Int32)) := D80 (Or.inr (hw _ (List.mem_of_getElem? (i := 96) rfl))) (ty := .boolean) (by decide)
    have c102 : Fld Z h80 b80 "com/example/brisktest/brisktest/Maven$Run" "durationMillis" "J" (.long (0 : Int64)) := D80 (Or.inr (hw _ (List.mem_of_getElem? (i := 98) rfl))) (ty := .long) (by decide)
    have c103 : Fld Z h80 b80 "com/example/brisktest/brisktest/Maven$Run" "errorLines" "Ljava/util/List;" .null := D80 (Or.inr (hw _ (List.mem_of_getElem? (i := 100) rfl))) (ty := (.object "java/util/List")) (by decide)
    have c104 : Fld Z h80 b80 "com/example/brisktest/brisktest/Maven$Run" "compilationErrors" "Ljava/util/List;" .null := D80 (Or.inr (hw _ (List.mem_of_getElem? (i := 102) rfl))) (ty := (.object "java/util/List")) (by decide)
    have c105 : Fld Z h80 b80 "com/example/brisktest/brisktest/Maven$Run" "unfinishedTestClasses" "Ljava/util/List;" .null := D80 (Or.inr (hw _ (List.mem_of_getElem? (i := 104) rfl))) (ty := (.object "java/util/List")) (by decide)
    refine own_step st80 ?_
    clear D80 E80 K63 X63 c64 c65 c66 c67 c68 c69 c70 c71 c72 c73 c74 c75 g80 st80 w63_0 w63_1 w63_2
    show own_G p.tables e below _ (T80.setTop (mkF m 107 #[.val (.int p1), .val (.int p2), .val (.long q3), .second, .val (.int cd), .val (.int to), .val (.int wl), .val (.ref b4), .val (.ref b20), .val (.ref b45), .unset, .unset] [(.ref b80)]))
    refine own_step (fun t k => XS.dup X80.here hx rfl (hb hby at_107) rfl rfl k) ?_
    show own_G p.tables e below _ (T80.setTop (mkF m 108 #[.val (.int p1), .val (.int p2), .val (.long q3), .second, .val (.int cd), .val (.int to), .val (.int wl), .val (.ref b4), .val (.ref b20), .val (.ref b45), .unset, .unset] [(.ref b80), (.ref b80)]))
    refine own_step (fun t k => XS.iload X80.here hx rfl (hb hby at_108) rfl k) ?_
    show own_G p.tables e below _ (T80.setTop (mkF m 110 #[.val (.int p1), .val (.int p2), .val (.long q3), .second, .val (.int cd), .val (.int to), .val (.int wl), .val (.ref b4), .val (.ref b20), .val (.ref b45), .unset, .unset] [(.int cd), (.ref b80), (.ref b80)]))
    refine own_step (fun t k => XS.iload X80.here hx rfl (hb hby at_110) rfl k) ?_
    show own_G p.tables e below _ (T80.setTop (mkF m 112 #[.val (.int p1), .val (.int p2), .val (.long q3), .second, .val (.int cd), .val (.int to), .val (.int wl), .val (.ref b4), .val (.ref b20), .val (.ref b45), .unset, .unset] [(.int to), (.int cd), (.ref b80), (.ref b80)]))
    refine own_step (fun t k => XS.lloadN X80.here hx rfl (hb hby at_112) rfl k) ?_
    show own_G p.tables e below _ (T80.setTop (mkF m 113 #[.val (.int p1), .val (.int p2), .val (.long q3), .second, .val (.int cd), .val (.int to), .val (.int wl), .val (.ref b4), .val (.ref b20), .val (.ref b45), .unset, .unset] [(.long q3), (.int to), (.int cd), (.ref b80), (.ref b80)]))
    refine own_step (fun t k => XS.aload X80.here hx rfl (hb hby at_113) rfl rfl k) ?_
    show own_G p.tables e below _ (T80.setTop (mkF m 115 #[.val (.int p1), .val (.int p2), .val (.long q3), .second, .val (.int cd), .val (.int to), .val (.int wl), .val (.ref b4), .val (.ref b20), .val (.ref b45), .unset, .unset] [(.ref b4), (.long q3), (.int to), (.int cd), (.ref b80), (.ref b80)]))
    refine own_step (fun t k => XS.aload X80.here hx rfl (hb hby at_115) rfl rfl k) ?_
    show own_G p.tables e below _ (T80.setTop (mkF m 117 #[.val (.int p1), .val (.int p2), .val (.long q3), .second, .val (.int cd), .val (.int to), .val (.int wl), .val (.ref b4), .val (.ref b20), .val (.ref b45), .unset, .unset] [(.ref b20), (.ref b4), (.long q3), (.int to), (.int cd), (.ref b80), (.ref b80)]))
    refine own_step (fun t k => XS.aload X80.here hx rfl (hb hby at_117) rfl rfl k) ?_
    show own_G p.tables e below _ (T80.setTop (mkF m 119 #[.val (.int p1), .val (.int p2), .val (.long q3), .second, .val (.int cd), .val (.int to), .val (.int wl), .val (.ref b4), .val (.ref b20), .val (.ref b45), .unset, .unset] [(.ref b45), (.ref b20), (.ref b4), (.long q3), (.int to), (.int cd), (.ref b80), (.ref b80)]))
    obtain ⟨_, _, ⟨T106, L106, k106, n106⟩, -, X106, ⟨Lc106, hQ106, l106, y106, z106⟩, st106⟩ := X80.specialBack hx (y := (⟨"com/example/brisktest/brisktest/Maven$Run", "<init>", "(IZJLjava/util/List;Ljava/util/List;Ljava/util/List;)V"⟩ : MethodName)) rfl hown (mvT hZ (hw _ (List.mem_of_getElem? (i := 84) rfl))) (mvT hZ (hw _ (List.mem_of_getElem? (i := 85) rfl))) (mvT hZ (hw _ (List.mem_of_getElem? (i := 86) rfl))) (by decide) (backOf (W := 1) (rm14 l Z a0 hw [] b80 cd to q3 b4 b20 b45 (.int (0 : Int32)) (.int (0 : Int32)) (.long (0 : Int64)) .null .null .null h80 n0 (Nat.le_trans Z0 K80.1) A80 c100 c101 c102 c103 c104 c105 ge80) hZ (hw _ (List.mem_of_getElem? (i := 86) rfl)) (hw _ (List.mem_of_getElem? (i := 83) rfl)) (by decide) (by decide)) (g := (mkF m 119 #[.val (.int p1), .val (.int p2), .val (.long q3), .second, .val (.int cd), .val (.int to), .val (.int wl), .val (.ref b4), .val (.ref b20), .val (.ref b45), .unset, .unset] [(.ref b45), (.ref b20), (.ref b4), (.long q3), (.int to), (.int cd), (.ref b80), (.ref b80)])) rfl (by rw [hml]; rfl) (Steps.refl _) (a := b80) (argsL := [(.int cd), (.int to), (.long q3), (.ref b4), (.ref b20), (.ref b45)]) (rest := [(.ref b80)]) (lenOf pd_0_1 rfl) rfl (by show 2 * 0 + _ ≤ _; exact Nat.le_of_eq rfl) (hb hby at_119) (fun _ _ => ⟨rfl, e80, (by decide : 4 + 0 ≤ _), (by decide : 15 + 0 ≤ _)⟩)
    dsimp only [Pt.U, Pt.locs, Pt.cells, Pt.slots] at X106 l106 y106 z106 st106 hQ106
    subst y106 z106
    obtain ⟨rfl, N106q, K106q, w106_0, w106_1, w106_2, w106_3, w106_4, w106_5⟩ := hQ106
    have c107 : Sta Z T106.heap "java/lang/String" "COMPACT_STRINGS" "Z" (.int s_COMPACT_STRINGS) := own_staKeep c85 K106q (allS (own_nsE A80) all0)
    have c108 : Sta Z T106.heap "java/util/ArrayList" "DEFAULTCAPACITY_EMPTY_ELEMENTDATA" "[Ljava/lang/Object;" (.ref dd) := own_staKeep c86 K106q (allS (own_nsE A80) all0)
    have c109 : own_Arl Z T106.heap dd 0 := c87.keep K106q (ninS ne81 nin0)
    have c110 : Exa Z T106.heap b4 "java/util/ArrayList" := c88.keep K106q
    have c111 : Fld Z T106.heap b4 "java/util/AbstractList" "modCount" "I" (.int (0 : Int32)) := c89.keep K106q (ninS ne82 nin0)
    have c112 : Fld Z T106.heap b4 "java/util/ArrayList" "elementData" "[Ljava/lang/Object;" (.ref dd) := c90.keep K106q (ninS ne82 nin0)
    have c113 : Fld Z T106.heap b4 "java/util/ArrayList" "size" "I" (.int (0 : Int32)) := c91.keep K106q (ninS ne82 nin0)
    have c114 : Exa Z T106.heap b20 "java/util/ArrayList" := c92.keep K106q
    have c115 : Fld Z T106.heap b20 "java/util/AbstractList" "modCount" "I" (.int (0 : Int32)) := c93.keep K106q (ninS ne83 nin0)
    have c116 : Fld Z T106.heap b20 "java/util/ArrayList" "elementData" "[Ljava/lang/Object;" (.ref dd) := c94.keep K106q (ninS ne83 nin0)
    have c117 : Fld Z T106.heap b20 "java/util/ArrayList" "size" "I" (.int (0 : Int32)) := c95.keep K106q (ninS ne83 nin0)
    have c118 : Exa Z T106.heap b45 "java/util/ArrayList" := c96.keep K106q
    have c119 : Fld Z T106.heap b45 "java/util/AbstractList" "modCount" "I" (.int (0 : Int32)) := c97.keep K106q (ninS ne84 nin0)
    have c120 : Fld Z T106.heap b45 "java/util/ArrayList" "elementData" "[Ljava/lang/Object;" (.ref dd) := c98.keep K106q (ninS ne84 nin0)
    have c121 : Fld Z T106.heap b45 "java/util/ArrayList" "size" "I" (.int (0 : Int32)) := c99.keep K106q (ninS ne84 nin0)
    have c122 : Exa Z T106.heap b80 "com/example/brisktest/brisktest/Maven$Run" := A80.keep K106q
    have K106 : Keep h0 T106.heap [] := K80.trans K106q (allS (Or.inr sz80) all0)
    have N106 : Fr n0 L106 := by rw [l106]; exact Fr.app N63 N106q
    refine own_step (fun t k => st106.trans k) ?_
    clear A80 K106q K80 N106q N63 X80 c100 c101 c102 c103 c104 c105 c85 c86 c87 c88 c89 c90 c91 c92 c93 c94 c95 c96 c97 c98 c99 e80 st106
    show own_G p.tables e below _ (T106.setTop (mkF m 122 #[.val (.int p1), .val (.int p2), .val (.long q3), .second, .val (.int cd), .val (.int to), .val (.int wl), .val (.ref b4), .val (.ref b20), .val (.ref b45), .unset, .unset] [(.ref b80)]))
    refine own_step (fun t k => XS.astore X106.here hx rfl (hb hby at_122) rfl rfl (l' := #[.val (.int p1), .val (.int p2), .val (.long q3), .second, .val (.int cd), .val (.int to), .val (.int wl), .val (.ref b4), .val (.ref b20), .val (.ref b45), .val (.ref b80), .unset]) rfl k) ?_
    show own_G p.tables e below _ (T106.setTop (mkF m 124 #[.val (.int p1), .val (.int p2), .val (.long q3), .second, .val (.int cd), .val (.int to), .val (.int wl), .val (.ref b4), .val (.ref b20), .val (.ref b45), .val (.ref b80), .unset] []))
    refine own_step (fun t k => XS.iload X106.here hx rfl (hb hby at_124) rfl k) ?_
    show own_G p.tables e below _ (T106.setTop (mkF m 126 #[.val (.int p1), .val (.int p2), .val (.long q3), .second, .val (.int cd), .val (.int to), .val (.int wl), .val (.ref b4), .val (.ref b20), .val (.ref b45), .val (.ref b80), .unset] [(.int cd)]))
    refine own_imp (B := T106.setTop (mkF m 134 #[.val (.int p1), .val (.int p2), .val (.long q3), .second, .val (.int cd), .val (.int to), .val (.int wl), .val (.ref b4), .val (.ref b20), .val (.ref b45), .val (.ref b80), .unset] [(.int (if cd = (0 : Int32) then (1 : Int32) else (0 : Int32)))])) (fun k0 => ?_) ?_
    · by_cases hc129 : cd = (0 : Int32)
      · simp only [if_pos hc129] at k0
        refine own_step (fun t k => XS.ifNo X106.here hx rfl (hb hby at_126) rfl ((if0 _ _).trans (teq hc129).2) k) ?_
        show own_G p.tables e below _ (T106.setTop (mkF m 129 #[.val (.int p1), .val (.int p2), .val (.long q3), .second, .val (.int cd), .val (.int to), .val (.int wl), .val (.ref b4), .val (.ref b20), .val (.ref b45), .val (.ref b80), .unset] []))
        refine own_step (fun t k => XS.iconst X106.here hx rfl (hb hby at_129) k) ?_
        show own_G p.tables e below _ (T106.setTop (mkF m 130 #[.val (.int p1), .val (.int p2), .val (.long q3), .second, .val (.int cd), .val (.int to), .val (.int wl), .val (.ref b4), .val (.ref b20), .val (.ref b45), .val (.ref b80), .unset] [(.int (1 : Int32))]))
        refine own_step (fun t k => XS.goto X106.here hx rfl (pc0 := 130) (pc' := 134) rfl (hb hby at_130) (by decide) (by decide) k) ?_
        show own_G p.tables e below _ (T106.setTop (mkF m 134 #[.val (.int p1), .val (.int p2), .val (.long q3), .second, .val (.int cd), .val (.int to), .val (.int wl), .val (.ref b4), .val (.ref b20), .val (.ref b45), .val (.ref b80), .unset] [(.int (1 : Int32))]))
        exact k0
      · simp only [if_neg hc129] at k0
        refine own_step (fun t k => XS.ifYes X106.here hx rfl (pc0 := 126) (pc' := 133) rfl (hb hby at_126) rfl ((if0 _ _).trans (feq hc129).2) (by decide) (by decide) k) ?_
        show own_G p.tables e below _ (T106.setTop (mkF m 133 #[.val (.int p1), .val (.int p2), .val (.long q3), .second, .val (.int cd), .val (.int to), .val (.int wl), .val (.ref b4), .val (.ref b20), .val (.ref b45), .val (.ref b80), .unset] []))
        refine own_step (fun t k => XS.iconst X106.here hx rfl (hb hby at_133) k) ?_
        show own_G p.tables e below _ (T106.setTop (mkF m 134 #[.val (.int p1), .val (.int p2), .val (.long q3), .second, .val (.int cd), .val (.int to), .val (.int wl), .val (.ref b4), .val (.ref b20), .val (.ref b45), .val (.ref b80), .unset] [(.int (0 : Int32))]))
        exact k0
    show own_G p.tables e below _ (T106.setTop (mkF m 134 #[.val (.int p1), .val (.int p2), .val (.long q3), .second, .val (.int cd), .val (.int to), .val (.int wl), .val (.ref b4), .val (.ref b20), .val (.ref b45), .val (.ref b80), .unset] [(.int (if cd = (0 : Int32) then (1 : Int32) else (0 : Int32)))]))
    refine own_nm ((if cd = (0 : Int32) then (1 : Int32) else (0 : Int32)) : Int32) (fun ex => T106.setTop (mkF m 134 #[.val (.int p1), .val (.int p2), .val (.long q3), .second, .val (.int cd), .val (.int to), .val (.int wl), .val (.ref b4), .val (.ref b20), .val (.ref b45), .val (.ref b80), .unset] [(.int ex)])) ?_
    intro ex hd_ex
    show own_G p.tables e below _ (T106.setTop (mkF m 134 #[.val (.int p1), .val (.int p2), .val (.long q3), .second, .val (.int cd), .val (.int to), .val (.int wl), .val (.ref b4), .val (.ref b20), .val (.ref b45), .val (.ref b80), .unset] [(.int ex)]))
    refine own_step (fun t k => XS.istore X106.here hx rfl (hb hby at_134) rfl (l' := #[.val (.int p1), .val (.int p2), .val (.long q3), .second, .val (.int cd), .val (.int to), .val (.int wl), .val (.ref b4), .val (.ref b20), .val (.ref b45), .val (.ref b80), .val (.int ex)]) rfl k) ?_
    show own_G p.tables e below _ (T106.setTop (mkF m 136 #[.val (.int p1), .val (.int p2), .val (.long q3), .second, .val (.int cd), .val (.int to), .val (.int wl), .val (.ref b4), .val (.ref b20), .val (.ref b45), .val (.ref b80), .val (.int ex)] []))
    refine own_step (fun t k => XS.aload X106.here hx rfl (hb hby at_136) rfl rfl k) ?_
    show own_G p.tables e below _ (T106.setTop (mkF m 138 #[.val (.int p1), .val (.int p2), .val (.long q3), .second, .val (.int cd), .val (.int to), .val (.int wl), .val (.ref b4), .val (.ref b20), .val (.ref b45), .val (.ref b80), .val (.int ex)] [(.ref b80)]))
    obtain ⟨cq130, kq130, q130a, q130b, q130c⟩ := isOf hZ rfl c122
    obtain ⟨_, _, ⟨T130, L130, k130, n130⟩, -, X130, ⟨Lc130, hQ130, l130, y130, z130⟩, st130⟩ := X106.virtualBack hx (y := (⟨"com/example/brisktest/brisktest/Maven$Run", "succeeded", "()Z"⟩ : MethodName)) (z := (⟨"com/example/brisktest/brisktest/Maven$Run", "succeeded", "()Z"⟩ : MethodName)) hown (mvT hZ (hw _ (List.mem_of_getElem? (i := 105) rfl))) (mvT hZ (hw _ (List.mem_of_getElem? (i := 106) rfl))) (notFace_of_selects (args := #[]) (mvT hZ (hw _ (List.mem_of_getElem? (i := 108) rfl)))) (mvT hZ (hw _ (List.mem_of_getElem? (i := 108) rfl))) (mvT hZ (hw _ (List.mem_of_getElem? (i := 107) rfl))) (by decide) (backOf (W := 0) (rm16 l Z a0 hw [] b80 cd T106.heap n0 (Nat.le_trans Z0 K106.1) w106_0) hZ (hw _ (List.mem_of_getElem? (i := 109) rfl)) (hw _ (List.mem_of_getElem? (i := 83) rfl)) (by decide) (by decide)) q130a q130c (g := (mkF m 138 #[.val (.int p1), .val (.int p2), .val (.long q3), .second, .val (.int cd), .val (.int to), .val (.int wl), .val (.ref b4), .val (.ref b20), .val (.ref b45), .val (.ref b80), .val (.int ex)] [(.ref b80)])) rfl (by rw [hml]; rfl) (Steps.refl _) (argsL := []) (rest := []) (lenOf pd_0_2 rfl) rfl (by show 2 * 0 + _ ≤ _; exact Nat.le_of_eq rfl) (hb hby at_138) (fun _ _ => ⟨rfl, rfl, (by decide : 4 + 0 ≤ _), (by decide : 15 + 0 ≤ _)⟩)
    dsimp only [Pt.U, Pt.locs, Pt.cells, Pt.slots] at X130 l130 y130 z130 st130 hQ130
    subst y130 z130
    obtain ⟨rfl, N130q, e130⟩ := hQ130
    have N130 : Fr n0 L130 := by rw [l130]; exact Fr.app N106 N130q
    refine own_step (fun t k => st130.trans k) ?_
    show own_G p.tables e below _ (T130.setTop (mkF m 141 #[.val (.int p1), .val (.int p2), .val (.long q3), .second, .val (.int cd), .val (.int to), .val (.int wl), .val (.ref b4), .val (.ref b20), .val (.ref b45), .val (.ref b80), .val (.int ex)] [(.int (own_f16 cd))]))
    refine own_step (fun t k => XS.iload X130.here hx rfl (hb hby at_141) rfl k) ?_
    show own_G p.tables e below _ (T130.setTop (mkF m 143 #[.val (.int p1), .val (.int p2), .val (.long q3), .second, .val (.int cd), .val (.int to), .val (.int wl), .val (.ref b4), .val (.ref b20), .val (.ref b45), .val (.ref b80), .val (.int ex)] [(.int ex), (.int (own_f16 cd))]))
    have hk131 : (own_f16 cd) = ex := (by rw [hd_ex]; rfl)
    refine own_step (fun t k => XS.icmpNo X130.here hx rfl (hb hby at_143) rfl ((teq hk131).2) k) ?_
    show own_G p.tables e below _ (T130.setTop (mkF m 146 #[.val (.int p1), .val (.int p2), .val (.long q3), .second, .val (.int cd), .val (.int to), .val (.int wl), .val (.ref b4), .val (.ref b20), .val (.ref b45), .val (.ref b80), .val (.int ex)] []))
    refine own_step (fun t k => XS.iconst X130.here hx rfl (hb hby at_146) k) ?_
    show own_G p.tables e below _ (T130.setTop (mkF m 147 #[.val (.int p1), .val (.int p2), .val (.long q3), .second, .val (.int cd), .val (.int to), .val (.int wl), .val (.ref b4), .val (.ref b20), .val (.ref b45), .val (.ref b80), .val (.int ex)] [(.int (1 : Int32))]))
    refine own_step (fun t k => XS.goto X130.here hx rfl (pc0 := 147) (pc' := 151) rfl (hb hby at_147) (by decide) (by decide) k) ?_
    show own_G p.tables e below _ (T130.setTop (mkF m 151 #[.val (.int p1), .val (.int p2), .val (.long q3), .second, .val (.int cd), .val (.int to), .val (.int wl), .val (.ref b4), .val (.ref b20), .val (.ref b45), .val (.ref b80), .val (.int ex)] [(.int (1 : Int32))]))
    obtain ⟨fs, hr, hrun, hended, hW, hsame⟩ := X130.leave (v := some (.int (1 : Int32))) (fun h => by rw [Bd.returns] at h; cases h)
    refine own_done (retN X130 hx (t := .boolean) Bd.returns (by simp) (hb hby at_151) hr) hrun hended ⟨_, _, rfl, ?_, ⟨_, rfl⟩, hW, hsame.mono (by decide) (by decide)⟩
    show Q0 Z p1 p2 q3 dd s_COMPACT_STRINGS h0 n0 _ T130.heap _
    rw [e130]
    exact ⟨rfl, N130⟩
  · skip
    refine own_step (fun t k => XS.ifNo X63.here hx rfl (hb hby at_68) rfl ((if0 _ _).trans (feq hc79).1) k) ?_
    show own_G p.tables e below _ (T63.setTop (mkF m 71 #[.val (.int p1), .val (.int p2), .val (.long q3), .second, .val (.int cd), .val (.int to), .val (.int wl), .val (.ref b4), .val (.ref b20), .val (.ref b45), .unset, .unset] []))
    refine own_step (fun t k => XS.aload X63.here hx rfl (hb hby at_71) rfl rfl k) ?_
    show own_G p.tables e below _ (T63.setTop (mkF m 73 #[.val (.int p1), .val (.int p2), .val (.long q3), .second, .val (.int cd), .val (.int to), .val (.int wl), .val (.ref b4), .val (.ref b20), .val (.ref b45), .unset, .unset] [(.ref b4)]))
    refine own_step (fun t k => XS.iloadN X63.here hx rfl (hb hby at_73) rfl k) ?_
    show own_G p.tables e below _ (T63.setTop (mkF m 74 #[.val (.int p1), .val (.int p2), .val (.long q3), .second, .val (.int cd), .val (.int to), .val (.int wl), .val (.ref b4), .val (.ref b20), .val (.ref b45), .unset, .unset] [(.int p1), (.ref b4)]))
    refine own_step (fun t k => XS.sipush X63.here hx rfl (hb hby at_74) k) ?_
    show own_G p.tables e below _ (T63.setTop (mkF m 77 #[.val (.int p1), .val (.int p2), .val (.long q3), .second, .val (.int cd), .val (.int to), .val (.int wl), .val (.ref b4), .val (.ref b20), .val (.ref b45), .unset, .unset] [(.int (255 : Int32)), (.int p1), (.ref b4)]))
    refine own_step (fun t k => XS.iand X63.here hx rfl (hb hby at_77) rfl k) ?_
    show own_G p.tables e below _ (T63.setTop (mkF m 78 #[.val (.int p1), .val (.int p2), .val (.long q3), .second, .val (.int cd), .val (.int to), .val (.int wl), .val (.ref b4), .val (.ref b20), .val (.ref b45), .unset, .unset] [(.int (p1 &&& (255 : Int32))), (.ref b4)]))
    refine own_step (fun t k => XS.i2c X63.here hx rfl (hb hby at_78) rfl k) ?_
    show own_G p.tables e below _ (T63.setTop (mkF m 79 #[.val (.int p1), .val (.int p2), .val (.long q3), .second, .val (.int cd), .val (.int to), .val (.int wl), .val (.ref b4), .val (.ref b20), .val (.ref b45), .unset, .unset] [(.int ((p1 &&& (255 : Int32)).toUInt32.toUInt16.toUInt32.toInt32)), (.ref b4)]))
    obtain ⟨_, _, ⟨T132, L132, k132, n132⟩, -, X132, ⟨Lc132, hQ132, l132, y132, z132⟩, st132⟩ := Jvm.LawKit.callS X63 hx (y := (⟨"java/lang/String", "valueOf", "(C)Ljava/lang/String;"⟩ : MethodName)) hown (mvT hZ (hw _ (List.mem_of_getElem? (i := 26) rfl))) (mvT hZ (hw _ (List.mem_of_getElem? (i := 27) rfl))) (mvT hZ (hw _ (List.mem_of_getElem? (i := 28) rfl))) (mvT hZ (hw _ (List.mem_of_getElem? (i := 29) rfl))) (by decide) (backOf (W := 1) (rm5 l Z a0 hw [] ((p1 &&& (255 : Int32)).toUInt32.toUInt16.toUInt32.toInt32) s_COMPACT_STRINGS T63.heap n0 (Nat.le_trans Z0 K63.1) c64 (hcs : ¬ (s_COMPACT_STRINGS = (0 : Int32))) (own_c255 _ : ¬ ((255 : Int32) < ((p1 &&& (255 : Int32)).toUInt32.toUInt16.toUInt32.toInt32)))) hZ (hw _ (List.mem_of_getElem? (i := 29) rfl)) (hw _ (List.mem_of_getElem? (i := 28) rfl)) (by decide) (by decide)) (g := (mkF m 79 #[.val (.int p1), .val (.int p2), .val (.long q3), .second, .val (.int cd), .val (.int to), .val (.int wl), .val (.ref b4), .val (.ref b20), .val (.ref b45), .unset, .unset] [(.int ((p1 &&& (255 : Int32)).toUInt32.toUInt16.toUInt32.toInt32)), (.ref b4)])) rfl (by rw [hml]; rfl) (argsL := [(.int ((p1 &&& (255 : Int32)).toUInt32.toUInt16.toUInt32.toInt32))]) (rest := [(.ref b4)]) (lenOf pd_0_3 rfl) rfl (by show 2 * 0 + _ ≤ _; exact Nat.le_of_eq rfl) (hb hby at_79) (fun _ _ => ⟨rfl, rfl, (by decide : 3 + 2 ≤ _), (by decide : 9 + 5 ≤ _)⟩)
    dsimp only [Pt.U, Pt.locs, Pt.cells, Pt.slots] at X132 l132 y132 z132 st132 hQ132
    subst y132 z132
    obtain ⟨bx132_rb, bx132_x2, rfl, N132q, K132q, w132_0, w132_1, w132_2, w132_3, sx132_0, sx132_1, xn132_0⟩ := hQ132
    have c133 : Sta Z T132.heap "java/lang/String" "COMPACT_STRINGS" "Z" (.int s_COMPACT_STRINGS) := own_staKeep c64 K132q all0
    have c134 : Sta Z T132.heap "java/util/ArrayList" "DEFAULTCAPACITY_EMPTY_ELEMENTDATA" "[Ljava/lang/Object;" (.ref dd) := own_staKeep c65 K132q all0
    have c135 : own_Arl Z T132.heap dd 0 := c66.keep K132q nin0
    have c136 : Exa Z T132.heap b4 "java/util/ArrayList" := c67.keep K132q
    have c137 : Fld Z T132.heap b4 "java/util/AbstractList" "modCount" "I" (.int (0 : Int32)) := c68.keep K132q nin0
    have c138 : Fld Z T132.heap b4 "java/util/ArrayList" "elementData" "[Ljava/lang/Object;" (.ref dd) := c69.keep K132q nin0
    have c139 : Fld Z T132.heap b4 "java/util/ArrayList" "size" "I" (.int (0 : Int32)) := c70.keep K132q nin0
    have c140 : Exa Z T132.heap b20 "java/util/ArrayList" := c71.keep K132q
    have c141 : Fld Z T132.heap b20 "java/util/AbstractList" "modCount" "I" (.int (0 : Int32)) := c72.keep K132q nin0
    have c142 : Fld Z T132.heap b20 "java/util/ArrayList" "elementData" "[Ljava/lang/Object;" (.ref dd) := c73.keep K132q nin0
    have c143 : Fld Z T132.heap b20 "java/util/ArrayList" "size" "I" (.int (0 : Int32)) := c74.keep K132q nin0
    have c144 : Exa Z T132.heap b45 "java/util/ArrayList" := c75.keep K132q
    have c145 : Fld Z T132.heap b45 "java/util/AbstractList" "modCount" "I" (.int (0 : Int32)) := w63_0.keep K132q nin0
    have c146 : Fld Z T132.heap b45 "java/util/ArrayList" "elementData" "[Ljava/lang/Object;" (.ref dd) := w63_1.keep K132q nin0
    have c147 : Fld Z T132.heap b45 "java/util/ArrayList" "size" "I" (.int (0 : Int32)) := w63_2.keep K132q nin0
    have sz132_0 : h0.size ≤ bx132_rb := Nat.le_trans K63.1 sx132_0
    have ge132_0 : n0 ≤ bx132_rb := Nat.le_trans Z0 sz132_0
    have ne148 : dd ≠ bx132_rb := Nat.ne_of_lt (Nat.lt_of_lt_of_le c66.lt sx132_0)
    have ne149 : b4 ≠ bx132_rb := Nat.ne_of_lt (Nat.lt_of_lt_of_le c67.lt sx132_0)
    have ne150 : b20 ≠ bx132_rb := Nat.ne_of_lt (Nat.lt_of_lt_of_le c71.lt sx132_0)
    have ne151 : b45 ≠ bx132_rb := Nat.ne_of_lt (Nat.lt_of_lt_of_le c75.lt sx132_0)
    have sz132_1 : h0.size ≤ bx132_x2 := Nat.le_trans K63.1 sx132_1
    have ge132_1 : n0 ≤ bx132_x2 := Nat.le_trans Z0 sz132_1
    have ne152 : dd ≠ bx132_x2 := Nat.ne_of_lt (Nat.lt_of_lt_of_le c66.lt sx132_1)
    have ne153 : b4 ≠ bx132_x2 := Nat.ne_of_lt (Nat.lt_of_lt_of_le c67.lt sx132_1)
    have ne154 : b20 ≠ bx132_x2 := Nat.ne_of_lt (Nat.lt_of_lt_of_le c71.lt sx132_1)
    have ne155 : b45 ≠ bx132_x2 := Nat.ne_of_lt (Nat.lt_of_lt_of_le c75.lt sx132_1)
    have K132 : Keep h0 T132.heap [] := K63.trans K132q all0
    have N132 : Fr n0 L132 := by rw [l132]; exact Fr.app N63 N132q
    refine own_step st132 ?_
    clear K132q K63 N132q N63 X63 c64 c65 c66 c67 c68 c69 c70 c71 c72 c73 c74 c75 st132 sx132_0 sx132_1 w63_0 w63_1 w63_2
    show own_G p.tables e below _ (T132.setTop (mkF m 82 #[.val (.int p1), .val (.int p2), .val (.long q3), .second, .val (.int cd), .val (.int to), .val (.int wl), .val (.ref b4), .val (.ref b20), .val (.ref b45), .unset, .unset] [(.ref bx132_rb), (.ref b4)]))
    obtain ⟨cq156, kq156, q156a, q156b, q156c⟩ := isOf hZ rfl c136
    obtain ⟨_, _, ⟨T156, L156, k156, n156⟩, -, X156, ⟨Lc156, hQ156, l156, y156, z156⟩, st156⟩ := X132.virtualBack hx (y := (⟨"java/util/ArrayList", "add", "(Ljava/lang/Object;)Z"⟩ : MethodName)) (z := (⟨"java/util/ArrayList", "add", "(Ljava/lang/Object;)Z"⟩ : MethodName)) hown (mvT hZ (hw _ (List.mem_of_getElem? (i := 50) rfl))) (mvT hZ (hw _ (List.mem_of_getElem? (i := 51) rfl))) (notFace_of_selects (args := #[]) (mvT hZ (hw _ (List.mem_of_getElem? (i := 53) rfl)))) (mvT hZ (hw _ (List.mem_of_getElem? (i := 53) rfl))) (mvT hZ (hw _ (List.mem_of_getElem? (i := 52) rfl))) (by decide) (backOf (W := 0) (rm9 l Z a0 hw [] b4 bx132_rb dd (0 : Int32) T132.heap n0 (Nat.le_trans Z0 K132.1) c136 c137 c138 c139 w132_0 c134 c135 ge4 ne5) hZ (hw _ (List.mem_of_getElem? (i := 54) rfl)) (hw _ (List.mem_of_getElem? (i := 2) rfl)) (by decide) (by decide)) q156a q156c (g := (mkF m 82 #[.val (.int p1), .val (.int p2), .val (.long q3), .second, .val (.int cd), .val (.int to), .val (.int wl), .val (.ref b4), .val (.ref b20), .val (.ref b45), .unset, .unset] [(.ref bx132_rb), (.ref b4)])) rfl (by rw [hml]; rfl) (Steps.refl _) (argsL := [(.ref bx132_rb)]) (rest := []) (lenOf pd_0_4 rfl) rfl (by show 2 * 0 + _ ≤ _; exact Nat.le_of_eq rfl) (hb hby at_82) (fun _ _ => ⟨rfl, rfl, (by decide : 5 + 1 ≤ _), (by decide : 14 + 10 ≤ _)⟩)
    dsimp only [Pt.U, Pt.locs, Pt.cells, Pt.slots] at X156 l156 y156 z156 st156 hQ156
    subst y156 z156
    obtain ⟨bx156_x1, rfl, N156q, K156q, w156_0, w156_1, w156_2, w156_3, sx156_0⟩ := hQ156
    have c157 : Sta Z T156.heap "java/lang/String" "COMPACT_STRINGS" "Z" (.int s_COMPACT_STRINGS) := own_staKeep c133 K156q (allS (own_nsE c136) all0)
    have c158 : Sta Z T156.heap "java/util/ArrayList" "DEFAULTCAPACITY_EMPTY_ELEMENTDATA" "[Ljava/lang/Object;" (.ref dd) := own_staKeep c134 K156q (allS (own_nsE c136) all0)
    have c159 : own_Arl Z T156.heap dd 0 := c135.keep K156q (ninS ne5 nin0)
    have c160 : Exa Z T156.heap b4 "java/util/ArrayList" := c136.keep K156q
    have c164 : Exa Z T156.heap b20 "java/util/ArrayList" := c140.keep K156q
    have c165 : Fld Z T156.heap b20 "java/util/AbstractList" "modCount" "I" (.int (0 : Int32)) := c141.keep K156q (ninS (Ne.symm ne22) nin0)
    have c166 : Fld Z T156.heap b20 "java/util/ArrayList" "elementData" "[Ljava/lang/Object;" (.ref dd) := c142.keep K156q (ninS (Ne.symm ne22) nin0)
    have c167 : Fld Z T156.heap b20 "java/util/ArrayList" "size" "I" (.int (0 : Int32)) := c143.keep K156q (ninS (Ne.symm ne22) nin0)
    have c168 : Exa Z T156.heap b45 "java/util/ArrayList" := c144.keep K156q
    have c169 : Fld Z T156.heap b45 "java/util/AbstractList" "modCount" "I" (.int (0 : Int32)) := c145.keep K156q (ninS (Ne.symm ne47) nin0)
    have c170 : Fld Z T156.heap b45 "java/util/ArrayList" "elementData" "[Ljava/lang/Object;" (.ref dd) := c146.keep K156q (ninS (Ne.symm ne47) nin0)
    have c171 : Fld Z T156.heap b45 "java/util/ArrayList" "size" "I" (.int (0 : Int32)) := c147.keep K156q (ninS (Ne.symm ne47) nin0)
    have c172 : Exa Z T156.heap bx132_rb "java/lang/String" := w132_0.keep K156q
    have c173 : Fld Z T156.heap bx132_rb "java/lang/String" "value" "[B" (.ref bx132_x2) := w132_1.keep K156q (ninS (Ne.symm ne149) nin0)
    have c174 : Fld Z T156.heap bx132_rb "java/lang/String" "coder" "B" (.int (nar .byte (0 : Int32))) := w132_2.keep K156q (ninS (Ne.symm ne149) nin0)
    have c175 : own_Ari Z T156.heap bx132_x2 .byte [(nar .byte (((p1 &&& (255 : Int32)).toUInt32.toUInt16.toUInt32.toInt32).toInt8.toInt32))] := w132_3.keep K156q (ninS (Ne.symm ne153) nin0)
    have sz156_0 : h0.size ≤ bx156_x1 := Nat.le_trans K132.1 sx156_0
    have ge156_0 : n0 ≤ bx156_x1 := Nat.le_trans Z0 sz156_0
    have ne176 : dd ≠ bx156_x1 := Nat.ne_of_lt (Nat.lt_of_lt_of_le c135.lt sx156_0)
    have ne177 : b4 ≠ bx156_x1 := Nat.ne_of_lt (Nat.lt_of_lt_of_le c136.lt sx156_0)
    have ne178 : b20 ≠ bx156_x1 := Nat.ne_of_lt (Nat.lt_of_lt_of_le c140.lt sx156_0)
    have ne179 : b45 ≠ bx156_x1 := Nat.ne_of_lt (Nat.lt_of_lt_of_le c144.lt sx156_0)
    have ne180 : bx132_rb ≠ bx156_x1 := Nat.ne_of_lt (Nat.lt_of_lt_of_le w132_0.lt sx156_0)
    have ne181 : bx132_x2 ≠ bx156_x1 := Nat.ne_of_lt (Nat.lt_of_lt_of_le w132_3.lt sx156_0)
    have K156 : Keep h0 T156.heap [] := K132.trans K156q (allS (Or.inr sz4) all0)
    have N156 : Fr n0 L156 := by rw [l156]; exact Fr.app N132 N156q
    refine own_step (fun t k => st156.trans k) ?_
    clear K132 K156q N132 N156q X132 c133 c134 c135 c136 c137 c138 c139 c140 c141 c142 c143 c144 c145 c146 c147 q156a q156b q156c st156 sx156_0 w132_0 w132_1 w132_2 w132_3
    show own_G p.tables e below _ (T156.setTop (mkF m 85 #[.val (.int p1), .val (.int p2), .val (.long q3), .second, .val (.int cd), .val (.int to), .val (.int wl), .val (.ref b4), .val (.ref b20), .val (.ref b45), .unset, .unset] [(.int (1 : Int32))]))
    refine own_step (fun t k => XS.pop X156.here hx rfl (hb hby at_85) rfl rfl k) ?_
    show own_G p.tables e below _ (T156.setTop (mkF m 86 #[.val (.int p1), .val (.int p2), .val (.long q3), .second, .val (.int cd), .val (.int to), .val (.int wl), .val (.ref b4), .val (.ref b20), .val (.ref b45), .unset, .unset] []))
    refine own_step (fun t k => XS.aload X156.here hx rfl (hb hby at_86) rfl rfl k) ?_
    show own_G p.tables e below _ (T156.setTop (mkF m 88 #[.val (.int p1), .val (.int p2), .val (.long q3), .second, .val (.int cd), .val (.int to), .val (.int wl), .val (.ref b4), .val (.ref b20), .val (.ref b45), .unset, .unset] [(.ref b45)]))
    refine own_step (fun t k => XS.iloadN X156.here hx rfl (hb hby at_88) rfl k) ?_
    show own_G p.tables e below _ (T156.setTop (mkF m 89 #[.val (.int p1), .val (.int p2), .val (.long q3), .second, .val (.int cd), .val (.int to), .val (.int wl), .val (.ref b4), .val (.ref b20), .val (.ref b45), .unset, .unset] [(.int p2), (.ref b45)]))
    refine own_step (fun t k => XS.bipush X156.here hx rfl (hb hby at_89) k) ?_
    show own_G p.tables e below _ (T156.setTop (mkF m 91 #[.val (.int p1), .val (.int p2), .val (.long q3), .second, .val (.int cd), .val (.int to), .val (.int wl), .val (.ref b4), .val (.ref b20), .val (.ref b45), .unset, .unset] [(.int (8 : Int32)), (.int p2), (.ref b45)]))
    refine own_step (fun t k => XS.iushr X156.here hx rfl (hb hby at_91) rfl k) ?_
    show own_G p.tables e below _ (T156.setTop (mkF m 92 #[.val (.int p1), .val (.int p2), .val (.long q3), .second, .val (.int cd), .val (.int to), .val (.int wl), .val (.ref b4), .val (.ref b20), .val (.ref b45), .unset, .unset] [(.int ((p2.toUInt32 >>> ((8 : Int32) &&& 31).toUInt32).toInt32)), (.ref b45)]))
    refine own_step (fun t k => XS.sipush X156.here hx rfl (hb hby at_92) k) ?_
    show own_G p.tables e below _ (T156.setTop (mkF m 95 #[.val (.int p1), .val (.int p2), .val (.long q3), .second, .val (.int cd), .val (.int to), .val (.int wl), .val (.ref b4), .val (.ref b20), .val (.ref b45), .unset, .unset] [(.int (255 : Int32)), (.int ((p2.toUInt32 >>> ((8 : Int32) &&& 31).toUInt32).toInt32)), (.ref b45)]))
    refine own_step (fun t k => XS.iand X156.here hx rfl (hb hby at_95) rfl k) ?_
    show own_G p.tables e below _ (T156.setTop (mkF m 96 #[.val (.int p1), .val (.int p2), .val (.long q3), .second, .val (.int cd), .val (.int to), .val (.int wl), .val (.ref b4), .val (.ref b20), .val (.ref b45), .unset, .unset] [(.int (((p2.toUInt32 >>> ((8 : Int32) &&& 31).toUInt32).toInt32) &&& (255 : Int32))), (.ref b45)]))
    refine own_step (fun t k => XS.i2c X156.here hx rfl (hb hby at_96) rfl k) ?_
    show own_G p.tables e below _ (T156.setTop (mkF m 97 #[.val (.int p1), .val (.int p2), .val (.long q3), .second, .val (.int cd), .val (.int to), .val (.int wl), .val (.ref b4), .val (.ref b20), .val (.ref b45), .unset, .unset] [(.int ((((p2.toUInt32 >>> ((8 : Int32) &&& 31).toUInt32).toInt32) &&& (255 : Int32)).toUInt32.toUInt16.toUInt32.toInt32)), (.ref b45)]))
    obtain ⟨_, _, ⟨T182, L182, k182, n182⟩, -, X182, ⟨Lc182, hQ182, l182, y182, z182⟩, st182⟩ := Jvm.LawKit.callS X156 hx (y := (⟨"java/lang/String", "valueOf", "(C)Ljava/lang/String;"⟩ : MethodName)) hown (mvT hZ (hw _ (List.mem_of_getElem? (i := 26) rfl))) (mvT hZ (hw _ (List.mem_of_getElem? (i := 27) rfl))) (mvT hZ (hw _ (List.mem_of_getElem? (i := 28) rfl))) (mvT hZ (hw _ (List.mem_of_getElem? (i := 29) rfl))) (by decide) (backOf (W := 1) (rm5 l Z a0 hw [] ((((p2.toUInt32 >>> ((8 : Int32) &&& 31).toUInt32).toInt32) &&& (255 : Int32)).toUInt32.toUInt16.toUInt32.toInt32) s_COMPACT_STRINGS T156.heap n0 (Nat.le_trans Z0 K156.1) c157 (hcs : ¬ (s_COMPACT_STRINGS = (0 : Int32))) (own_c255 _ : ¬ ((255 : Int32) < ((((p2.toUInt32 >>> ((8 : Int32) &&& 31).toUInt32).toInt32) &&& (255 : Int32)).toUInt32.toUInt16.toUInt32.toInt32)))) hZ (hw _ (List.mem_of_getElem? (i := 29) rfl)) (hw _ (List.mem_of_getElem? (i := 28) rfl)) (by decide) (by decide)) (g := (mkF m 97 #[.val (.int p1), .val (.int p2), .val (.long q3), .second, .val (.int cd), .val (.int to), .val (.int wl), .val (.ref b4), .val (.ref b20), .val (.ref b45), .unset, .unset] [(.int ((((p2.toUInt32 >>> ((8 : Int32) &&& 31).toUInt32).toInt32) &&& (255 : Int32)).toUInt32.toUInt16.toUInt32.toInt32)), (.ref b45)])) rfl (by rw [hml]; rfl) (argsL := [(.int ((((p2.toUInt32 >>> ((8 : Int32) &&& 31).toUInt32).toInt32) &&& (255 : Int32)).toUInt32.toUInt16.toUInt32.toInt32))]) (rest := [(.ref b45)]) (lenOf pd_0_3 rfl) rfl (by show 2 * 0 + _ ≤ _; exact Nat.le_of_eq rfl) (hb hby at_97) (fun _ _ => ⟨rfl, rfl, (by decide : 6 + 2 ≤ _), (by decide : 24 + 5 ≤ _)⟩)
    dsimp only [Pt.U, Pt.locs, Pt.cells, Pt.slots] at X182 l182 y182 z182 st182 hQ182
    subst y182 z182
    obtain ⟨bx182_rb, bx182_x2, rfl, N182q, K182q, w182_0, w182_1, w182_2, w182_3, sx182_0, sx182_1, xn182_0⟩ := hQ182
    have c183 : Sta Z T182.heap "java/lang/String" "COMPACT_STRINGS" "Z" (.int s_COMPACT_STRINGS) := own_staKeep c157 K182q all0
    have c184 : Sta Z T182.heap "java/util/ArrayList" "DEFAULTCAPACITY_EMPTY_ELEMENTDATA" "[Ljava/lang/Object;" (.ref dd) := own_staKeep c158 K182q all0
    have c185 : own_Arl Z T182.heap dd 0 := c159.keep K182q nin0
    have c186 : Exa Z T182.heap b4 "java/util/ArrayList" := c160.keep K182q
    have c187 : Exa Z T182.heap b20 "java/util/ArrayList" := c164.keep K182q
    have c188 : Fld Z T182.heap b20 "java/util/AbstractList" "modCount" "I" (.int (0 : Int32)) := c165.keep K182q nin0
    have c189 : Fld Z T182.heap b20 "java/util/ArrayList" "elementData" "[Ljava/lang/Object;" (.ref dd) := c166.keep K182q nin0
    have c190 : Fld Z T182.heap b20 "java/util/ArrayList" "size" "I" (.int (0 : Int32)) := c167.keep K182q nin0
    have c191 : Exa Z T182.heap b45 "java/util/ArrayList" := c168.keep K182q
    have c192 : Fld Z T182.heap b45 "java/util/AbstractList" "modCount" "I" (.int (0 : Int32)) := c169.keep K182q nin0
    have c193 : Fld Z T182.heap b45 "java/util/ArrayList" "elementData" "[Ljava/lang/Object;" (.ref dd) := c170.keep K182q nin0
    have c194 : Fld Z T182.heap b45 "java/util/ArrayList" "size" "I" (.int (0 : Int32)) := c171.keep K182q nin0
    have c195 : Exa Z T182.heap bx132_rb "java/lang/String" := c172.keep K182q
    have c196 : Fld Z T182.heap bx132_rb "java/lang/String" "value" "[B" (.ref bx132_x2) := c173.keep K182q nin0
    have c197 : Fld Z T182.heap bx132_rb "java/lang/String" "coder" "B" (.int (nar .byte (0 : Int32))) := c174.keep K182q nin0
    have c198 : own_Ari Z T182.heap bx132_x2 .byte [(nar .byte (((p1 &&& (255 : Int32)).toUInt32.toUInt16.toUInt32.toInt32).toInt8.toInt32))] := c175.keep K182q nin0
    have c199 : Fld Z T182.heap b4 "java/util/AbstractList" "modCount" "I" (.int ((0 : Int32) + (1 : Int32))) := w156_0.keep K182q nin0
    have c200 : Fld Z T182.heap b4 "java/util/ArrayList" "elementData" "[Ljava/lang/Object;" (.ref bx156_x1) := w156_1.keep K182q nin0
    have c201 : Fld Z T182.heap b4 "java/util/ArrayList" "size" "I" (.int (1 : Int32)) := w156_2.keep K182q nin0
    have c202 : own_Aro Z T182.heap bx156_x1 10 := w156_3.keep K182q nin0
    have sz182_0 : h0.size ≤ bx182_rb := Nat.le_trans K156.1 sx182_0
    have ge182_0 : n0 ≤ bx182_rb := Nat.le_trans Z0 sz182_0
    have ne203 : dd ≠ bx182_rb := Nat.ne_of_lt (Nat.lt_of_lt_of_le c159.lt sx182_0)
    have ne204 : b4 ≠ bx182_rb := Nat.ne_of_lt (Nat.lt_of_lt_of_le c160.lt sx182_0)
    have ne205 : b20 ≠ bx182_rb := Nat.ne_of_lt (Nat.lt_of_lt_of_le c164.lt sx182_0)
    have ne206 : b45 ≠ bx182_rb := Nat.ne_of_lt (Nat.lt_of_lt_of_le c168.lt sx182_0)
    have ne207 : bx132_rb ≠ bx182_rb := Nat.ne_of_lt (Nat.lt_of_lt_of_le c172.lt sx182_0)
    have ne208 : bx132_x2 ≠ bx182_rb := Nat.ne_of_lt (Nat.lt_of_lt_of_le c175.lt sx182_0)
    have ne209 : bx156_x1 ≠ bx182_rb := Nat.ne_of_lt (Nat.lt_of_lt_of_le w156_3.lt sx182_0)
    have sz182_1 : h0.size ≤ bx182_x2 := Nat.le_trans K156.1 sx182_1
    have ge182_1 : n0 ≤ bx182_x2 := Nat.le_trans Z0 sz182_1
    have ne210 : dd ≠ bx182_x2 := Nat.ne_of_lt (Nat.lt_of_lt_of_le c159.lt sx182_1)
    have ne211 : b4 ≠ bx182_x2 := Nat.ne_of_lt (Nat.lt_of_lt_of_le c160.lt sx182_1)
    have ne212 : b20 ≠ bx182_x2 := Nat.ne_of_lt (Nat.lt_of_lt_of_le c164.lt sx182_1)
    have ne213 : b45 ≠ bx182_x2 := Nat.ne_of_lt (Nat.lt_of_lt_of_le c168.lt sx182_1)
    have ne214 : bx132_rb ≠ bx182_x2 := Nat.ne_of_lt (Nat.lt_of_lt_of_le c172.lt sx182_1)
    have ne215 : bx132_x2 ≠ bx182_x2 := Nat.ne_of_lt (Nat.lt_of_lt_of_le c175.lt sx182_1)
    have ne216 : bx156_x1 ≠ bx182_x2 := Nat.ne_of_lt (Nat.lt_of_lt_of_le w156_3.lt sx182_1)
    have K182 : Keep h0 T182.heap [] := K156.trans K182q all0
    have N182 : Fr n0 L182 := by rw [l182]; exact Fr.app N156 N182q
    refine own_step st182 ?_
    clear K156 K182q N156 N182q X156 c157 c158 c159 c160 c164 c165 c166 c167 c168 c169 c170 c171 c172 c173 c174 c175 st182 sx182_0 sx182_1 w156_0 w156_1 w156_2 w156_3
    show own_G p.tables e below _ (T182.setTop (mkF m 100 #[.val (.int p1), .val (.int p2), .val (.long q3), .second, .val (.int cd), .val (.int to), .val (.int wl), .val (.ref b4), .val (.ref b20), .val (.ref b45), .unset, .unset] [(.ref bx182_rb), (.ref b45)]))
    obtain ⟨cq217, kq217, q217a, q217b, q217c⟩ := isOf hZ rfl c191
    obtain ⟨_, _, ⟨T217, L217, k217, n217⟩, -, X217, ⟨Lc217, hQ217, l217, y217, z217⟩, st217⟩ := X182.virtualBack hx (y := (⟨"java/util/ArrayList", "add", "(Ljava/lang/Object;)Z"⟩ : MethodName)) (z := (⟨"java/util/ArrayList", "add", "(Ljava/lang/Object;)Z"⟩ : MethodName)) hown (mvT hZ (hw _ (List.mem_of_getElem? (i := 50) rfl))) (mvT hZ (hw _ (List.mem_of_getElem? (i := 51) rfl))) (notFace_of_selects (args := #[]) (mvT hZ (hw _ (List.mem_of_getElem? (i := 53) rfl)))) (mvT hZ (hw _ (List.mem_of_getElem? (i := 53) rfl))) (mvT hZ (hw _ (List.mem_of_getElem? (i := 52) rfl))) (by decide) (backOf (W := 0) (rm9 l Z a0 hw [] b45 bx182_rb dd (0 : Int32) T182.heap n0 (Nat.le_trans Z0 K182.1) c191 c192 c193 c194 w182_0 c184 c185 ge45 ne46) hZ (hw _ (List.mem_of_getElem? (i := 54) rfl)) (hw _ (List.mem_of_getElem? (i := 2) rfl)) (by decide) (by decide)) q217a q217c (g := (mkF m 100 #[.val (.int p1), .val (.int p2), .val (.long q3), .second, .val (.int cd), .val (.int to), .val (.int wl), .val (.ref b4), .val (.ref b20), .val (.ref b45), .unset, .unset] [(.ref bx182_rb), (.ref b45)])) rfl (by rw [hml]; rfl) (Steps.refl _) (argsL := [(.ref bx182_rb)]) (rest := []) (lenOf pd_0_4 rfl) rfl (by show 2 * 0 + _ ≤ _; exact Nat.le_of_eq rfl) (hb hby at_100) (fun _ _ => ⟨rfl, rfl, (by decide : 8 + 1 ≤ _), (by decide : 29 + 10 ≤ _)⟩)
    dsimp only [Pt.U, Pt.locs, Pt.cells, Pt.slots] at X217 l217 y217 z217 st217 hQ217
    subst y217 z217
    obtain ⟨bx217_x1, rfl, N217q, K217q, w217_0, w217_1, w217_2, w217_3, sx217_0⟩ := hQ217
    have c218 : Sta Z T217.heap "java/lang/String" "COMPACT_STRINGS" "Z" (.int s_COMPACT_STRINGS) := own_staKeep c183 K217q (allS (own_nsE c191) all0)
    have c219 : Sta Z T217.heap "java/util/ArrayList" "DEFAULTCAPACITY_EMPTY_ELEMENTDATA" "[Ljava/lang/Object;" (.ref dd) := own_staKeep c184 K217q (allS (own_nsE c191) all0)
    have c220 : own_Arl Z T217.heap dd 0 := c185.keep K217q (ninS ne46 nin0)
    have c221 : Exa Z T217.heap b4 "java/util/ArrayList" := c186.keep K217q
    have c222 : Exa Z T217.heap b20 "java/util/ArrayList" := c187.keep K217q
    have c223 : Fld Z T217.heap b20 "java/util/AbstractList" "modCount" "I" (.int (0 : Int32)) := c188.keep K217q (ninS ne48 nin0)
    have c224 : Fld Z T217.heap b20 "java/util/ArrayList" "elementData" "[Ljava/lang/Object;" (.ref dd) := c189.keep K217q (ninS ne48 nin0)
    have c225 : Fld Z T217.heap b20 "java/util/ArrayList" "size" "I" (.int (0 : Int32)) := c190.keep K217q (ninS ne48 nin0)
    have c226 : Exa Z T217.heap b45 "java/util/ArrayList" := c191.keep K217q
    have c230 : Exa Z T217.heap bx132_rb "java/lang/String" := c195.keep K217q
    have c231 : Fld Z T217.heap bx132_rb "java/lang/String" "value" "[B" (.ref bx132_x2) := c196.keep K217q (ninS (Ne.symm ne151) nin0)
    have c232 : Fld Z T217.heap bx132_rb "java/lang/String" "coder" "B" (.int (nar .byte (0 : Int32))) := c197.keep K217q (ninS (Ne.symm ne151) nin0)
    have c233 : own_Ari Z T217.heap bx132_x2 .byte [(nar .byte (((p1 &&& (255 : Int32)).toUInt32.toUInt16.toUInt32.toInt32).toInt8.toInt32))] := c198.keep K217q (ninS (Ne.symm ne155) nin0)
    have c234 : Fld Z T217.heap b4 "java/util/AbstractList" "modCount" "I" (.int ((0 : Int32) + (1 : Int32))) := c199.keep K217q (ninS ne47 nin0)
    have c235 : Fld Z T217.heap b4 "java/util/ArrayList" "elementData" "[Ljava/lang/Object;" (.ref bx156_x1) := c200.keep K217q (ninS ne47 nin0)
    have c236 : Fld Z T217.heap b4 "java/util/ArrayList" "size" "I" (.int (1 : Int32)) := c201.keep K217q (ninS ne47 nin0)
    have c237 : own_Aro Z T217.heap bx156_x1 10 := c202.keep K217q (ninS (Ne.symm ne179) nin0)
    have c238 : Exa Z T217.heap bx182_rb "java/lang/String" := w182_0.keep K217q
    have c239 : Fld Z T217.heap bx182_rb "java/lang/String" "value" "[B" (.ref bx182_x2) := w182_1.keep K217q (ninS (Ne.symm ne206) nin0)
    have c240 : Fld Z T217.heap bx182_rb "java/lang/String" "coder" "B" (.int (nar .byte (0 : Int32))) := w182_2.keep K217q (ninS (Ne.symm ne206) nin0)
    have c241 : own_Ari Z T217.heap bx182_x2 .byte [(nar .byte (((((p2.toUInt32 >>> ((8 : Int32) &&& 31).toUInt32).toInt32) &&& (255 : Int32)).toUInt32.toUInt16.toUInt32.toInt32).toInt8.toInt32))] := w182_3.keep K217q (ninS (Ne.symm ne213) nin0)
    have sz217_0 : h0.size ≤ bx217_x1 := Nat.le_trans K182.1 sx217_0
    have ge217_0 : n0 ≤ bx217_x1 := Nat.le_trans Z0 sz217_0
    have ne242 : dd ≠ bx217_x1 := Nat.ne_of_lt (Nat.lt_of_lt_of_le c185.lt sx217_0)
    have ne243 : b4 ≠ bx217_x1 := Nat.ne_of_lt (Nat.lt_of_lt_of_le c186.lt sx217_0)
    have ne244 : b20 ≠ bx217_x1 := Nat.ne_of_lt (Nat.lt_of_lt_of_le c187.lt sx217_0)
    have ne245 : b45 ≠ bx217_x1 := Nat.ne_of_lt (Nat.lt_of_lt_of_le c191.lt sx217_0)
    have ne246 : bx132_rb ≠ bx217_x1 := Nat.ne_of_lt (Nat.lt_of_lt_of_le c195.lt sx217_0)
    have ne247 : bx132_x2 ≠ bx217_x1 := Nat.ne_of_lt (Nat.lt_of_lt_of_le c198.lt sx217_0)
    have ne248 : bx156_x1 ≠ bx217_x1 := Nat.ne_of_lt (Nat.lt_of_lt_of_le c202.lt sx217_0)
    have ne249 : bx182_rb ≠ bx217_x1 := Nat.ne_of_lt (Nat.lt_of_lt_of_le w182_0.lt sx217_0)
    have ne250 : bx182_x2 ≠ bx217_x1 := Nat.ne_of_lt (Nat.lt_of_lt_of_le w182_3.lt sx217_0)
    have K217 : Keep h0 T217.heap [] := K182.trans K217q (allS (Or.inr sz45) all0)
    have N217 : Fr n0 L217 := by rw [l217]; exact Fr.app N182 N217q
    refine own_step (fun t k => st217.trans k) ?_
    clear K182 K217q N182 N217q X182 c183 c184 c185 c186 c187 c188 c189 c190 c191 c192 c193 c194 c195 c196 c197 c198 c199 c200 c201 c202 q217a q217b q217c st217 sx217_0 w182_0 w182_1 w182_2 w182_3
    show own_G p.tables e below _ (T217.setTop (mkF m 103 #[.val (.int p1), .val (.int p2), .val (.long q3), .second, .val (.int cd), .val (.int to), .val (.int wl), .val (.ref b4), .val (.ref b20), .val (.ref b45), .unset, .unset] [(.int (1 : Int32))]))
    refine own_step (fun t k => XS.pop X217.here hx rfl (hb hby at_103) rfl rfl k) ?_
    show own_G p.tables e below _ (T217.setTop (mkF m 104 #[.val (.int p1), .val (.int p2), .val (.long q3), .second, .val (.int cd), .val (.int to), .val (.int wl), .val (.ref b4), .val (.ref b20), .val (.ref b45), .unset, .unset] []))
    obtain ⟨T251, h251, X251, e251, E251, A251, D251, -, st251⟩ := newO X217 hx hZ hown (hw _ (List.mem_of_getElem? (i := 81) rfl)) (hw _ (List.mem_of_getElem? (i := 82) rfl)) (hw _ (List.mem_of_getElem? (i := 83) rfl)) rfl (g := (mkF m 104 #[.val (.int p1), .val (.int p2), .val (.long q3), .second, .val (.int cd), .val (.int to), .val (.int wl), .val (.ref b4), .val (.ref b20), .val (.ref b45), .unset, .unset] [])) rfl (hb hby at_104) (by decide) (by decide)
    obtain ⟨b251, g251⟩ : ∃ z, z = T217.heap.size := ⟨_, rfl⟩
    have ne252 : dd ≠ b251 := Nat.ne_of_lt (Nat.lt_of_lt_of_le c220.lt (Nat.le_of_eq g251.symm))
    have ne253 : b4 ≠ b251 := Nat.ne_of_lt (Nat.lt_of_lt_of_le c221.lt (Nat.le_of_eq g251.symm))
    have ne254 : b20 ≠ b251 := Nat.ne_of_lt (Nat.lt_of_lt_of_le c222.lt (Nat.le_of_eq g251.symm))
    have ne255 : b45 ≠ b251 := Nat.ne_of_lt (Nat.lt_of_lt_of_le c226.lt (Nat.le_of_eq g251.symm))
    have ne256 : bx132_rb ≠ b251 := Nat.ne_of_lt (Nat.lt_of_lt_of_le c230.lt (Nat.le_of_eq g251.symm))
    have ne257 : bx132_x2 ≠ b251 := Nat.ne_of_lt (Nat.lt_of_lt_of_le c233.lt (Nat.le_of_eq g251.symm))
    have ne258 : bx156_x1 ≠ b251 := Nat.ne_of_lt (Nat.lt_of_lt_of_le c237.lt (Nat.le_of_eq g251.symm))
    have ne259 : bx182_rb ≠ b251 := Nat.ne_of_lt (Nat.lt_of_lt_of_le c238.lt (Nat.le_of_eq g251.symm))
    have ne260 : bx182_x2 ≠ b251 := Nat.ne_of_lt (Nat.lt_of_lt_of_le c241.lt (Nat.le_of_eq g251.symm))
    have ne261 : bx217_x1 ≠ b251 := Nat.ne_of_lt (Nat.lt_of_lt_of_le w217_3.lt (Nat.le_of_eq g251.symm))
    have sz251 : h0.size ≤ b251 := Nat.le_trans K217.1 (Nat.le_of_eq g251.symm)
    have ge251 : n0 ≤ b251 := Nat.le_trans Z0 sz251
    have c262 : Sta Z h251 "java/lang/String" "COMPACT_STRINGS" "Z" (.int s_COMPACT_STRINGS) := c218.ext E251
    have c263 : Sta Z h251 "java/util/ArrayList" "DEFAULTCAPACITY_EMPTY_ELEMENTDATA" "[Ljava/lang/Object;" (.ref dd) := c219.ext E251
    have c264 : own_Arl Z h251 dd 0 := c220.ext E251
    have c265 : Exa Z h251 b4 "java/util/ArrayList" := c221.ext E251
    have c266 : Exa Z h251 b20 "java/util/ArrayList" := c222.ext E251
    have c267 : Fld Z h251 b20 "java/util/AbstractList" "modCount" "I" (.int (0 : Int32)) := c223.ext E251
    have c268 : Fld Z h251 b20 "java/util/ArrayList" "elementData" "[Ljava/lang/Object;" (.ref dd) := c224.ext E251
    have c269 : Fld Z h251 b20 "java/util/ArrayList" "size" "I" (.int (0 : Int32)) := c225.ext E251
    have c270 : Exa Z h251 b45 "java/util/ArrayList" := c226.ext E251
    have c271 : Exa Z h251 bx132_rb "java/lang/String" := c230.ext E251
    have c272 : Fld Z h251 bx132_rb "java/lang/String" "value" "[B" (.ref bx132_x2) := c231.ext E251
    have c273 : Fld Z h251 bx132_rb "java/lang/String" "coder" "B" (.int (nar .byte (0 : Int32))) := c232.ext E251
    have c274 : own_Ari Z h251 bx132_x2 .byte [(nar .byte (((p1 &&& (255 : Int32)).toUInt32.toUInt16.toUInt32.toInt32).toInt8.toInt32))] := c233.ext E251
    have c275 : Fld Z h251 b4 "java/util/AbstractList" "modCount" "I" (.int ((0 : Int32) + (1 : Int32))) := c234.ext E251
    have c276 : Fld Z h251 b4 "java/util/ArrayList" "elementData" "[Ljava/lang/Object;" (.ref bx156_x1) := c235.ext E251
    have c277 : Fld Z h251 b4 "java/util/ArrayList" "size" "I" (.int (1 : Int32)) := c236.ext E251
    have c278 : own_Aro Z h251 bx156_x1 10 := c237.ext E251
    have c279 : Exa Z h251 bx182_rb "java/lang/String" := c238.ext E251
    have c280 : Fld Z h251 bx182_rb "java/lang/String" "value" "[B" (.ref bx182_x2) := c239.ext E251
    have c281 : Fld Z h251 bx182_rb "java/lang/String" "coder" "B" (.int (nar .byte (0 : Int32))) := c240.ext E251
    have c282 : own_Ari Z h251 bx182_x2 .byte [(nar .byte (((((p2.toUInt32 >>> ((8 : Int32) &&& 31).toUInt32).toInt32) &&& (255 : Int32)).toUInt32.toUInt16.toUInt32.toInt32).toInt8.toInt32))] := c241.ext E251
    have c283 : Fld Z h251 b45 "java/util/AbstractList" "modCount" "I" (.int ((0 : Int32) + (1 : Int32))) := w217_0.ext E251
    have c284 : Fld Z h251 b45 "java/util/ArrayList" "elementData" "[Ljava/lang/Object;" (.ref bx217_x1) := w217_1.ext E251
    have c285 : Fld Z h251 b45 "java/util/ArrayList" "size" "I" (.int (1 : Int32)) := w217_2.ext E251
    have c286 : own_Aro Z h251 bx217_x1 10 := w217_3.ext E251
    have K251 : Keep h0 h251 [] := K217.ext E251
    rw [← g251] at A251 D251 st251
    have c287 : Fld Z h251 b251 "com/example/brisktest/brisktest/Maven$Run" "exitCode" "I" (.int (0 : Int32)) := D251 (Or.inr (hw _ (List.mem_of_getElem? (i := 94) rfl))) (ty := .int) (by decide)
    have c288 : Fld Z h251 b251 "com/example/brisktest/brisktest/Maven$Run" "timedOut" "Z" (.int (0 : Int32)) := D251 (Or.inr (hw _ (List.mem_of_getElem? (i := 96) rfl))) (ty := .boolean) (by decide)
    have c289 : Fld Z h251 b251 "com/example/brisktest/brisktest/Maven$Run" "durationMillis" "J" (.long (0 : Int64)) := D251 (Or.inr (hw _ (List.mem_of_getElem? (i := 98) rfl))) (ty := .long) (by decide)
    have c290 : Fld Z h251 b251 "com/example/brisktest/brisktest/Maven$Run" "errorLines" "Ljava/util/List;" .null := D251 (Or.inr (hw _ (List.mem_of_getElem? (i := 100) rfl))) (ty := (.object "java/util/List")) (by decide)
    have c291 : Fld Z h251 b251 "com/example/brisktest/brisktest/Maven$Run" "compilationErrors" "Ljava/util/List;" .null := D251 (Or.inr (hw _ (List.mem_of_getElem? (i := 102) rfl))) (ty := (.object "java/util/List")) (by decide)
    have c292 : Fld Z h251 b251 "com/example/brisktest/brisktest/Maven$Run" "unfinishedTestClasses" "Ljava/util/List;" .null := D251 (Or.inr (hw _ (List.mem_of_getElem? (i := 104) rfl))) (ty := (.object "java/util/List")) (by decide)
    refine own_step st251 ?_
    clear D251 E251 K217 X217 c218 c219 c220 c221 c222 c223 c224 c225 c226 c230 c231 c232 c233 c234 c235 c236 c237 c238 c239 c240 c241 g251 st251 w217_0 w217_1 w217_2 w217_3
    show own_G p.tables e below _ (T251.setTop (mkF m 107 #[.val (.int p1), .val (.int p2), .val (.long q3), .second, .val (.int cd), .val (.int to), .val (.int wl), .val (.ref b4), .val (.ref b20), .val (.ref b45), .unset, .unset] [(.ref b251)]))
    refine own_step (fun t k => XS.dup X251.here hx rfl (hb hby at_107) rfl rfl k) ?_
    show own_G p.tables e below _ (T251.setTop (mkF m 108 #[.val (.int p1), .val (.int p2), .val (.long q3), .second, .val (.int cd), .val (.int to), .val (.int wl), .val (.ref b4), .val (.ref b20), .val (.ref b45), .unset, .unset] [(.ref b251), (.ref b251)]))
    refine own_step (fun t k => XS.iload X251.here hx rfl (hb hby at_108) rfl k) ?_
    show own_G p.tables e below _ (T251.setTop (mkF m 110 #[.val (.int p1), .val (.int p2), .val (.long q3), .second, .val (.int cd), .val (.int to), .val (.int wl), .val (.ref b4), .val (.ref b20), .val (.ref b45), .unset, .unset] [(.int cd), (.ref b251), (.ref b251)]))
    refine own_step (fun t k => XS.iload X251.here hx rfl (hb hby at_110) rfl k) ?_
    show own_G p.tables e below _ (T251.setTop (mkF m 112 #[.val (.int p1), .val (.int p2), .val (.long q3), .second, .val (.int cd), .val (.int to), .val (.int wl), .val (.ref b4), .val (.ref b20), .val (.ref b45), .unset, .unset] [(.int to), (.int cd), (.ref b251), (.ref b251)]))
    refine own_step (fun t k => XS.lloadN X251.here hx rfl (hb hby at_112) rfl k) ?_
    show own_G p.tables e below _ (T251.setTop (mkF m 113 #[.val (.int p1), .val (.int p2), .val (.long q3), .second, .val (.int cd), .val (.int to), .val (.int wl), .val (.ref b4), .val (.ref b20), .val (.ref b45), .unset, .unset] [(.long q3), (.int to), (.int cd), (.ref b251), (.ref b251)]))
    refine own_step (fun t k => XS.aload X251.here hx rfl (hb hby at_113) rfl rfl k) ?_
    show own_G p.tables e below _ (T251.setTop (mkF m 115 #[.val (.int p1), .val (.int p2), .val (.long q3), .second, .val (.int cd), .val (.int to), .val (.int wl), .val (.ref b4), .val (.ref b20), .val (.ref b45), .unset, .unset] [(.ref b4), (.long q3), (.int to), (.int cd), (.ref b251), (.ref b251)]))
    refine own_step (fun t k => XS.aload X251.here hx rfl (hb hby at_115) rfl rfl k) ?_
    show own_G p.tables e below _ (T251.setTop (mkF m 117 #[.val (.int p1), .val (.int p2), .val (.long q3), .second, .val (.int cd), .val (.int to), .val (.int wl), .val (.ref b4), .val (.ref b20), .val (.ref b45), .unset, .unset] [(.ref b20), (.ref b4), (.long q3), (.int to), (.int cd), (.ref b251), (.ref b251)]))
    refine own_step (fun t k => XS.aload X251.here hx rfl (hb hby at_117) rfl rfl k) ?_
    show own_G p.tables e below _ (T251.setTop (mkF m 119 #[.val (.int p1), .val (.int p2), .val (.long q3), .second, .val (.int cd), .val (.int to), .val (.int wl), .val (.ref b4), .val (.ref b20), .val (.ref b45), .unset, .unset] [(.ref b45), (.ref b20), (.ref b4), (.long q3), (.int to), (.int cd), (.ref b251), (.ref b251)]))
    obtain ⟨_, _, ⟨T293, L293, k293, n293⟩, -, X293, ⟨Lc293, hQ293, l293, y293, z293⟩, st293⟩ := X251.specialBack hx (y := (⟨"com/example/brisktest/brisktest/Maven$Run", "<init>", "(IZJLjava/util/List;Ljava/util/List;Ljava/util/List;)V"⟩ : MethodName)) rfl hown (mvT hZ (hw _ (List.mem_of_getElem? (i := 84) rfl))) (mvT hZ (hw _ (List.mem_of_getElem? (i := 85) rfl))) (mvT hZ (hw _ (List.mem_of_getElem? (i := 86) rfl))) (by decide) (backOf (W := 1) (rm14 l Z a0 hw [] b251 cd to q3 b4 b20 b45 (.int (0 : Int32)) (.int (0 : Int32)) (.long (0 : Int64)) .null .null .null h251 n0 (Nat.le_trans Z0 K251.1) A251 c287 c288 c289 c290 c291 c292 ge251) hZ (hw _ (List.mem_of_getElem? (i := 86) rfl)) (hw _ (List.mem_of_getElem? (i := 83) rfl)) (by decide) (by decide)) (g := (mkF m 119 #[.val (.int p1), .val (.int p2), .val (.long q3), .second, .val (.int cd), .val (.int to), .val (.int wl), .val (.ref b4), .val (.ref b20), .val (.ref b45), .unset, .unset] [(.ref b45), (.ref b20), (.ref b4), (.long q3), (.int to), (.int cd), (.ref b251), (.ref b251)])) rfl (by rw [hml]; rfl) (Steps.refl _) (a := b251) (argsL := [(.int cd), (.int to), (.long q3), (.ref b4), (.ref b20), (.ref b45)]) (rest := [(.ref b251)]) (lenOf pd_0_1 rfl) rfl (by show 2 * 0 + _ ≤ _; exact Nat.le_of_eq rfl) (hb hby at_119) (fun _ _ => ⟨rfl, e251, (by decide : 10 + 0 ≤ _), (by decide : 45 + 0 ≤ _)⟩)
    dsimp only [Pt.U, Pt.locs, Pt.cells, Pt.slots] at X293 l293 y293 z293 st293 hQ293
    subst y293 z293
    obtain ⟨rfl, N293q, K293q, w293_0, w293_1, w293_2, w293_3, w293_4, w293_5⟩ := hQ293
    have c294 : Sta Z T293.heap "java/lang/String" "COMPACT_STRINGS" "Z" (.int s_COMPACT_STRINGS) := own_staKeep c262 K293q (allS (own_nsE A251) all0)
    have c295 : Sta Z T293.heap "java/util/ArrayList" "DEFAULTCAPACITY_EMPTY_ELEMENTDATA" "[Ljava/lang/Object;" (.ref dd) := own_staKeep c263 K293q (allS (own_nsE A251) all0)
    have c296 : own_Arl Z T293.heap dd 0 := c264.keep K293q (ninS ne252 nin0)
    have c297 : Exa Z T293.heap b4 "java/util/ArrayList" := c265.keep K293q
    have c298 : Exa Z T293.heap b20 "java/util/ArrayList" := c266.keep K293q
    have c299 : Fld Z T293.heap b20 "java/util/AbstractList" "modCount" "I" (.int (0 : Int32)) := c267.keep K293q (ninS ne254 nin0)
    have c300 : Fld Z T293.heap b20 "java/util/ArrayList" "elementData" "[Ljava/lang/Object;" (.ref dd) := c268.keep K293q (ninS ne254 nin0)
    have c301 : Fld Z T293.heap b20 "java/util/ArrayList" "size" "I" (.int (0 : Int32)) := c269.keep K293q (ninS ne254 nin0)
    have c302 : Exa Z T293.heap b45 "java/util/ArrayList" := c270.keep K293q
    have c303 : Exa Z T293.heap bx132_rb "java/lang/String" := c271.keep K293q
    have c304 : Fld Z T293.heap bx132_rb "java/lang/String" "value" "[B" (.ref bx132_x2) := c272.keep K293q (ninS ne256 nin0)
    have c305 : Fld Z T293.heap bx132_rb "java/lang/String" "coder" "B" (.int (nar .byte (0 : Int32))) := c273.keep K293q (ninS ne256 nin0)
    have c306 : own_Ari Z T293.heap bx132_x2 .byte [(nar .byte (((p1 &&& (255 : Int32)).toUInt32.toUInt16.toUInt32.toInt32).toInt8.toInt32))] := c274.keep K293q (ninS ne257 nin0)
    have c307 : Fld Z T293.heap b4 "java/util/AbstractList" "modCount" "I" (.int ((0 : Int32) + (1 : Int32))) := c275.keep K293q (ninS ne253 nin0)
    have c308 : Fld Z T293.heap b4 "java/util/ArrayList" "elementData" "[Ljava/lang/Object;" (.ref bx156_x1) := c276.keep K293q (ninS ne253 nin0)
    have c309 : Fld Z T293.heap b4 "java/util/ArrayList" "size" "I" (.int (1 : Int32)) := c277.keep K293q (ninS ne253 nin0)
    have c310 : own_Aro Z T293.heap bx156_x1 10 := c278.keep K293q (ninS ne258 nin0)
    have c311 : Exa Z T293.heap bx182_rb "java/lang/String" := c279.keep K293q
    have c312 : Fld Z T293.heap bx182_rb "java/lang/String" "value" "[B" (.ref bx182_x2) := c280.keep K293q (ninS ne259 nin0)
    have c313 : Fld Z T293.heap bx182_rb "java/lang/String" "coder" "B" (.int (nar .byte (0 : Int32))) := c281.keep K293q (ninS ne259 nin0)
    have c314 : own_Ari Z T293.heap bx182_x2 .byte [(nar .byte (((((p2.toUInt32 >>> ((8 : Int32) &&& 31).toUInt32).toInt32) &&& (255 : Int32)).toUInt32.toUInt16.toUInt32.toInt32).toInt8.toInt32))] := c282.keep K293q (ninS ne260 nin0)
    have c315 : Fld Z T293.heap b45 "java/util/AbstractList" "modCount" "I" (.int ((0 : Int32) + (1 : Int32))) := c283.keep K293q (ninS ne255 nin0)
    have c316 : Fld Z T293.heap b45 "java/util/ArrayList" "elementData" "[Ljava/lang/Object;" (.ref bx217_x1) := c284.keep K293q (ninS ne255 nin0)
    have c317 : Fld Z T293.heap b45 "java/util/ArrayList" "size" "I" (.int (1 : Int32)) := c285.keep K293q (ninS ne255 nin0)
    have c318 : own_Aro Z T293.heap bx217_x1 10 := c286.keep K293q (ninS ne261 nin0)
    have c319 : Exa Z T293.heap b251 "com/example/brisktest/brisktest/Maven$Run" := A251.keep K293q
    have K293 : Keep h0 T293.heap [] := K251.trans K293q (allS (Or.inr sz251) all0)
    have N293 : Fr n0 L293 := by rw [l293]; exact Fr.app N217 N293q
    refine own_step (fun t k => st293.trans k) ?_
    clear A251 K251 K293q N217 N293q X251 c262 c263 c264 c265 c266 c267 c268 c269 c270 c271 c272 c273 c274 c275 c276 c277 c278 c279 c280 c281 c282 c283 c284 c285 c286 c287 c288 c289 c290 c291 c292 e251 st293
    show own_G p.tables e below _ (T293.setTop (mkF m 122 #[.val (.int p1), .val (.int p2), .val (.long q3), .second, .val (.int cd), .val (.int to), .val (.int wl), .val (.ref b4), .val (.ref b20), .val (.ref b45), .unset, .unset] [(.ref b251)]))
    refine own_step (fun t k => XS.astore X293.here hx rfl (hb hby at_122) rfl rfl (l' := #[.val (.int p1), .val (.int p2), .val (.long q3), .second, .val (.int cd), .val (.int to), .val (.int wl), .val (.ref b4), .val (.ref b20), .val (.ref b45), .val (.ref b251), .unset]) rfl k) ?_
    show own_G p.tables e below _ (T293.setTop (mkF m 124 #[.val (.int p1), .val (.int p2), .val (.long q3), .second, .val (.int cd), .val (.int to), .val (.int wl), .val (.ref b4), .val (.ref b20), .val (.ref b45), .val (.ref b251), .unset] []))
    refine own_step (fun t k => XS.iload X293.here hx rfl (hb hby at_124) rfl k) ?_
    show own_G p.tables e below _ (T293.setTop (mkF m 126 #[.val (.int p1), .val (.int p2), .val (.long q3), .second, .val (.int cd), .val (.int to), .val (.int wl), .val (.ref b4), .val (.ref b20), .val (.ref b45), .val (.ref b251), .unset] [(.int cd)]))
    refine own_imp (B := T293.setTop (mkF m 134 #[.val (.int p1), .val (.int p2), .val (.long q3), .second, .val (.int cd), .val (.int to), .val (.int wl), .val (.ref b4), .val (.ref b20), .val (.ref b45), .val (.ref b251), .unset] [(.int (if cd = (0 : Int32) then (1 : Int32) else (0 : Int32)))])) (fun k0 => ?_) ?_
    · by_cases hc326 : cd = (0 : Int32)
      · simp only [if_pos hc326] at k0
        refine own_step (fun t k => XS.ifNo X293.here hx rfl (hb hby at_126) rfl ((if0 _ _).trans (teq hc326).2) k) ?_
        show own_G p.tables e below _ (T293.setTop (mkF m 129 #[.val (.int p1), .val (.int p2), .val (.long q3), .second, .val (.int cd), .val (.int to), .val (.int wl), .val (.ref b4), .val (.ref b20), .val (.ref b45), .val (.ref b251), .unset] []))
        refine own_step (fun t k => XS.iconst X293.here hx rfl (hb hby at_129) k) ?_
        show own_G p.tables e below _ (T293.setTop (mkF m 130 #[.val (.int p1), .val (.int p2), .val (.long q3), .second, .val (.int cd), .val (.int to), .val (.int wl), .val (.ref b4), .val (.ref b20), .val (.ref b45), .val (.ref b251), .unset] [(.int (1 : Int32))]))
        refine own_step (fun t k => XS.goto X293.here hx rfl (pc0 := 130) (pc' := 134) rfl (hb hby at_130) (by decide) (by decide) k) ?_
        show own_G p.tables e below _ (T293.setTop (mkF m 134 #[.val (.int p1), .val (.int p2), .val (.long q3), .second, .val (.int cd), .val (.int to), .val (.int wl), .val (.ref b4), .val (.ref b20), .val (.ref b45), .val (.ref b251), .unset] [(.int (1 : Int32))]))
        exact k0
      · simp only [if_neg hc326] at k0
        refine own_step (fun t k => XS.ifYes X293.here hx rfl (pc0 := 126) (pc' := 133) rfl (hb hby at_126) rfl ((if0 _ _).trans (feq hc326).2) (by decide) (by decide) k) ?_
        show own_G p.tables e below _ (T293.setTop (mkF m 133 #[.val (.int p1), .val (.int p2), .val (.long q3), .second, .val (.int cd), .val (.int to), .val (.int wl), .val (.ref b4), .val (.ref b20), .val (.ref b45), .val (.ref b251), .unset] []))
        refine own_step (fun t k => XS.iconst X293.here hx rfl (hb hby at_133) k) ?_
        show own_G p.tables e below _ (T293.setTop (mkF m 134 #[.val (.int p1), .val (.int p2), .val (.long q3), .second, .val (.int cd), .val (.int to), .val (.int wl), .val (.ref b4), .val (.ref b20), .val (.ref b45), .val (.ref b251), .unset] [(.int (0 : Int32))]))
        exact k0
    show own_G p.tables e below _ (T293.setTop (mkF m 134 #[.val (.int p1), .val (.int p2), .val (.long q3), .second, .val (.int cd), .val (.int to), .val (.int wl), .val (.ref b4), .val (.ref b20), .val (.ref b45), .val (.ref b251), .unset] [(.int (if cd = (0 : Int32) then (1 : Int32) else (0 : Int32)))]))
    refine own_nm ((if cd = (0 : Int32) then (1 : Int32) else (0 : Int32)) : Int32) (fun ex => T293.setTop (mkF m 134 #[.val (.int p1), .val (.int p2), .val (.long q3), .second, .val (.int cd), .val (.int to), .val (.int wl), .val (.ref b4), .val (.ref b20), .val (.ref b45), .val (.ref b251), .unset] [(.int ex)])) ?_
    intro ex hd_ex
    show own_G p.tables e below _ (T293.setTop (mkF m 134 #[.val (.int p1), .val (.int p2), .val (.long q3), .second, .val (.int cd), .val (.int to), .val (.int wl), .val (.ref b4), .val (.ref b20), .val (.ref b45), .val (.ref b251), .unset] [(.int ex)]))
    refine own_step (fun t k => XS.istore X293.here hx rfl (hb hby at_134) rfl (l' := #[.val (.int p1), .val (.int p2), .val (.long q3), .second, .val (.int cd), .val (.int to), .val (.int wl), .val (.ref b4), .val (.ref b20), .val (.ref b45), .val (.ref b251), .val (.int ex)]) rfl k) ?_
    show own_G p.tables e below _ (T293.setTop (mkF m 136 #[.val (.int p1), .val (.int p2), .val (.long q3), .second, .val (.int cd), .val (.int to), .val (.int wl), .val (.ref b4), .val (.ref b20), .val (.ref b45), .val (.ref b251), .val (.int ex)] []))
    refine own_step (fun t k => XS.aload X293.here hx rfl (hb hby at_136) rfl rfl k) ?_
    show own_G p.tables e below _ (T293.setTop (mkF m 138 #[.val (.int p1), .val (.int p2), .val (.long q3), .second, .val (.int cd), .val (.int to), .val (.int wl), .val (.ref b4), .val (.ref b20), .val (.ref b45), .val (.ref b251), .val (.int ex)] [(.ref b251)]))
    obtain ⟨cq327, kq327, q327a, q327b, q327c⟩ := isOf hZ rfl c319
    obtain ⟨_, _, ⟨T327, L327, k327, n327⟩, -, X327, ⟨Lc327, hQ327, l327, y327, z327⟩, st327⟩ := X293.virtualBack hx (y := (⟨"com/example/brisktest/brisktest/Maven$Run", "succeeded", "()Z"⟩ : MethodName)) (z := (⟨"com/example/brisktest/brisktest/Maven$Run", "succeeded", "()Z"⟩ : MethodName)) hown (mvT hZ (hw _ (List.mem_of_getElem? (i := 105) rfl))) (mvT hZ (hw _ (List.mem_of_getElem? (i := 106) rfl))) (notFace_of_selects (args := #[]) (mvT hZ (hw _ (List.mem_of_getElem? (i := 108) rfl)))) (mvT hZ (hw _ (List.mem_of_getElem? (i := 108) rfl))) (mvT hZ (hw _ (List.mem_of_getElem? (i := 107) rfl))) (by decide) (backOf (W := 0) (rm16 l Z a0 hw [] b251 cd T293.heap n0 (Nat.le_trans Z0 K293.1) w293_0) hZ (hw _ (List.mem_of_getElem? (i := 109) rfl)) (hw _ (List.mem_of_getElem? (i := 83) rfl)) (by decide) (by decide)) q327a q327c (g := (mkF m 138 #[.val (.int p1), .val (.int p2), .val (.long q3), .second, .val (.int cd), .val (.int to), .val (.int wl), .val (.ref b4), .val (.ref b20), .val (.ref b45), .val (.ref b251), .val (.int ex)] [(.ref b251)])) rfl (by rw [hml]; rfl) (Steps.refl _) (argsL := []) (rest := []) (lenOf pd_0_2 rfl) rfl (by show 2 * 0 + _ ≤ _; exact Nat.le_of_eq rfl) (hb hby at_138) (fun _ _ => ⟨rfl, rfl, (by decide : 10 + 0 ≤ _), (by decide : 45 + 0 ≤ _)⟩)
    dsimp only [Pt.U, Pt.locs, Pt.cells, Pt.slots] at X327 l327 y327 z327 st327 hQ327
    subst y327 z327
    obtain ⟨rfl, N327q, e327⟩ := hQ327
    have N327 : Fr n0 L327 := by rw [l327]; exact Fr.app N293 N327q
    refine own_step (fun t k => st327.trans k) ?_
    show own_G p.tables e below _ (T327.setTop (mkF m 141 #[.val (.int p1), .val (.int p2), .val (.long q3), .second, .val (.int cd), .val (.int to), .val (.int wl), .val (.ref b4), .val (.ref b20), .val (.ref b45), .val (.ref b251), .val (.int ex)] [(.int (own_f16 cd))]))
    refine own_step (fun t k => XS.iload X327.here hx rfl (hb hby at_141) rfl k) ?_
    show own_G p.tables e below _ (T327.setTop (mkF m 143 #[.val (.int p1), .val (.int p2), .val (.long q3), .second, .val (.int cd), .val (.int to), .val (.int wl), .val (.ref b4), .val (.ref b20), .val (.ref b45), .val (.ref b251), .val (.int ex)] [(.int ex), (.int (own_f16 cd))]))
    have hk328 : (own_f16 cd) = ex := (by rw [hd_ex]; rfl)
    refine own_step (fun t k => XS.icmpNo X327.here hx rfl (hb hby at_143) rfl ((teq hk328).2) k) ?_
    show own_G p.tables e below _ (T327.setTop (mkF m 146 #[.val (.int p1), .val (.int p2), .val (.long q3), .second, .val (.int cd), .val (.int to), .val (.int wl), .val (.ref b4), .val (.ref b20), .val (.ref b45), .val (.ref b251), .val (.int ex)] []))
    refine own_step (fun t k => XS.iconst X327.here hx rfl (hb hby at_146) k) ?_
    show own_G p.tables e below _ (T327.setTop (mkF m 147 #[.val (.int p1), .val (.int p2), .val (.long q3), .second, .val (.int cd), .val (.int to), .val (.int wl), .val (.ref b4), .val (.ref b20), .val (.ref b45), .val (.ref b251), .val (.int ex)] [(.int (1 : Int32))]))
    refine own_step (fun t k => XS.goto X327.here hx rfl (pc0 := 147) (pc' := 151) rfl (hb hby at_147) (by decide) (by decide) k) ?_
    show own_G p.tables e below _ (T327.setTop (mkF m 151 #[.val (.int p1), .val (.int p2), .val (.long q3), .second, .val (.int cd), .val (.int to), .val (.int wl), .val (.ref b4), .val (.ref b20), .val (.ref b45), .val (.ref b251), .val (.int ex)] [(.int (1 : Int32))]))
    obtain ⟨fs, hr, hrun, hended, hW, hsame⟩ := X327.leave (v := some (.int (1 : Int32))) (fun h => by rw [Bd.returns] at h; cases h)
    refine own_done (retN X327 hx (t := .boolean) Bd.returns (by simp) (hb hby at_151) hr) hrun hended ⟨_, _, rfl, ?_, ⟨_, rfl⟩, hW, hsame.mono (by decide) (by decide)⟩
    show Q0 Z p1 p2 q3 dd s_COMPACT_STRINGS h0 n0 _ T327.heap _
    rw [e327]
    exact ⟨rfl, N327⟩
set_option maxRecDepth 65536 in
set_option maxHeartbeats 40000000 in
theorem comes_1 {Post : Tables → Env → Array Value → State → Outcome → State → Prop} (hpost : ∀ tb e args s v u, (limb_1_1.after args s (.returned v) u = true ∧ limb_1_2.after args s (.returned v) u = true ∧ True) → FrameEnd s (.returned v) u (Jvm.fieldLocs frame_1_writes args s ++ Jvm.arrayLocs frame_1_arrays args s ++ Jvm.staticLocs frame_1_statics s) 32 192 → Post tb e args s (.returned v) u) :
    ArmFor flags0 classFile x code maxLocals ret World_1 tables_1 room_1 Calls_1 rest_1 Pre_1 Post := by
  intro l hfl _ _ p e ha hc hk s m args below hf hA hF happ hP
  obtain ⟨hcalls, hrest, hpre⟩ := hP
  obtain ⟨-, -, -, hnamed, -, -, -, hat⟩ := (Spec.applies_iff hf).mp happ
  obtain ⟨hg, hn⟩ := and_e (Cond.before_iff.mp (show (Jvm.Cond.and given_1 narrow_1).before args s = true from hpre))
  obtain ⟨g1, g2⟩ := and_e hg
  obtain ⟨g3, g4⟩ := and_e g2
  obtain ⟨g5, g6⟩ := and_e g4
  obtain ⟨w0, w1, w2, rfl⟩ : ∃ w0 w1 w2 : Value, args = #[w0, w1, w2] := by
    have hs : args.size = 3 := by simpa [Cond.value, given_1] using g1
    obtain ⟨L⟩ := args
    match L, hs with
    | [w0, w1, w2], _ => exact ⟨w0, w1, w2, rfl⟩
  have hw := fun d (hd : d ∈ tables_1) => atoms_spec (ws := Jvm.Cond.code x code maxLocals ret :: tables_1) hat d (List.mem_cons_of_mem _ hd)
  obtain ⟨hsets, hown0⟩ := atoms_of _ (rest_1_c_eq ▸ (show rest_1_c.before _ s = true from hrest))
  obtain ⟨cs0, ecs0⟩ := is_v (Cond.before_iff.mp (hsets _ (List.mem_of_getElem? (i := 10) rfl)))
  have fcs : Sta s s.heap "java/lang/String" "COMPACT_STRINGS" "Z" (.int cs0) := Sta.start ecs0 (Or.inl (hsets _ (List.mem_of_getElem? (i := 9) rfl)))
  have hcw0 := hsets _ (List.mem_of_getElem? (i := 11) rfl)
  have hcsn : ¬ cs0 = (0 : Int32) := fun q => by
    subst q
    have hv := eq_i ecs0 (Term.int_eval (0 : Int32)) rfl
    have hv' := not_v (Cond.before_iff.mp hcw0)
    exact absurd (hv.symm.trans hv') (by decide)
  obtain ⟨dd0, edd⟩ := arr_v (Cond.before_iff.mp (hsets _ (List.mem_of_getElem? (i := 6) rfl)))
  have fdd : Sta s s.heap "java/util/ArrayList" "DEFAULTCAPACITY_EMPTY_ELEMENTDATA" "[Ljava/lang/Object;" (.ref dd0) := Sta.start edd (Or.inr ⟨(hw _ (List.mem_of_getElem? (i := 2) rfl)), hsets _ (List.mem_of_getElem? (i := 2) rfl)⟩)
  have fal : own_Arl s s.heap dd0 0 := own_arlS edd (Cond.before_iff.mp (hsets _ (List.mem_of_getElem? (i := 6) rfl))) (Jvm.Free.NT.SwA.eq_int (hsets _ (List.mem_of_getElem? (i := 8) rfl))) (by decide)
  obtain ⟨i0, ei0⟩ := is_v g3
  obtain rfl : w0 = (.int i0) := Option.some.inj ei0
  obtain ⟨i1, ei1⟩ := is_v g5
  obtain rfl : w1 = (.int i1) := Option.some.inj ei1
  obtain ⟨i2, ei2⟩ := isL_v g6
  obtain rfl : w2 = (.long i2) := Option.some.inj ei2
  obtain ⟨n, o, h1, h2, h3, _, L, rfl, ⟨rfl, N⟩, hq⟩ := rm0 l s _ hw tables_1 i0 i1 i2 dd0 cs0 s.heap s.heap.size (Nat.le_refl _) fcs fdd fal hcsn p e ha hc hk s m _ below hf ((Spec.applies_iff_loose hf).mp happ).1 ⟨rfl, State.Warmed39.refl s, rfl⟩ trivial
  refine ⟨n, _, h1, h2, h3, hpost _ _ _ _ _ _ ⟨Cond.after_iff.mpr rfl, Cond.after_iff.mpr (eq_i res_at (Term.int_eval (1)) rfl), trivial⟩ ⟨hq.1, hq.2.1, (hq.2.2.sift fun y hy => Or.inr (N y hy)).mono (by decide) (by decide)⟩⟩
theorem main_1_1 : Claimed_1_1 := comes_1 fun _ _ _ _ _ _ h hF => ⟨h.1, hF⟩
theorem main_1_2 : Claimed_1_2 := comes_1 fun _ _ _ _ _ _ h hF => ⟨h.2.1, hF⟩
end Jvm.Pilot.@@N@@
namespace Jvm.Pilot.@@N@@
open Jvm Jvm.ClassFile Sem Op Lib Jvm.Free Jvm.Stand Jvm.Pilot.@@N@@.Jvm.D
/-! MADE BY PROGRAM (witnessworld.py) out of the Statement's table words and the real class files: 28 classes; the members and pool entries that the words name. The judged class is class 1, her method 1. -/
namespace start1
open Jvm.ClassFile
def u (s : String) : CpInfo := .utf8 (stringToUtf16 s)
/-- a pool by its gaps: so many unusable entries, then the entry; so many at the end -/
def gap : Nat → List CpInfo → List CpInfo
  | 0, r => r
  | n + 1, r => .unusable :: gap n r
def poolList (es : List (Nat × CpInfo)) (last : Nat) : List CpInfo := es.foldr (fun e r => gap e.1 (e.2 :: r)) (gap last [])
def pool (es : List (Nat × CpInfo)) (last : Nat) : Array CpInfo := ⟨poolList es last⟩
def fileOf (pool : Array CpInfo) (this : Nat) (attrs : Array Attribute := #[]) (ms : Array MethodInfo := #[]) (fl : Nat := 33) (sup : Nat := 0) (ifs : Array Nat := #[]) (fds : Array FieldInfo := #[]) : ClassFile where
  minorVersion := 0
  majorVersion := 65
  constantPool := pool
  accessFlags := fl
  thisClass := this
  superClass := sup
  interfaces := ifs
  fields := fds
  methods := ms
  attributes := attrs
def plain (name : String) (sup : Option ClassId) : Class where
  name := name
  kind := .ordinary
  loader := none
  accessFlags := 33
  super := sup
  interfaces := #[]
  cf := none
  fields := #[]
  methods := #[]
  instanceTypes := #[]
  staticTypes := #[]
  resolved := #[]
  callSites := []
  init := .initialized
  statics := none
  mirror := none

def pool0 : Array CpInfo := pool [(5, u "<init>"), (0, u "()V"), (1, .class_ 10), (1, u "java/lang/Object")] 113

def k0c0 : Code := { maxStack := 0, maxLocals := 1, code := object_method_1_code, exceptionTable := #[], attributes := #[] }
def k0m0 : Method := { name := "<init>", desc := "()V", sig := { parameters := [], returnType := none }, accessFlags := 1, code := some k0c0 }
/-- java/lang/Object -/
def k0 : Class := { plain "java/lang/Object" none with
  accessFlags := 33
  interfaces := #[]
  cf := some (fileOf pool0 8 #[] #[{ accessFlags := 1, nameIndex := 5, descriptorIndex := 6, attributes := #[] }] 33 0 #[] #[])
  fields := #[]
  methods := #[k0m0]
  instanceTypes := #[]
  staticTypes := #[]
  resolved := Array.replicate 124 none
  statics := none }

def pool1 : Array CpInfo := pool [(2, .class_ 4), (0, .nameAndType 5 6), (0, u "java/lang/Object"), (0, u "<init>"), (0, u "()V"), (0, .class_ 8), (0, u "java/util/ArrayList"), (0, .methodref 7 3), (0, .methodref 11 12), (0, .class_ 13), (0, .nameAndType 14 15), (0, u "java/lang/String"), (0, u "valueOf"), (0, u "(C)Ljava/lang/String;"), (0, .methodref 7 17), (0, .nameAndType 18 19), (0, u "add"), (0, u "(Ljava/lang/Object;)Z"), (0, .class_ 21), (0, u "com/example/brisktest/brisktest/Maven$Run"), (0, .methodref 20 23), (0, .nameAndType 5 24), (0, u "(IZJLjava/util/List;Ljava/util/List;Ljava/util/List;)V"), (0, .methodref 20 26), (0, .nameAndType 27 28), (0, u "succeeded"), (0, u "()Z"), (0, .class_ 30), (0, u "com/example/brisktest/brisktest/RunSucceededPinLaw"), (2, u "law"), (0, u "(IIJ)Z")] 7

def k1m0 : Method := { name := "<init>", desc := "()V", sig := { parameters := [], returnType := none }, accessFlags := 1, code := none }
def k1c1 : Code := { maxStack := 9, maxLocals := 12, code := code, exceptionTable := #[], attributes := #[] }
def k1m1 : Method := { name := "law", desc := "(IIJ)Z", sig := { parameters := [.int, .int, .long], returnType := some .boolean }, accessFlags := 9, code := some k1c1 }
/-- com/example/brisktest/brisktest/RunSucceededPinLaw -/
def k1 : Class := { plain "com/example/brisktest/brisktest/RunSucceededPinLaw" (some 0) with
  accessFlags := 49
  interfaces := #[]
  cf := some (fileOf pool1 29 #[] #[{ accessFlags := 1, nameIndex := 5, descriptorIndex := 6, attributes := #[] }, { accessFlags := 9, nameIndex := 33, descriptorIndex := 34, attributes := #[] }] 49 2 #[] #[])
  fields := #[]
  methods := #[k1m0, k1m1]
  instanceTypes := #[]
  staticTypes := #[]
  resolved := Array.replicate 42 none
  statics := none }

def pool2 : Array CpInfo := pool [(8, .class_ 10), (1, u "java/lang/Iterable"), (24, .class_ 36), (0, u "java/lang/Object")] 25

/-- java/lang/Iterable -/
def k2 : Class := { plain "java/lang/Iterable" (some 0) with
  accessFlags := 1537
  interfaces := #[]
  cf := some (fileOf pool2 8 #[] #[] 1537 35 #[] #[])
  fields := #[]
  methods := #[]
  instanceTypes := #[]
  staticTypes := #[]
  resolved := Array.replicate 62 none
  statics := none }

def pool3 : Array CpInfo := pool [(10, .class_ 12), (1, u "java/util/Collection"), (47, .class_ 61), (0, u "java/lang/Object"), (0, .class_ 63), (0, u "java/lang/Iterable")] 51

/-- java/util/Collection -/
def k3 : Class := { plain "java/util/Collection" (some 0) with
  accessFlags := 1537
  interfaces := #[2]
  cf := some (fileOf pool3 10 #[] #[] 1537 60 #[62] #[])
  fields := #[]
  methods := #[]
  instanceTypes := #[]
  staticTypes := #[]
  resolved := Array.replicate 115 none
  statics := none }

def pool4 : Array CpInfo := pool [(1, .methodref 2 3), (0, .class_ 4), (0, .nameAndType 5 6), (0, u "java/lang/Object"), (0, u "<init>"), (0, u "()V"), (1, .class_ 10), (1, u "java/util/AbstractCollection"), (66, .class_ 78), (0, u "java/util/Collection")] 81

def k4c0 : Code := { maxStack := 1, maxLocals := 1, code := jdk_22_method_1_code, exceptionTable := #[], attributes := #[] }
def k4m0 : Method := { name := "<init>", desc := "()V", sig := { parameters := [], returnType := none }, accessFlags := 4, code := some k4c0 }
/-- java/util/AbstractCollection -/
def k4 : Class := { plain "java/util/AbstractCollection" (some 0) with
  accessFlags := 1057
  interfaces := #[3]
  cf := some (fileOf pool4 8 #[] #[{ accessFlags := 4, nameIndex := 5, descriptorIndex := 6, attributes := #[] }] 1057 2 #[77] #[])
  fields := #[]
  methods := #[k4m0]
  instanceTypes := #[]
  staticTypes := #[]
  resolved := Array.replicate 160 none
  statics := none }

def pool5 : Array CpInfo := pool [(8, .class_ 10), (1, u "java/util/SequencedCollection"), (15, .class_ 27), (0, u "java/lang/Object"), (0, .class_ 29), (0, u "java/util/Collection")] 27

/-- java/util/SequencedCollection -/
def k5 : Class := { plain "java/util/SequencedCollection" (some 0) with
  accessFlags := 1537
  interfaces := #[3]
  cf := some (fileOf pool5 8 #[] #[] 1537 26 #[28] #[])
  fields := #[]
  methods := #[]
  instanceTypes := #[]
  staticTypes := #[]
  resolved := Array.replicate 57 none
  statics := none }

def pool6 : Array CpInfo := pool [(8, .class_ 10), (1, u "java/util/List"), (92, .class_ 104), (0, u "java/lang/Object"), (15, .class_ 121), (0, u "java/util/SequencedCollection")] 129

/-- java/util/List -/
def k6 : Class := { plain "java/util/List" (some 0) with
  accessFlags := 1537
  interfaces := #[5]
  cf := some (fileOf pool6 8 #[] #[] 1537 103 #[120] #[])
  fields := #[]
  methods := #[]
  instanceTypes := #[]
  staticTypes := #[]
  resolved := Array.replicate 251 none
  statics := none }

def pool7 : Array CpInfo := pool [(1, .methodref 2 3), (0, .class_ 4), (0, .nameAndType 5 6), (0, u "java/util/AbstractCollection"), (0, u "<init>"), (0, u "()V"), (0, .fieldref 8 9), (0, .class_ 10), (0, .nameAndType 11 12), (0, u "java/util/AbstractList"), (0, u "modCount"), (0, u "I"), (64, .class_ 78), (0, u "java/util/AbstractList$Itr"), (3, .class_ 83), (0, u "java/util/AbstractList$ListItr"), (9, .class_ 94), (0, u "java/util/AbstractList$RandomAccessSubList"), (3, .class_ 99), (0, u "java/util/AbstractList$SubList"), (33, .class_ 134), (0, u "java/util/List"), (73, .class_ 209), (0, u "java/util/AbstractList$SubList$1"), (0, .class_ 211), (0, u "java/util/AbstractList$RandomAccessSpliterator")] 6

def k7c0 : Code := { maxStack := 2, maxLocals := 1, code := jdk_39_method_1_code, exceptionTable := #[], attributes := #[] }
def k7m0 : Method := { name := "<init>", desc := "()V", sig := { parameters := [], returnType := none }, accessFlags := 4, code := some k7c0 }
/-- java/util/AbstractList -/
def k7 : Class := { plain "java/util/AbstractList" (some 4) with
  accessFlags := 1057
  interfaces := #[6]
  cf := some (fileOf pool7 8 #[.nestMembers #[93, 98, 208, 210, 82, 77]] #[{ accessFlags := 4, nameIndex := 5, descriptorIndex := 6, attributes := #[] }] 1057 2 #[133] #[{ accessFlags := 132, nameIndex := 11, descriptorIndex := 12, attributes := #[] }])
  fields := #[{ name := "modCount", type := .int, accessFlags := 132, slot := 0, constantValue := 0 }]
  methods := #[k7m0]
  instanceTypes := #[.int]
  staticTypes := #[]
  resolved := Array.replicate 218 none
  statics := none }

def pool8 : Array CpInfo := pool [(1, .class_ 2), (0, u "java/util/RandomAccess"), (0, .class_ 4), (0, u "java/lang/Object")] 2

/-- java/util/RandomAccess -/
def k8 : Class := { plain "java/util/RandomAccess" (some 0) with
  accessFlags := 1537
  interfaces := #[]
  cf := some (fileOf pool8 1 #[] #[] 1537 3 #[] #[])
  fields := #[]
  methods := #[]
  instanceTypes := #[]
  staticTypes := #[]
  resolved := Array.replicate 7 none
  statics := none }

def pool9 : Array CpInfo := pool [(1, .class_ 2), (0, u "java/lang/Cloneable"), (0, .class_ 4), (0, u "java/lang/Object")] 2

/-- java/lang/Cloneable -/
def k9 : Class := { plain "java/lang/Cloneable" (some 0) with
  accessFlags := 1537
  interfaces := #[]
  cf := some (fileOf pool9 1 #[] #[] 1537 3 #[] #[])
  fields := #[]
  methods := #[]
  instanceTypes := #[]
  staticTypes := #[]
  resolved := Array.replicate 7 none
  statics := none }

def pool10 : Array CpInfo := pool [(1, .class_ 2), (0, u "java/io/Serializable"), (0, .class_ 4), (0, u "java/lang/Object")] 2

/-- java/io/Serializable -/
def k10 : Class := { plain "java/io/Serializable" (some 0) with
  accessFlags := 1537
  interfaces := #[]
  cf := some (fileOf pool10 1 #[] #[] 1537 3 #[] #[])
  fields := #[]
  methods := #[]
  instanceTypes := #[]
  staticTypes := #[]
  resolved := Array.replicate 7 none
  statics := none }

def pool11 : Array CpInfo := pool [(1, .methodref 2 3), (0, .class_ 4), (0, .nameAndType 5 6), (0, u "java/util/AbstractList"), (0, u "<init>"), (0, u "()V"), (0, .class_ 8), (0, u "java/lang/Object"), (0, .fieldref 10 11), (0, .class_ 12), (0, .nameAndType 13 14), (0, u "java/util/ArrayList"), (0, u "elementData"), (0, u "[Ljava/lang/Object;"), (2, u "EMPTY_ELEMENTDATA"), (21, .fieldref 10 40), (0, .nameAndType 41 14), (0, u "DEFAULTCAPACITY_EMPTY_ELEMENTDATA"), (5, u "()[Ljava/lang/Object;"), (0, .fieldref 10 49), (0, .nameAndType 50 51), (0, u "size"), (0, u "I"), (11, .fieldref 10 64), (0, .nameAndType 65 51), (0, u "modCount"), (3, .methodref 10 70), (0, .nameAndType 71 72), (0, u "grow"), (0, u "(I)[Ljava/lang/Object;"), (6, .methodref 80 81), (0, .class_ 82), (0, .nameAndType 83 84), (0, u "java/lang/Math"), (0, u "max"), (0, u "(II)I"), (11, u "(Ljava/lang/Object;)Z"), (32, .methodref 10 130), (0, .nameAndType 71 47), (0, .methodref 10 132), (0, .nameAndType 133 134), (0, u "add"), (0, u "(Ljava/lang/Object;[Ljava/lang/Object;I)V"), (13, .class_ 149), (0, u "java/util/List"), (112, .class_ 263), (0, u "java/util/ArrayList$ListItr"), (3, .class_ 268), (0, u "java/util/ArrayList$Itr"), (7, .class_ 277), (0, u "java/util/ArrayList$SubList"), (12, .class_ 291), (0, u "java/util/ArrayList$ArrayListSpliterator"), (37, .class_ 330), (0, u "java/util/RandomAccess"), (0, .class_ 332), (0, u "java/lang/Cloneable"), (0, .class_ 334), (0, u "java/io/Serializable"), (0, u "serialVersionUID"), (0, u "J"), (3, u "DEFAULT_CAPACITY"), (159, .class_ 501), (0, u "java/util/ArrayList$SubList$2"), (0, .class_ 503), (0, u "java/util/ArrayList$SubList$1")] 5

def k11c0 : Code := { maxStack := 2, maxLocals := 1, code := jdk_38_method_2_code, exceptionTable := #[], attributes := #[] }
def k11m0 : Method := { name := "<init>", desc := "()V", sig := { parameters := [], returnType := none }, accessFlags := 1, code := some k11c0 }
def k11c1 : Code := { maxStack := 4, maxLocals := 4, code := jdk_38_method_6_code, exceptionTable := #[], attributes := #[] }
def k11m1 : Method := { name := "grow", desc := "(I)[Ljava/lang/Object;", sig := { parameters := [.int], returnType := some (.array (.object "java/lang/Object")) }, accessFlags := 2, code := some k11c1 }
def k11c2 : Code := { maxStack := 3, maxLocals := 1, code := jdk_38_method_7_code, exceptionTable := #[], attributes := #[] }
def k11m2 : Method := { name := "grow", desc := "()[Ljava/lang/Object;", sig := { parameters := [], returnType := some (.array (.object "java/lang/Object")) }, accessFlags := 2, code := some k11c2 }
def k11c3 : Code := { maxStack := 3, maxLocals := 4, code := jdk_38_method_24_code, exceptionTable := #[], attributes := #[] }
def k11m3 : Method := { name := "add", desc := "(Ljava/lang/Object;[Ljava/lang/Object;I)V", sig := { parameters := [(.object "java/lang/Object"), (.array (.object "java/lang/Object")), .int], returnType := none }, accessFlags := 2, code := some k11c3 }
def k11c4 : Code := { maxStack := 4, maxLocals := 2, code := jdk_38_method_25_code, exceptionTable := #[], attributes := #[] }
def k11m4 : Method := { name := "add", desc := "(Ljava/lang/Object;)Z", sig := { parameters := [(.object "java/lang/Object")], returnType := some .boolean }, accessFlags := 1, code := some k11c4 }
/-- java/util/ArrayList -/
def k11 : Class := { plain "java/util/ArrayList" (some 7) with
  accessFlags := 33
  interfaces := #[6, 8, 9, 10]
  cf := some (fileOf pool11 10 #[.nestMembers #[290, 276, 500, 502, 262, 267]] #[{ accessFlags := 1, nameIndex := 5, descriptorIndex := 6, attributes := #[] }, { accessFlags := 2, nameIndex := 71, descriptorIndex := 72, attributes := #[] }, { accessFlags := 2, nameIndex := 71, descriptorIndex := 47, attributes := #[] }, { accessFlags := 2, nameIndex := 133, descriptorIndex := 134, attributes := #[] }, { accessFlags := 1, nameIndex := 133, descriptorIndex := 96, attributes := #[] }] 33 2 #[148, 329, 331, 333] #[{ accessFlags := 26, nameIndex := 335, descriptorIndex := 336, attributes := #[] }, { accessFlags := 26, nameIndex := 340, descriptorIndex := 51, attributes := #[] }, { accessFlags := 26, nameIndex := 17, descriptorIndex := 14, attributes := #[] }, { accessFlags := 26, nameIndex := 41, descriptorIndex := 14, attributes := #[] }, { accessFlags := 128, nameIndex := 13, descriptorIndex := 14, attributes := #[] }, { accessFlags := 2, nameIndex := 50, descriptorIndex := 51, attributes := #[] }])
  fields := #[{ name := "serialVersionUID", type := .long, accessFlags := 26, slot := 0, constantValue := 0 }, { name := "DEFAULT_CAPACITY", type := .int, accessFlags := 26, slot := 1, constantValue := 0 }, { name := "EMPTY_ELEMENTDATA", type := (.array (.object "java/lang/Object")), accessFlags := 26, slot := 2, constantValue := 0 }, { name := "DEFAULTCAPACITY_EMPTY_ELEMENTDATA", type := (.array (.object "java/lang/Object")), accessFlags := 26, slot := 3, constantValue := 0 }, { name := "elementData", type := (.array (.object "java/lang/Object")), accessFlags := 128, slot := 1, constantValue := 0 }, { name := "size", type := .int, accessFlags := 2, slot := 2, constantValue := 0 }]
  methods := #[k11m0, k11m1, k11m2, k11m3, k11m4]
  instanceTypes := #[.int, (.array (.object "java/lang/Object")), .int]
  staticTypes := #[.long, .int, (.array (.object "java/lang/Object")), (.array (.object "java/lang/Object"))]
  resolved := Array.replicate 509 none
  statics := some 0 }

def pool12 : Array CpInfo := pool [(1, .class_ 2), (0, u "java/lang/Comparable"), (0, .class_ 4), (0, u "java/lang/Object")] 7

/-- java/lang/Comparable -/
def k12 : Class := { plain "java/lang/Comparable" (some 0) with
  accessFlags := 1537
  interfaces := #[]
  cf := some (fileOf pool12 1 #[] #[] 1537 3 #[] #[])
  fields := #[]
  methods := #[]
  instanceTypes := #[]
  staticTypes := #[]
  resolved := Array.replicate 12 none
  statics := none }

def pool13 : Array CpInfo := pool [(2, .class_ 4), (1, u "java/lang/CharSequence"), (42, .class_ 48), (0, u "java/lang/CharSequence$1CodePointIterator"), (10, .class_ 60), (0, u "java/lang/CharSequence$1CharIterator"), (5, .class_ 67), (0, u "java/lang/Object")] 63

/-- java/lang/CharSequence -/
def k13 : Class := { plain "java/lang/CharSequence" (some 0) with
  accessFlags := 1537
  interfaces := #[]
  cf := some (fileOf pool13 2 #[.nestMembers #[47, 59]] #[] 1537 66 #[] #[])
  fields := #[]
  methods := #[]
  instanceTypes := #[]
  staticTypes := #[]
  resolved := Array.replicate 131 none
  statics := none }

def pool14 : Array CpInfo := pool [(1, .class_ 2), (0, u "java/lang/constant/Constable"), (0, .class_ 4), (0, u "java/lang/Object")] 6

/-- java/lang/constant/Constable -/
def k14 : Class := { plain "java/lang/constant/Constable" (some 0) with
  accessFlags := 1537
  interfaces := #[]
  cf := some (fileOf pool14 1 #[] #[] 1537 3 #[] #[])
  fields := #[]
  methods := #[]
  instanceTypes := #[]
  staticTypes := #[]
  resolved := Array.replicate 11 none
  statics := none }

def pool15 : Array CpInfo := pool [(1, .class_ 2), (0, u "java/lang/constant/ConstantDesc"), (0, .class_ 4), (0, u "java/lang/Object")] 32

/-- java/lang/constant/ConstantDesc -/
def k15 : Class := { plain "java/lang/constant/ConstantDesc" (some 0) with
  accessFlags := 1537
  interfaces := #[]
  cf := some (fileOf pool15 1 #[] #[] 1537 3 #[] #[])
  fields := #[]
  methods := #[]
  instanceTypes := #[]
  staticTypes := #[]
  resolved := Array.replicate 37 none
  statics := none }

def pool16 : Array CpInfo := pool [(1, .methodref 2 3), (0, .class_ 4), (0, .nameAndType 5 6), (0, u "java/lang/Object"), (0, u "<init>"), (0, u "()V"), (2, .fieldref 10 11), (0, .class_ 12), (0, .nameAndType 13 14), (0, u "java/lang/String"), (0, u "value"), (0, u "[B"), (0, .fieldref 10 16), (0, .nameAndType 17 18), (0, u "coder"), (0, u "B"), (2, u "hash"), (0, u "I"), (2, u "hashIsZero"), (0, u "Z"), (11, .fieldref 10 39), (0, .nameAndType 40 26), (0, u "COMPACT_STRINGS"), (12, u "toBytes"), (53, .class_ 109), (1, u "java/lang/StringLatin1"), (99, .methodref 10 210), (0, .nameAndType 5 211), (0, u "([BB)V"), (157, u "(C)Z"), (205, .class_ 576), (0, u "java/lang/CharSequence"), (22, u "CASE_INSENSITIVE_ORDER"), (0, u "Ljava/util/Comparator;"), (181, u "valueOf"), (0, u "(C)Ljava/lang/String;"), (231, .methodref 107 1016), (0, .nameAndType 1017 369), (0, u "canEncode"), (0, .methodref 107 1019), (0, .nameAndType 53 1020), (0, u "(C)[B"), (80, u "serialPersistentFields"), (0, u "[Ljava/io/ObjectStreamField;"), (0, .class_ 1104), (0, u "java/lang/String$CaseInsensitiveComparator"), (1, .class_ 1107), (0, u "java/io/Serializable"), (0, .class_ 1109), (0, u "java/lang/Comparable"), (0, .class_ 1111), (0, u "java/lang/constant/Constable"), (0, .class_ 1113), (0, u "java/lang/constant/ConstantDesc"), (2, u "serialVersionUID"), (0, u "J"), (3, u "REPL"), (0, u "C"), (2, u "LATIN1"), (1, u "UTF16")] 323

def k16m0 : Method := { name := "<init>", desc := "()V", sig := { parameters := [], returnType := none }, accessFlags := 1, code := none }
def k16c1 : Code := { maxStack := 4, maxLocals := 1, code := jdk_42_method_139_code, exceptionTable := #[], attributes := #[] }
def k16m1 : Method := { name := "valueOf", desc := "(C)Ljava/lang/String;", sig := { parameters := [.char], returnType := some (.object "java/lang/String") }, accessFlags := 9, code := some k16c1 }
def k16c2 : Code := { maxStack := 2, maxLocals := 3, code := jdk_42_method_151_code, exceptionTable := #[], attributes := #[] }
def k16m2 : Method := { name := "<init>", desc := "([BB)V", sig := { parameters := [(.array .byte), .byte], returnType := none }, accessFlags := 0, code := some k16c2 }
/-- java/lang/String -/
def k16 : Class := { plain "java/lang/String" (some 0) with
  accessFlags := 49
  interfaces := #[10, 12, 13, 14, 15]
  cf := some (fileOf pool16 10 #[.nestMembers #[1103]] #[{ accessFlags := 1, nameIndex := 5, descriptorIndex := 6, attributes := #[] }, { accessFlags := 9, nameIndex := 782, descriptorIndex := 783, attributes := #[] }, { accessFlags := 0, nameIndex := 5, descriptorIndex := 211, attributes := #[] }] 49 2 #[1106, 1108, 575, 1110, 1112] #[{ accessFlags := 18, nameIndex := 13, descriptorIndex := 14, attributes := #[] }, { accessFlags := 18, nameIndex := 17, descriptorIndex := 18, attributes := #[] }, { accessFlags := 2, nameIndex := 21, descriptorIndex := 22, attributes := #[] }, { accessFlags := 2, nameIndex := 25, descriptorIndex := 26, attributes := #[] }, { accessFlags := 26, nameIndex := 1116, descriptorIndex := 1117, attributes := #[] }, { accessFlags := 24, nameIndex := 40, descriptorIndex := 26, attributes := #[] }, { accessFlags := 26, nameIndex := 1101, descriptorIndex := 1102, attributes := #[] }, { accessFlags := 26, nameIndex := 1121, descriptorIndex := 1122, attributes := #[] }, { accessFlags := 25, nameIndex := 599, descriptorIndex := 600, attributes := #[] }, { accessFlags := 24, nameIndex := 1125, descriptorIndex := 18, attributes := #[] }, { accessFlags := 24, nameIndex := 1127, descriptorIndex := 18, attributes := #[] }])
  fields := #[{ name := "value", type := (.array .byte), accessFlags := 18, slot := 0, constantValue := 0 }, { name := "coder", type := .byte, accessFlags := 18, slot := 1, constantValue := 0 }, { name := "hash", type := .int, accessFlags := 2, slot := 2, constantValue := 0 }, { name := "hashIsZero", type := .boolean, accessFlags := 2, slot := 3, constantValue := 0 }, { name := "serialVersionUID", type := .long, accessFlags := 26, slot := 0, constantValue := 0 }, { name := "COMPACT_STRINGS", type := .boolean, accessFlags := 24, slot := 1, constantValue := 0 }, { name := "serialPersistentFields", type := (.array (.object "java/io/ObjectStreamField")), accessFlags := 26, slot := 2, constantValue := 0 }, { name := "REPL", type := .char, accessFlags := 26, slot := 3, constantValue := 0 }, { name := "CASE_INSENSITIVE_ORDER", type := (.object "java/util/Comparator"), accessFlags := 25, slot := 4, constantValue := 0 }, { name := "LATIN1", type := .byte, accessFlags := 24, slot := 5, constantValue := 0 }, { name := "UTF16", type := .byte, accessFlags := 24, slot := 6, constantValue := 0 }]
  methods := #[k16m0, k16m1, k16m2]
  instanceTypes := #[(.array .byte), .byte, .int, .boolean]
  staticTypes := #[.long, .boolean, (.array (.object "java/io/ObjectStreamField")), .char, (.object "java/util/Comparator"), .byte, .byte]
  resolved := Array.replicate 1451 none
  statics := some 1 }

def pool17 : Array CpInfo := pool [(4, .class_ 6), (1, u "java/lang/Object"), (0, u "<init>"), (0, u "()V"), (5, .class_ 16), (1, u "java/lang/StringLatin1"), (73, u "canEncode"), (14, u "(C)Z"), (15, u "$assertionsDisabled"), (0, u "Z"), (98, .class_ 223), (1, u "java/lang/StringLatin1$LinesSpliterator"), (156, u "toBytes"), (1, u "(C)[B"), (7, .class_ 391), (0, u "java/lang/StringLatin1$CharsSpliterator")] 3

def k17m0 : Method := { name := "<init>", desc := "()V", sig := { parameters := [], returnType := none }, accessFlags := 0, code := none }
def k17c1 : Code := { maxStack := 2, maxLocals := 1, code := jdk_43_method_3_code, exceptionTable := #[], attributes := #[] }
def k17m1 : Method := { name := "canEncode", desc := "(C)Z", sig := { parameters := [.char], returnType := some .boolean }, accessFlags := 9, code := some k17c1 }
def k17c2 : Code := { maxStack := 4, maxLocals := 1, code := jdk_43_method_46_code, exceptionTable := #[], attributes := #[] }
def k17m2 : Method := { name := "toBytes", desc := "(C)[B", sig := { parameters := [.char], returnType := some (.array .byte) }, accessFlags := 9, code := some k17c2 }
/-- java/lang/StringLatin1 -/
def k17 : Class := { plain "java/lang/StringLatin1" (some 0) with
  accessFlags := 48
  interfaces := #[]
  cf := some (fileOf pool17 14 #[.nestMembers #[390, 221]] #[{ accessFlags := 0, nameIndex := 7, descriptorIndex := 8, attributes := #[] }, { accessFlags := 9, nameIndex := 90, descriptorIndex := 105, attributes := #[] }, { accessFlags := 9, nameIndex := 380, descriptorIndex := 382, attributes := #[] }] 48 4 #[] #[{ accessFlags := 4120, nameIndex := 121, descriptorIndex := 122, attributes := #[] }])
  fields := #[{ name := "$assertionsDisabled", type := .boolean, accessFlags := 4120, slot := 0, constantValue := 0 }]
  methods := #[k17m0, k17m1, k17m2]
  instanceTypes := #[]
  staticTypes := #[.boolean]
  resolved := Array.replicate 395 none
  statics := none }

def pool18 : Array CpInfo := pool [(1, .class_ 2), (0, u "java/lang/Math"), (1, .class_ 6), (1, u "java/lang/Object"), (0, u "<init>"), (0, u "()V"), (89, .class_ 100), (1, u "java/lang/Math$RandomNumberGeneratorHolder"), (71, u "negativeZeroFloatBits"), (0, u "J"), (2, u "negativeZeroDoubleBits"), (21, u "max"), (46, u "$assertionsDisabled"), (0, u "Z"), (88, u "(II)I"), (2, u "twoToTheDoubleScaleDown"), (0, u "D"), (4, u "twoToTheDoubleScaleUp"), (9, u "E"), (3, u "PI"), (2, u "TAU"), (2, u "DEGREES_TO_RADIANS"), (0, u "RADIANS_TO_DEGREES")] 94

def k18m0 : Method := { name := "<init>", desc := "()V", sig := { parameters := [], returnType := none }, accessFlags := 2, code := none }
def k18c1 : Code := { maxStack := 2, maxLocals := 2, code := jdk_29_method_65_code, exceptionTable := #[], attributes := #[] }
def k18m1 : Method := { name := "max", desc := "(II)I", sig := { parameters := [.int, .int], returnType := some .int }, accessFlags := 9, code := some k18c1 }
/-- java/lang/Math -/
def k18 : Class := { plain "java/lang/Math" (some 0) with
  accessFlags := 49
  interfaces := #[]
  cf := some (fileOf pool18 1 #[.nestMembers #[98]] #[{ accessFlags := 2, nameIndex := 7, descriptorIndex := 8, attributes := #[] }, { accessFlags := 9, nameIndex := 198, descriptorIndex := 335, attributes := #[] }] 49 4 #[] #[{ accessFlags := 25, nameIndex := 354, descriptorIndex := 339, attributes := #[] }, { accessFlags := 25, nameIndex := 358, descriptorIndex := 339, attributes := #[] }, { accessFlags := 25, nameIndex := 361, descriptorIndex := 339, attributes := #[] }, { accessFlags := 26, nameIndex := 364, descriptorIndex := 339, attributes := #[] }, { accessFlags := 26, nameIndex := 365, descriptorIndex := 339, attributes := #[] }, { accessFlags := 26, nameIndex := 172, descriptorIndex := 173, attributes := #[] }, { accessFlags := 26, nameIndex := 176, descriptorIndex := 173, attributes := #[] }, { accessFlags := 8, nameIndex := 344, descriptorIndex := 339, attributes := #[] }, { accessFlags := 8, nameIndex := 338, descriptorIndex := 339, attributes := #[] }, { accessFlags := 4120, nameIndex := 245, descriptorIndex := 246, attributes := #[] }])
  fields := #[{ name := "E", type := .double, accessFlags := 25, slot := 0, constantValue := 0 }, { name := "PI", type := .double, accessFlags := 25, slot := 1, constantValue := 0 }, { name := "TAU", type := .double, accessFlags := 25, slot := 2, constantValue := 0 }, { name := "DEGREES_TO_RADIANS", type := .double, accessFlags := 26, slot := 3, constantValue := 0 }, { name := "RADIANS_TO_DEGREES", type := .double, accessFlags := 26, slot := 4, constantValue := 0 }, { name := "negativeZeroFloatBits", type := .long, accessFlags := 26, slot := 5, constantValue := 0 }, { name := "negativeZeroDoubleBits", type := .long, accessFlags := 26, slot := 6, constantValue := 0 }, { name := "twoToTheDoubleScaleUp", type := .double, accessFlags := 8, slot := 7, constantValue := 0 }, { name := "twoToTheDoubleScaleDown", type := .double, accessFlags := 8, slot := 8, constantValue := 0 }, { name := "$assertionsDisabled", type := .boolean, accessFlags := 4120, slot := 9, constantValue := 0 }]
  methods := #[k18m0, k18m1]
  instanceTypes := #[]
  staticTypes := #[.double, .double, .double, .double, .double, .long, .long, .double, .double, .boolean]
  resolved := Array.replicate 460 none
  statics := none }

def pool19 : Array CpInfo := pool [(1, .methodref 2 3), (0, .class_ 4), (0, .nameAndType 5 6), (0, u "java/lang/Object"), (0, u "<init>"), (0, u "()V"), (0, .class_ 8), (0, u "java/lang/Record")] 13

def k19c0 : Code := { maxStack := 1, maxLocals := 1, code := jdk_30_method_1_code, exceptionTable := #[], attributes := #[] }
def k19m0 : Method := { name := "<init>", desc := "()V", sig := { parameters := [], returnType := none }, accessFlags := 4, code := some k19c0 }
/-- java/lang/Record -/
def k19 : Class := { plain "java/lang/Record" (some 0) with
  accessFlags := 1057
  interfaces := #[]
  cf := some (fileOf pool19 7 #[] #[{ accessFlags := 4, nameIndex := 5, descriptorIndex := 6, attributes := #[] }] 1057 2 #[] #[])
  fields := #[]
  methods := #[k19m0]
  instanceTypes := #[]
  staticTypes := #[]
  resolved := Array.replicate 22 none
  statics := none }

def pool20 : Array CpInfo := pool [(1, .methodref 2 3), (0, .class_ 4), (0, .nameAndType 5 6), (0, u "java/lang/Record"), (0, u "<init>"), (0, u "()V"), (0, .fieldref 8 9), (0, .class_ 10), (0, .nameAndType 11 12), (0, u "com/example/brisktest/brisktest/Maven$Run"), (0, u "exitCode"), (0, u "I"), (0, .fieldref 8 14), (0, .nameAndType 15 16), (0, u "timedOut"), (0, u "Z"), (0, .fieldref 8 18), (0, .nameAndType 19 20), (0, u "durationMillis"), (0, u "J"), (0, .fieldref 8 22), (0, .nameAndType 23 24), (0, u "errorLines"), (0, u "Ljava/util/List;"), (0, .fieldref 8 26), (0, .nameAndType 27 24), (0, u "compilationErrors"), (0, .fieldref 8 29), (0, .nameAndType 30 24), (0, u "unfinishedTestClasses"), (15, u "(IZJLjava/util/List;Ljava/util/List;Ljava/util/List;)V"), (4, u "succeeded"), (0, u "()Z"), (11, .class_ 65), (0, u "com/example/brisktest/brisktest/Maven")] 24

def k20c0 : Code := { maxStack := 3, maxLocals := 8, code := prog_5_method_1_code, exceptionTable := #[], attributes := #[] }
def k20m0 : Method := { name := "<init>", desc := "(IZJLjava/util/List;Ljava/util/List;Ljava/util/List;)V", sig := { parameters := [.int, .boolean, .long, (.object "java/util/List"), (.object "java/util/List"), (.object "java/util/List")], returnType := none }, accessFlags := 0, code := some k20c0 }
def k20c1 : Code := { maxStack := 1, maxLocals := 1, code := prog_5_method_2_code, exceptionTable := #[], attributes := #[] }
def k20m1 : Method := { name := "succeeded", desc := "()Z", sig := { parameters := [], returnType := some .boolean }, accessFlags := 0, code := some k20c1 }
/-- com/example/brisktest/brisktest/Maven$Run -/
def k20 : Class := { plain "com/example/brisktest/brisktest/Maven$Run" (some 19) with
  accessFlags := 48
  interfaces := #[]
  cf := some (fileOf pool20 8 #[.nestHost 64] #[{ accessFlags := 0, nameIndex := 5, descriptorIndex := 46, attributes := #[] }, { accessFlags := 0, nameIndex := 51, descriptorIndex := 52, attributes := #[] }] 48 2 #[] #[{ accessFlags := 18, nameIndex := 11, descriptorIndex := 12, attributes := #[] }, { accessFlags := 18, nameIndex := 15, descriptorIndex := 16, attributes := #[] }, { accessFlags := 18, nameIndex := 19, descriptorIndex := 20, attributes := #[] }, { accessFlags := 18, nameIndex := 23, descriptorIndex := 24, attributes := #[] }, { accessFlags := 18, nameIndex := 27, descriptorIndex := 24, attributes := #[] }, { accessFlags := 18, nameIndex := 30, descriptorIndex := 24, attributes := #[] }])
  fields := #[{ name := "exitCode", type := .int, accessFlags := 18, slot := 0, constantValue := 0 }, { name := "timedOut", type := .boolean, accessFlags := 18, slot := 1, constantValue := 0 }, { name := "durationMillis", type := .long, accessFlags := 18, slot := 2, constantValue := 0 }, { name := "errorLines", type := (.object "java/util/List"), accessFlags := 18, slot := 3, constantValue := 0 }, { name := "compilationErrors", type := (.object "java/util/List"), accessFlags := 18, slot := 4, constantValue := 0 }, { name := "unfinishedTestClasses", type := (.object "java/util/List"), accessFlags := 18, slot := 5, constantValue := 0 }]
  methods := #[k20m0, k20m1]
  instanceTypes := #[.int, .boolean, .long, (.object "java/util/List"), (.object "java/util/List"), (.object "java/util/List")]
  staticTypes := #[]
  resolved := Array.replicate 90 none
  statics := none }

def pool21 : Array CpInfo := pool [(2, .class_ 4), (1, u "java/lang/Object"), (0, u "<init>"), (0, u "()V"), (17, .class_ 26), (1, u "jdk/internal/util/Preconditions"), (28, .class_ 56), (0, u "jdk/internal/util/Preconditions$4"), (57, .class_ 115), (0, u "jdk/internal/util/Preconditions$1"), (7, u "SIOOBE_FORMATTER"), (0, u "Ljava/util/function/BiFunction;"), (0, .class_ 126), (0, u "jdk/internal/util/Preconditions$2"), (3, u "AIOOBE_FORMATTER"), (0, .class_ 132), (0, u "jdk/internal/util/Preconditions$3"), (3, u "IOOBE_FORMATTER")] 57

def k21m0 : Method := { name := "<init>", desc := "()V", sig := { parameters := [], returnType := none }, accessFlags := 1, code := none }
/-- jdk/internal/util/Preconditions -/
def k21 : Class := { plain "jdk/internal/util/Preconditions" (some 0) with
  accessFlags := 33
  interfaces := #[]
  cf := some (fileOf pool21 24 #[.nestMembers #[55, 131, 125, 114]] #[{ accessFlags := 1, nameIndex := 5, descriptorIndex := 6, attributes := #[] }] 33 2 #[] #[{ accessFlags := 25, nameIndex := 123, descriptorIndex := 124, attributes := #[] }, { accessFlags := 25, nameIndex := 130, descriptorIndex := 124, attributes := #[] }, { accessFlags := 25, nameIndex := 136, descriptorIndex := 124, attributes := #[] }])
  fields := #[{ name := "SIOOBE_FORMATTER", type := (.object "java/util/function/BiFunction"), accessFlags := 25, slot := 0, constantValue := 0 }, { name := "AIOOBE_FORMATTER", type := (.object "java/util/function/BiFunction"), accessFlags := 25, slot := 1, constantValue := 0 }, { name := "IOOBE_FORMATTER", type := (.object "java/util/function/BiFunction"), accessFlags := 25, slot := 2, constantValue := 0 }]
  methods := #[k21m0]
  instanceTypes := #[]
  staticTypes := #[(.object "java/util/function/BiFunction"), (.object "java/util/function/BiFunction"), (.object "java/util/function/BiFunction")]
  resolved := Array.replicate 194 none
  statics := some 2 }

def pool22 : Array CpInfo := pool [(9, u "<init>"), (6, .class_ 18), (1, u "java/lang/Object"), (0, u "()V"), (1, .class_ 23), (1, u "jdk/internal/util/ArraysSupport"), (0, u "LOG2_ARRAY_LONG_INDEX_SCALE"), (0, u "I"), (2, u "U"), (0, u "Ljdk/internal/misc/Unsafe;"), (8, u "BIG_ENDIAN"), (0, u "Z"), (8, u "LOG2_BYTE_BIT_SIZE"), (4, u "LOG2_ARRAY_INT_INDEX_SCALE"), (54, u "JLA"), (0, u "Ljdk/internal/access/JavaLangAccess;"), (11, u "LOG2_ARRAY_BOOLEAN_INDEX_SCALE"), (9, u "LOG2_ARRAY_BYTE_INDEX_SCALE"), (5, u "LOG2_ARRAY_CHAR_INDEX_SCALE"), (5, u "LOG2_ARRAY_SHORT_INDEX_SCALE"), (18, u "LOG2_ARRAY_FLOAT_INDEX_SCALE"), (24, u "LOG2_ARRAY_DOUBLE_INDEX_SCALE"), (89, u "T_BOOLEAN"), (2, u "T_CHAR"), (1, u "T_FLOAT"), (1, u "T_DOUBLE"), (1, u "T_BYTE"), (1, u "T_SHORT"), (1, u "T_INT"), (1, u "T_LONG"), (1, u "SOFT_MAX_ARRAY_LENGTH")] 83

def k22m0 : Method := { name := "<init>", desc := "()V", sig := { parameters := [], returnType := none }, accessFlags := 2, code := none }
/-- jdk/internal/util/ArraysSupport -/
def k22 : Class := { plain "jdk/internal/util/ArraysSupport" (some 0) with
  accessFlags := 33
  interfaces := #[]
  cf := some (fileOf pool22 21 #[] #[{ accessFlags := 2, nameIndex := 9, descriptorIndex := 19, attributes := #[] }] 33 16 #[] #[{ accessFlags := 24, nameIndex := 28, descriptorIndex := 29, attributes := #[] }, { accessFlags := 26, nameIndex := 38, descriptorIndex := 39, attributes := #[] }, { accessFlags := 25, nameIndex := 121, descriptorIndex := 25, attributes := #[] }, { accessFlags := 25, nameIndex := 131, descriptorIndex := 25, attributes := #[] }, { accessFlags := 25, nameIndex := 137, descriptorIndex := 25, attributes := #[] }, { accessFlags := 25, nameIndex := 143, descriptorIndex := 25, attributes := #[] }, { accessFlags := 25, nameIndex := 53, descriptorIndex := 25, attributes := #[] }, { accessFlags := 25, nameIndex := 24, descriptorIndex := 25, attributes := #[] }, { accessFlags := 25, nameIndex := 162, descriptorIndex := 25, attributes := #[] }, { accessFlags := 25, nameIndex := 187, descriptorIndex := 25, attributes := #[] }, { accessFlags := 26, nameIndex := 48, descriptorIndex := 25, attributes := #[] }, { accessFlags := 25, nameIndex := 277, descriptorIndex := 25, attributes := #[] }, { accessFlags := 25, nameIndex := 280, descriptorIndex := 25, attributes := #[] }, { accessFlags := 25, nameIndex := 282, descriptorIndex := 25, attributes := #[] }, { accessFlags := 25, nameIndex := 284, descriptorIndex := 25, attributes := #[] }, { accessFlags := 25, nameIndex := 286, descriptorIndex := 25, attributes := #[] }, { accessFlags := 25, nameIndex := 288, descriptorIndex := 25, attributes := #[] }, { accessFlags := 25, nameIndex := 290, descriptorIndex := 25, attributes := #[] }, { accessFlags := 25, nameIndex := 292, descriptorIndex := 25, attributes := #[] }, { accessFlags := 26, nameIndex := 108, descriptorIndex := 109, attributes := #[] }, { accessFlags := 25, nameIndex := 294, descriptorIndex := 25, attributes := #[] }])
  fields := #[{ name := "U", type := (.object "jdk/internal/misc/Unsafe"), accessFlags := 24, slot := 0, constantValue := 0 }, { name := "BIG_ENDIAN", type := .boolean, accessFlags := 26, slot := 1, constantValue := 0 }, { name := "LOG2_ARRAY_BOOLEAN_INDEX_SCALE", type := .int, accessFlags := 25, slot := 2, constantValue := 0 }, { name := "LOG2_ARRAY_BYTE_INDEX_SCALE", type := .int, accessFlags := 25, slot := 3, constantValue := 0 }, { name := "LOG2_ARRAY_CHAR_INDEX_SCALE", type := .int, accessFlags := 25, slot := 4, constantValue := 0 }, { name := "LOG2_ARRAY_SHORT_INDEX_SCALE", type := .int, accessFlags := 25, slot := 5, constantValue := 0 }, { name := "LOG2_ARRAY_INT_INDEX_SCALE", type := .int, accessFlags := 25, slot := 6, constantValue := 0 }, { name := "LOG2_ARRAY_LONG_INDEX_SCALE", type := .int, accessFlags := 25, slot := 7, constantValue := 0 }, { name := "LOG2_ARRAY_FLOAT_INDEX_SCALE", type := .int, accessFlags := 25, slot := 8, constantValue := 0 }, { name := "LOG2_ARRAY_DOUBLE_INDEX_SCALE", type := .int, accessFlags := 25, slot := 9, constantValue := 0 }, { name := "LOG2_BYTE_BIT_SIZE", type := .int, accessFlags := 26, slot := 10, constantValue := 0 }, { name := "T_BOOLEAN", type := .int, accessFlags := 25, slot := 11, constantValue := 0 }, { name := "T_CHAR", type := .int, accessFlags := 25, slot := 12, constantValue := 0 }, { name := "T_FLOAT", type := .int, accessFlags := 25, slot := 13, constantValue := 0 }, { name := "T_DOUBLE", type := .int, accessFlags := 25, slot := 14, constantValue := 0 }, { name := "T_BYTE", type := .int, accessFlags := 25, slot := 15, constantValue := 0 }, { name := "T_SHORT", type := .int, accessFlags := 25, slot := 16, constantValue := 0 }, { name := "T_INT", type := .int, accessFlags := 25, slot := 17, constantValue := 0 }, { name := "T_LONG", type := .int, accessFlags := 25, slot := 18, constantValue := 0 }, { name := "JLA", type := (.object "jdk/internal/access/JavaLangAccess"), accessFlags := 26, slot := 19, constantValue := 0 }, { name := "SOFT_MAX_ARRAY_LENGTH", type := .int, accessFlags := 25, slot := 20, constantValue := 0 }]
  methods := #[k22m0]
  instanceTypes := #[]
  staticTypes := #[(.object "jdk/internal/misc/Unsafe"), .boolean, .int, .int, .int, .int, .int, .int, .int, .int, .int, .int, .int, .int, .int, .int, .int, .int, .int, (.object "jdk/internal/access/JavaLangAccess"), .int]
  resolved := Array.replicate 378 none
  statics := none }

/-- the primitive byte -/
def k23 : Class := { plain "byte" none with kind := .primitive 'B', accessFlags := 0x411 }
/-- [B -/
def k24 : Class := { plain "[B" (some 0) with kind := .array 23 .byte, interfaces := #[9, 10], accessFlags := 1041 }

/-- the primitive int -/
def k25 : Class := { plain "int" none with kind := .primitive 'I', accessFlags := 0x411 }
/-- [I -/
def k26 : Class := { plain "[I" (some 0) with kind := .array 25 .int, interfaces := #[9, 10], accessFlags := 1041 }

/-- [Ljava/lang/Object; -/
def k27 : Class := { plain "[Ljava/lang/Object;" (some 0) with kind := .array 0 (.object "java/lang/Object"), interfaces := #[9, 10], accessFlags := 1041 }

def heap : Heap := #[{ cls := 11, slots := #[.long 0, .int 0, .ref 3, .ref 4], vm := .statics 11 },
  { cls := 16, slots := #[.long 0, .int 1, .null, .int 0, .null, .int 0, .int 0], vm := .statics 16 },
  { cls := 21, slots := #[.null, .null, .null], vm := .statics 21 },
  { cls := 27, slots := #[], vm := .none },
  { cls := 27, slots := #[], vm := .none }]
def classes : Array Class := #[k0, k1, k2, k3, k4, k5, k6, k7, k8, k9, k10, k11, k12, k13, k14, k15, k16, k17, k18, k19, k20, k21, k22, k23, k24, k25, k26, k27]
def interned : List (Array UInt16 × Addr) := []
def slotsUsed : Nat := 14
def theMethod : MethodId := ⟨1, 1⟩
def args0 : Array Value := #[.int 5, .int 7, .long 3]
def aboutOver (below : List Frame) : State where
  vm := { classes := classes, interned := interned.toArray }
  heap := heap
  slotsUsed := slotsUsed
  threads := #[{ frames := .invoking theMethod args0 :: below }]
def below0 : List Frame := [.native { method := ⟨0, 0⟩, args := #[] }]
def about1 : State := aboutOver below0
def p0 : Program := .bare "" "" ""
def e0 : Env := launch0.env 0 0 0
theorem w_frames : about1.frames = Frame.invoking theMethod args0 :: below0 := rfl
set_option maxRecDepth 65536 in
theorem w_args : argsFit about1.vm theMethod args0 = true := by decide +kernel
set_option maxRecDepth 65536 in
theorem w_heap : heapFits about1 = true := by decide +kernel
set_option maxRecDepth 65536 in
theorem w_runnable : about1.curStatus? = some .runnable := by decide +kernel
set_option maxRecDepth 65536 in
theorem w_alone : about1.alone = true := by decide +kernel
set_option maxRecDepth 65536 in
theorem w_named : about1.methodNamed? x = some theMethod := by decide +kernel
set_option maxRecDepth 65536 in
theorem w_hears : about1.hears theMethod below0 = true := by decide +kernel
set_option maxRecDepth 65536 in
theorem w_ripe : about1.ripe theMethod args0 below0 = true := by decide +kernel
theorem w_running : about1.status = .running := rfl
set_option maxRecDepth 65536 in
theorem w_room : about1.hasRoom e0.platform room_1 = true :=
  launch0.hasRoom_least _ room_1 (by decide +kernel) (by decide +kernel) (by decide +kernel) (by decide +kernel) (by decide +kernel) (by decide +kernel)
theorem allAtoms_all (ts : List Jvm.Cond) (a : Array Jvm.Value) (st : Jvm.State) : (allAtoms ts).before a st = ts.all (fun c => c.before a st) := by
  induction ts with
  | nil => rfl
  | cons c t ih =>
    show (Jvm.Cond.and c (allAtoms t)).before a st = _
    rw [Jvm.Cond.before_and, ih, List.all_cons]
def words1 : List Jvm.Cond := Jvm.Cond.code x code maxLocals ret :: tables_1
/-- a 'code' word, met by the world's own term for the bytes: nothing is compared byte by byte -/
theorem code_word {y : MethodName} {bytes : ByteArray} {mx : Nat} {rt : Option FieldType} {a : Array Value} {s : State} {m : MethodId} {meth : Method} {c : Code} (h1 : s.methodNamed? y = some m) (h2 : s.vm.method? m = some meth) (h3 : meth.code = some c) (h4 : c.code = bytes)
    (h5 : (c.maxLocals == mx && c.exceptionTable.isEmpty && decide (c.maxStack ≤ mostOperands) && decide (meth.sig.returnType = rt) && !meth.locks && decide (parseMethodDescriptor y.desc = some meth.sig)) = true) : (Jvm.Cond.code y bytes mx rt).before a s = true := by
  simp only [Bool.and_eq_true, beq_iff_eq, Bool.not_eq_true', decide_eq_true_eq] at h5
  obtain ⟨⟨⟨⟨⟨g1, g2⟩, g3⟩, g4⟩, g5⟩, g6⟩ := h5
  simp [Cond.before, Cond.holds, Cond.value, h1, h2, h3, h4, g1, g2, g3, g4, g5, g6]
def isCode : Jvm.Cond → Bool
  | .code _ _ _ _ => true
  | _ => false
theorem all_split {L : List Jvm.Cond} {P : Jvm.Cond → Bool} (h1 : L.all (fun c => isCode c || P c) = true) (h2 : ∀ c ∈ L.filter isCode, P c = true) : L.all P = true := by
  refine List.all_eq_true.mpr fun c hc => ?_
  have h := List.all_eq_true.mp h1 c hc
  rcases Bool.eq_false_or_eq_true (isCode c) with hi | hi
  · exact h2 c (List.mem_filter.mpr ⟨hc, hi⟩)
  · simpa [hi] using h
set_option maxRecDepth 65536 in
theorem w_c0 : (Jvm.Cond.code x code maxLocals ret).before args0 about1 = true := code_word (m := ⟨1, 1⟩) (meth := k1m1) (c := k1c1) (by decide +kernel) rfl rfl rfl (by decide +kernel)
set_option maxRecDepth 65536 in
theorem w_c1 : (Jvm.Cond.code ({ cls := "java/util/ArrayList", name := "<init>", desc := "()V" } : Jvm.MethodName) jdk_38_method_2_code (1 : Nat) (Option.none : Option Jvm.ClassFile.FieldType)).before args0 about1 = true := code_word (m := ⟨11, 0⟩) (meth := k11m0) (c := k11c0) (by decide +kernel) rfl rfl rfl (by decide +kernel)
set_option maxRecDepth 65536 in
theorem w_c2 : (Jvm.Cond.code ({ cls := "java/util/AbstractList", name := "<init>", desc := "()V" } : Jvm.MethodName) jdk_39_method_1_code (1 : Nat) (Option.none : Option Jvm.ClassFile.FieldType)).before args0 about1 = true := code_word (m := ⟨7, 0⟩) (meth := k7m0) (c := k7c0) (by decide +kernel) rfl rfl rfl (by decide +kernel)
set_option maxRecDepth 65536 in
theorem w_c3 : (Jvm.Cond.code ({ cls := "java/util/AbstractCollection", name := "<init>", desc := "()V" } : Jvm.MethodName) jdk_22_method_1_code (1 : Nat) (Option.none : Option Jvm.ClassFile.FieldType)).before args0 about1 = true := code_word (m := ⟨4, 0⟩) (meth := k4m0) (c := k4c0) (by decide +kernel) rfl rfl rfl (by decide +kernel)
set_option maxRecDepth 65536 in
theorem w_c4 : (Jvm.Cond.code ({ cls := "java/lang/Object", name := "<init>", desc := "()V" } : Jvm.MethodName) object_method_1_code (1 : Nat) (Option.none : Option Jvm.ClassFile.FieldType)).before args0 about1 = true := code_word (m := ⟨0, 0⟩) (meth := k0m0) (c := k0c0) (by decide +kernel) rfl rfl rfl (by decide +kernel)
set_option maxRecDepth 65536 in
theorem w_c5 : (Jvm.Cond.code ({ cls := "java/lang/String", name := "valueOf", desc := "(C)Ljava/lang/String;" } : Jvm.MethodName) jdk_42_method_139_code (1 : Nat) (Option.some (Jvm.ClassFile.FieldType.object "java/lang/String"))).before args0 about1 = true := code_word (m := ⟨16, 1⟩) (meth := k16m1) (c := k16c1) (by decide +kernel) rfl rfl rfl (by decide +kernel)
set_option maxRecDepth 65536 in
theorem w_c6 : (Jvm.Cond.code ({ cls := "java/lang/StringLatin1", name := "canEncode", desc := "(C)Z" } : Jvm.MethodName) jdk_43_method_3_code (1 : Nat) (Option.some Jvm.ClassFile.FieldType.boolean)).before args0 about1 = true := code_word (m := ⟨17, 1⟩) (meth := k17m1) (c := k17c1) (by decide +kernel) rfl rfl rfl (by decide +kernel)
set_option maxRecDepth 65536 in
theorem w_c7 : (Jvm.Cond.code ({ cls := "java/lang/StringLatin1", name := "toBytes", desc := "(C)[B" } : Jvm.MethodName) jdk_43_method_46_code (1 : Nat) (Option.some (Jvm.ClassFile.FieldType.array Jvm.ClassFile.FieldType.byte))).before args0 about1 = true := code_word (m := ⟨17, 2⟩) (meth := k17m2) (c := k17c2) (by decide +kernel) rfl rfl rfl (by decide +kernel)
set_option maxRecDepth 65536 in
theorem w_c8 : (Jvm.Cond.code ({ cls := "java/lang/String", name := "<init>", desc := "([BB)V" } : Jvm.MethodName) jdk_42_method_151_code (3 : Nat) (Option.none : Option Jvm.ClassFile.FieldType)).before args0 about1 = true := code_word (m := ⟨16, 2⟩) (meth := k16m2) (c := k16c2) (by decide +kernel) rfl rfl rfl (by decide +kernel)
set_option maxRecDepth 65536 in
theorem w_c9 : (Jvm.Cond.code ({ cls := "java/util/ArrayList", name := "add", desc := "(Ljava/lang/Object;)Z" } : Jvm.MethodName) jdk_38_method_25_code (2 : Nat) (Option.some Jvm.ClassFile.FieldType.boolean)).before args0 about1 = true := code_word (m := ⟨11, 4⟩) (meth := k11m4) (c := k11c4) (by decide +kernel) rfl rfl rfl (by decide +kernel)
set_option maxRecDepth 65536 in
theorem w_c10 : (Jvm.Cond.code ({ cls := "java/util/ArrayList", name := "add", desc := "(Ljava/lang/Object;[Ljava/lang/Object;I)V" } : Jvm.MethodName) jdk_38_method_24_code (4 : Nat) (Option.none : Option Jvm.ClassFile.FieldType)).before args0 about1 = true := code_word (m := ⟨11, 3⟩) (meth := k11m3) (c := k11c3) (by decide +kernel) rfl rfl rfl (by decide +kernel)
set_option maxRecDepth 65536 in
theorem w_c11 : (Jvm.Cond.code ({ cls := "java/util/ArrayList", name := "grow", desc := "()[Ljava/lang/Object;" } : Jvm.MethodName) jdk_38_method_7_code (1 : Nat) (Option.some (Jvm.ClassFile.FieldType.array (Jvm.ClassFile.FieldType.object "java/lang/Object")))).before args0 about1 = true := code_word (m := ⟨11, 2⟩) (meth := k11m2) (c := k11c2) (by decide +kernel) rfl rfl rfl (by decide +kernel)
set_option maxRecDepth 65536 in
theorem w_c12 : (Jvm.Cond.code ({ cls := "java/util/ArrayList", name := "grow", desc := "(I)[Ljava/lang/Object;" } : Jvm.MethodName) jdk_38_method_6_code (4 : Nat) (Option.some (Jvm.ClassFile.FieldType.array (Jvm.ClassFile.FieldType.object "java/lang/Object")))).before args0 about1 = true := code_word (m := ⟨11, 1⟩) (meth := k11m1) (c := k11c1) (by decide +kernel) rfl rfl rfl (by decide +kernel)
set_option maxRecDepth 65536 in
theorem w_c13 : (Jvm.Cond.code ({ cls := "java/lang/Math", name := "max", desc := "(II)I" } : Jvm.MethodName) jdk_29_method_65_code (2 : Nat) (Option.some Jvm.ClassFile.FieldType.int)).before args0 about1 = true := code_word (m := ⟨18, 1⟩) (meth := k18m1) (c := k18c1) (by decide +kernel) rfl rfl rfl (by decide +kernel)
set_option maxRecDepth 65536 in
theorem w_c14 : (Jvm.Cond.code ({ cls := "com/example/brisktest/brisktest/Maven$Run", name := "<init>", desc := "(IZJLjava/util/List;Ljava/util/List;Ljava/util/List;)V" } : Jvm.MethodName) prog_5_method_1_code (8 : Nat) (Option.none : Option Jvm.ClassFile.FieldType)).before args0 about1 = true := code_word (m := ⟨20, 0⟩) (meth := k20m0) (c := k20c0) (by decide +kernel) rfl rfl rfl (by decide +kernel)
set_option maxRecDepth 65536 in
theorem w_c15 : (Jvm.Cond.code ({ cls := "java/lang/Record", name := "<init>", desc := "()V" } : Jvm.MethodName) jdk_30_method_1_code (1 : Nat) (Option.none : Option Jvm.ClassFile.FieldType)).before args0 about1 = true := code_word (m := ⟨19, 0⟩) (meth := k19m0) (c := k19c0) (by decide +kernel) rfl rfl rfl (by decide +kernel)
set_option maxRecDepth 65536 in
theorem w_c16 : (Jvm.Cond.code ({ cls := "com/example/brisktest/brisktest/Maven$Run", name := "succeeded", desc := "()Z" } : Jvm.MethodName) prog_5_method_2_code (1 : Nat) (Option.some Jvm.ClassFile.FieldType.boolean)).before args0 about1 = true := code_word (m := ⟨20, 1⟩) (meth := k20m1) (c := k20c1) (by decide +kernel) rfl rfl rfl (by decide +kernel)
def codes1 : List Jvm.Cond := [Jvm.Cond.code x code maxLocals ret, Jvm.Cond.code ({ cls := "java/util/ArrayList", name := "<init>", desc := "()V" } : Jvm.MethodName) jdk_38_method_2_code (1 : Nat) (Option.none : Option Jvm.ClassFile.FieldType), Jvm.Cond.code ({ cls := "java/util/AbstractList", name := "<init>", desc := "()V" } : Jvm.MethodName) jdk_39_method_1_code (1 : Nat) (Option.none : Option Jvm.ClassFile.FieldType), Jvm.Cond.code ({ cls := "java/util/AbstractCollection", name := "<init>", desc := "()V" } : Jvm.MethodName) jdk_22_method_1_code (1 : Nat) (Option.none : Option Jvm.ClassFile.FieldType), Jvm.Cond.code ({ cls := "java/lang/Object", name := "<init>", desc := "()V" } : Jvm.MethodName) object_method_1_code (1 : Nat) (Option.none : Option Jvm.ClassFile.FieldType), Jvm.Cond.code ({ cls := "java/lang/String", name := "valueOf", desc := "(C)Ljava/lang/String;" } : Jvm.MethodName) jdk_42_method_139_code (1 : Nat) (Option.some (Jvm.ClassFile.FieldType.object "java/lang/String")), Jvm.Cond.code ({ cls := "java/lang/StringLatin1", name := "canEncode", desc := "(C)Z" } : Jvm.MethodName) jdk_43_method_3_code (1 : Nat) (Option.some Jvm.ClassFile.FieldType.boolean), Jvm.Cond.code ({ cls := "java/lang/StringLatin1", name := "toBytes", desc := "(C)[B" } : Jvm.MethodName) jdk_43_method_46_code (1 : Nat) (Option.some (Jvm.ClassFile.FieldType.array Jvm.ClassFile.FieldType.byte)), Jvm.Cond.code ({ cls := "java/lang/String", name := "<init>", desc := "([BB)V" } : Jvm.MethodName) jdk_42_method_151_code (3 : Nat) (Option.none : Option Jvm.ClassFile.FieldType), Jvm.Cond.code ({ cls := "java/util/ArrayList", name := "add", desc := "(Ljava/lang/Object;)Z" } : Jvm.MethodName) jdk_38_method_25_code (2 : Nat) (Option.some Jvm.ClassFile.FieldType.boolean), Jvm.Cond.code ({ cls := "java/util/ArrayList", name := "add", desc := "(Ljava/lang/Object;[Ljava/lang/Object;I)V" } : Jvm.MethodName) jdk_38_method_24_code (4 : Nat) (Option.none : Option Jvm.ClassFile.FieldType), Jvm.Cond.code ({ cls := "java/util/ArrayList", name := "grow", desc := "()[Ljava/lang/Object;" } : Jvm.MethodName) jdk_38_method_7_code (1 : Nat) (Option.some (Jvm.ClassFile.FieldType.array (Jvm.ClassFile.FieldType.object "java/lang/Object"))), Jvm.Cond.code ({ cls := "java/util/ArrayList", name := "grow", desc := "(I)[Ljava/lang/Object;" } : Jvm.MethodName) jdk_38_method_6_code (4 : Nat) (Option.some (Jvm.ClassFile.FieldType.array (Jvm.ClassFile.FieldType.object "java/lang/Object"))), Jvm.Cond.code ({ cls := "java/lang/Math", name := "max", desc := "(II)I" } : Jvm.MethodName) jdk_29_method_65_code (2 : Nat) (Option.some Jvm.ClassFile.FieldType.int), Jvm.Cond.code ({ cls := "com/example/brisktest/brisktest/Maven$Run", name := "<init>", desc := "(IZJLjava/util/List;Ljava/util/List;Ljava/util/List;)V" } : Jvm.MethodName) prog_5_method_1_code (8 : Nat) (Option.none : Option Jvm.ClassFile.FieldType), Jvm.Cond.code ({ cls := "java/lang/Record", name := "<init>", desc := "()V" } : Jvm.MethodName) jdk_30_method_1_code (1 : Nat) (Option.none : Option Jvm.ClassFile.FieldType), Jvm.Cond.code ({ cls := "com/example/brisktest/brisktest/Maven$Run", name := "succeeded", desc := "()Z" } : Jvm.MethodName) prog_5_method_2_code (1 : Nat) (Option.some Jvm.ClassFile.FieldType.boolean)]
set_option maxRecDepth 65536 in
theorem codes_eq : words1.filter isCode = codes1 := rfl
theorem w_codes : ∀ c ∈ words1.filter isCode, c.before args0 about1 = true := by
  rw [codes_eq]
  intro c hc
  simp only [codes1, List.mem_cons, List.not_mem_nil, or_false] at hc
  rcases hc with rfl | rfl | rfl | rfl | rfl | rfl | rfl | rfl | rfl | rfl | rfl | rfl | rfl | rfl | rfl | rfl | rfl
  · exact w_c0
  · exact w_c1
  · exact w_c2
  · exact w_c3
  · exact w_c4
  · exact w_c5
  · exact w_c6
  · exact w_c7
  · exact w_c8
  · exact w_c9
  · exact w_c10
  · exact w_c11
  · exact w_c12
  · exact w_c13
  · exact w_c14
  · exact w_c15
  · exact w_c16
set_option maxRecDepth 65536 in
theorem w_t1 : (words1.take 24).all (fun c => isCode c || c.before args0 about1) = true := by decide +kernel
set_option maxRecDepth 65536 in
theorem w_t2 : ((words1.drop 24).take 24).all (fun c => isCode c || c.before args0 about1) = true := by decide +kernel
set_option maxRecDepth 65536 in
theorem w_t3 : (((words1.drop 24).drop 24).take 24).all (fun c => isCode c || c.before args0 about1) = true := by decide +kernel
set_option maxRecDepth 65536 in
theorem w_t4 : ((((words1.drop 24).drop 24).drop 24).take 24).all (fun c => isCode c || c.before args0 about1) = true := by decide +kernel
set_option maxRecDepth 65536 in
theorem w_t5 : ((((words1.drop 24).drop 24).drop 24).drop 24).all (fun c => isCode c || c.before args0 about1) = true := by decide +kernel
theorem w_tables : (allAtoms (Jvm.Cond.code x code maxLocals ret :: tables_1)).before args0 about1 = true := by
  rw [allAtoms_all]
  show words1.all (fun c => c.before args0 about1) = true
  refine all_split ?_ w_codes
  rw [← List.take_append_drop 24 words1, List.all_append, w_t1, ← List.take_append_drop 24 (words1.drop 24), List.all_append, w_t2, ← List.take_append_drop 24 ((words1.drop 24).drop 24), List.all_append, w_t3, ← List.take_append_drop 24 (((words1.drop 24).drop 24).drop 24), List.all_append, w_t4, w_t5]
  rfl
set_option maxRecDepth 65536 in
theorem w_rest : rest_1_c.before args0 about1 = true := by decide +kernel
set_option maxRecDepth 65536 in
theorem w_case : (Jvm.Cond.and given_1 narrow_1).before args0 about1 = true := by decide +kernel
theorem w_applies : (headSpec (Jvm.Cond.code x code maxLocals ret :: tables_1) room_1).applies x e0.platform about1 = true :=
  (Spec.applies_iff w_frames).mpr ⟨w_running, w_runnable, w_alone, w_named, w_hears, w_ripe, w_room, w_tables⟩
theorem atStart : AtStart classFile x code maxLocals ret World_1 tables_1 room_1 Calls_1 rest_1 Pre_1 launch0 p0 e0 about1 theMethod args0 below0 :=
  ⟨lists_1, trivial, launch0.admits_env _ _ _, launch0.least_env, fairChoices_fair.cas, fairChoices_fair.clock, w_frames, w_args, w_heap, w_applies, trivial, w_rest, w_case⟩
end start1
theorem witness_1 : WitnessClaimed_1 := ⟨start1.p0, start1.e0, start1.about1, start1.theMethod, start1.args0, start1.below0, start1.atStart⟩
end Jvm.Pilot.@@N@@
