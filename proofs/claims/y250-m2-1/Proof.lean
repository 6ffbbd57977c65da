import JvmDerived
import JvmDerived.Pilot.@@N@@Statement
import JvmDerived.Pilot.@@N@@Code
set_option linter.unusedVariables false
set_option linter.unusedSimpArgs false
@@BLOCK:NumsL.lean.txt@@
namespace Jvm.RoadKit
open Sem ClassFile Op Lib Jvm.Stand Jvm.Free Jvm.LawKit
section New
variable {p : Program} {l : Launch} {e : Env} {R : Room} {s : State} {m : MethodId} {args : Array Value} {below : List Frame} {meth : Method} {c : Code} {T : State} {locs : List Loc} {cells slots : Nat}
theorem retI (X : Stand p l e R s m args below meth c T locs cells slots) (hx : p.tables.exec = Jvm.exec) {pc : Nat} {Ls : Array Slot} {z : Int32} {rest : List Value} (hret : meth.sig.returnType = some .int) (hd : decode c.code pc = .ok (.ireturn, 1)) {fs : List Frame}
    (hl : ∀ (f : JFrame) (acts : List Action), f.method = m → f.locked = none → f.entered = [] → (doReturn e (T.setTop f) acts (some (.int z))).1 = T.setFrames fs) : Steps p.tables e below (T.setTop (mkF m pc Ls (.int z :: rest))) (T.setFrames fs) := by
  have hm' : T.vm.method? m = some meth := X.method'
  have hn : narrow .int (.int z) = .int z := rfl
  show Steps p.tables e below (T.setTop { method := m, pc := pc, locals := Ls, stack := _ :: rest, locked := none }) _
  jvm_step X.here [X.here.top, hx, hd, hm', hret, hn]
  first | (intro acts; rw [hl _ acts rfl rfl rfl]) | rw [hl _ _ rfl rfl rfl]
  exact Steps.refl _
theorem own_retJ (X : Stand p l e R s m args below meth c T locs cells slots) (hx : p.tables.exec = Jvm.exec) {pc : Nat} {Ls : Array Slot} {z : Int64} {rest : List Value} (hret : meth.sig.returnType = some .long) (hd : decode c.code pc = .ok (.lreturn, 1)) {fs : List Frame}
    (hl : ∀ (f : JFrame) (acts : List Action), f.method = m → f.locked = none → f.entered = [] → (doReturn e (T.setTop f) acts (some (.long z))).1 = T.setFrames fs) : Steps p.tables e below (T.setTop (mkF m pc Ls (.long z :: rest))) (T.setFrames fs) := by
  have hm' : T.vm.method? m = some meth := X.method'
  show Steps p.tables e below (T.setTop { method := m, pc := pc, locals := Ls, stack := _ :: rest, locked := none }) _
  jvm_step X.here [X.here.top, hx, hd, hm', hret, narrow]
  first | (intro acts; rw [hl _ acts rfl rfl rfl]) | rw [hl _ _ rfl rfl rfl]
  exact Steps.refl _
theorem own_retA (X : Stand p l e R s m args below meth c T locs cells slots) (hx : p.tables.exec = Jvm.exec) {pc : Nat} {Ls : Array Slot} {b : Addr} {t : FieldType} {rest : List Value} (hret : meth.sig.returnType = some t) (ht : t.isReference = true) (hb0 : b = b) (hd : decode c.code pc = .ok (.areturn, 1)) {fs : List Frame}
    (hl : ∀ (f : JFrame) (acts : List Action), f.method = m → f.locked = none → f.entered = [] → (doReturn e (T.setTop f) acts (some (.ref b))).1 = T.setFrames fs) : Steps p.tables e below (T.setTop (mkF m pc Ls (.ref b :: rest))) (T.setFrames fs) := by
  have hm' : T.vm.method? m = some meth := X.method'
  show Steps p.tables e below (T.setTop { method := m, pc := pc, locals := Ls, stack := _ :: rest, locked := none }) _
  jvm_step X.here [X.here.top, hx, hd, hm', hret, Value.isRef, ht]
  first | (intro acts; rw [hl _ acts rfl rfl rfl]) | rw [hl _ _ rfl rfl rfl]
  exact Steps.refl _
end New
/-- a walk's goal at the state A -/
def own_G (tb : Tables) (e : Env) (below : List Frame) (P : Outcome → State → Prop) (A : State) : Prop := ∃ s₂ o, Steps tb e below A s₂ ∧ s₂.status = .running ∧ Ended s₂ below o ∧ P o s₂
section Go
variable {tb : Tables} {e : Env} {below : List Frame} {P : Outcome → State → Prop} {A B : State}
theorem own_step (h : ∀ t, Steps tb e below B t → Steps tb e below A t) (k : own_G tb e below P B) : own_G tb e below P A := by
  obtain ⟨s₂, o, h1, h2⟩ := k
  exact ⟨s₂, o, h _ h1, h2⟩
theorem own_start (h : ∀ t, Steps tb e below B t → Steps tb e below A t) (k : own_G tb e below P B) : ∃ s₂ o, Steps tb e below A s₂ ∧ s₂.status = .running ∧ Ended s₂ below o ∧ P o s₂ := own_step h k
theorem own_done {s₂ : State} {o : Outcome} (h1 : Steps tb e below A s₂) (h2 : s₂.status = .running) (h3 : Ended s₂ below o) (h4 : P o s₂) : own_G tb e below P A := ⟨s₂, o, h1, h2, h3, h4⟩
theorem own_nm {α : Type} (x : α) (F : α → State) (h : ∀ v, v = x → own_G tb e below P (F v)) : own_G tb e below P (F x) := h x rfl
theorem own_gen (h : ∀ P', P' = P → own_G tb e below P' A) : own_G tb e below P A := h P rfl
theorem own_imp (h : own_G tb e below P B → own_G tb e below P A) (k : own_G tb e below P B) : own_G tb e below P A := h k
end Go
/-- an array of ints (bytes, chars, shorts) by its members; a long[] by its members -/
def own_Ari (Z : State) (h : Heap) (a : Addr) (ty : FieldType) (vs : List Int32) : Prop := ∃ c : Cell, Arr Z h a c ty ∧ c.slots.toList = vs.map Value.int ∧ vs.length < 2 ^ 31
def own_Arj (Z : State) (h : Heap) (a : Addr) (vs : List Int64) : Prop := ∃ c : Cell, Arr Z h a c .long ∧ c.slots.toList = vs.map Value.long ∧ vs.length < 2 ^ 31
def own_Inb (j : Int32) (n : Nat) : Prop := ¬ j < 0 ∧ j.toNatClampNeg < n
theorem own_inb {j : Int32} {n : Nat} (h1 : ¬ j < 0) (h2 : j.toNatClampNeg < n) : own_Inb j n := ⟨h1, h2⟩
section ArrFacts
variable {Z : State} {h h' : Heap} {a b : Addr} {ty : FieldType} {vs : List Int32} {us : List Int64} {sl : Nat} {v : Value} {L : List Addr}
theorem own_Ari.lt (F : own_Ari Z h a ty vs) : a < h.size := by obtain ⟨c, A, -⟩ := F; exact A.lt
theorem own_Ari.ext (F : own_Ari Z h a ty vs) (E : Ext h h') : own_Ari Z h' a ty vs := by obtain ⟨c, A, r⟩ := F; exact ⟨c, A.ext E, r⟩
theorem own_Ari.other (F : own_Ari Z h b ty vs) (W : Wr h h' a sl v) (q : b ≠ a) : own_Ari Z h' b ty vs := by obtain ⟨c, A, r⟩ := F; exact ⟨c, A.other W q, r⟩
theorem own_Ari.keep (F : own_Ari Z h a ty vs) (K : Keep h h' L) (q : a ∉ L) : own_Ari Z h' a ty vs := by obtain ⟨c, A, r⟩ := F; exact ⟨c, ⟨K.2.1 a c A.1 q, A.2⟩, r⟩
theorem own_Arj.lt (F : own_Arj Z h a us) : a < h.size := by obtain ⟨c, A, -⟩ := F; exact A.lt
theorem own_Arj.ext (F : own_Arj Z h a us) (E : Ext h h') : own_Arj Z h' a us := by obtain ⟨c, A, r⟩ := F; exact ⟨c, A.ext E, r⟩
theorem own_Arj.other (F : own_Arj Z h b us) (W : Wr h h' a sl v) (q : b ≠ a) : own_Arj Z h' b us := by obtain ⟨c, A, r⟩ := F; exact ⟨c, A.other W q, r⟩
theorem own_Arj.keep (F : own_Arj Z h a us) (K : Keep h h' L) (q : a ∉ L) : own_Arj Z h' a us := by obtain ⟨c, A, r⟩ := F; exact ⟨c, ⟨K.2.1 a c A.1 q, A.2⟩, r⟩
theorem own_Ari_new {cA : ClassId} {n : Int32} (A : Arr Z h b (newA cA ty n) ty) (hn : ¬ n < 0) (hd : defaultValue ty = .int 0) : own_Ari Z h b ty (List.replicate n.toNatClampNeg 0) :=
  ⟨_, A, by simp [newA, hd], by rw [List.length_replicate]; exact (back32 hn).2⟩
theorem own_Arj_new {cA : ClassId} {n : Int32} (A : Arr Z h b (newA cA .long n) .long) (hn : ¬ n < 0) : own_Arj Z h b (List.replicate n.toNatClampNeg 0) :=
  ⟨_, A, by simp [newA, defaultValue], by rw [List.length_replicate]; exact (back32 hn).2⟩
theorem own_szI {c : Cell} (S : c.slots.toList = vs.map Value.int) : c.slots.size = vs.length := by have := congrArg List.length S; simpa using this
theorem own_szJ {c : Cell} (S : c.slots.toList = us.map Value.long) : c.slots.size = us.length := by have := congrArg List.length S; simpa using this
theorem own_atI {c : Cell} {k : Nat} (S : c.slots.toList = vs.map Value.int) (hk : k < vs.length) : c.slots[k]? = some (.int (vs.getD k 0)) := by
  rw [← Array.getElem?_toList, S, List.getElem?_map, List.getD_eq_getElem?_getD, List.getElem?_eq_getElem hk]; rfl
theorem own_atJ {c : Cell} {k : Nat} (S : c.slots.toList = us.map Value.long) (hk : k < us.length) : c.slots[k]? = some (.long (us.getD k 0)) := by
  rw [← Array.getElem?_toList, S, List.getElem?_map, List.getD_eq_getElem?_getD, List.getElem?_eq_getElem hk]; rfl
theorem own_setI {c : Cell} {k : Nat} {x : Int32} (A : Arr Z h a c ty) (S : c.slots.toList = vs.map Value.int) (hl : vs.length < 2 ^ 31) (W : Wr h h' a k (.int x)) : own_Ari Z h' a ty (vs.set k x) :=
  ⟨_, A.same W, by simp [Cell.setSlot, S, List.map_set], by rw [List.length_set]; exact hl⟩
theorem own_setJ {c : Cell} {k : Nat} {x : Int64} (A : Arr Z h a c .long) (S : c.slots.toList = us.map Value.long) (hl : us.length < 2 ^ 31) (W : Wr h h' a k (.long x)) : own_Arj Z h' a (us.set k x) :=
  ⟨_, A.same W, by simp [Cell.setSlot, S, List.map_set], by rw [List.length_set]; exact hl⟩
end ArrFacts
section ArrSteps
variable {p : Program} {l : Launch} {e : Env} {R : Room} {s : State} {m : MethodId} {args : Array Value} {below : List Frame} {meth : Method} {c : Code} {T : State} {locs : List Loc} {cells slots : Nat} {Z : State} {h : Heap} {a : Addr} {vs : List Int32} {us : List Int64} {j : Int32} {g : JFrame} {rest : List Value}
theorem own_iaload (X : Stand p l e R s m args below meth c T locs cells slots) (hx : p.tables.exec = Jvm.exec) (hZ : Z.Warmed39 s.vm) (eT : T.heap = h) (F : own_Ari Z h a .int vs) (q : own_Inb j vs.length) (hg : g.method = m) (hs : g.stack = .int j :: .ref a :: rest) (hd : decode c.code g.pc = .ok (.iaload, 1)) :
    ∀ target, Steps p.tables e below (T.setTop { g with pc := g.pc + 1, stack := .int (vs.getD j.toNatClampNeg 0) :: rest }) target → Steps p.tables e below (T.setTop g) target := by
  obtain ⟨cl, A, S, hl⟩ := F
  have z := own_szI S
  exact X.iaload hx (by rw [eT]; exact A.1) (State.isArrayOf_alike hZ.alike A.2.1) A.2.2 (fun y => y.elim q.1 fun w => by have := q.2; omega) (own_atI S q.2) hg hs hd
theorem own_baload (X : Stand p l e R s m args below meth c T locs cells slots) (hx : p.tables.exec = Jvm.exec) (hZ : Z.Warmed39 s.vm) (eT : T.heap = h) (F : own_Ari Z h a .byte vs) (q : own_Inb j vs.length) (hg : g.method = m) (hs : g.stack = .int j :: .ref a :: rest) (hd : decode c.code g.pc = .ok (.baload, 1)) :
    ∀ target, Steps p.tables e below (T.setTop { g with pc := g.pc + 1, stack := .int (vs.getD j.toNatClampNeg 0) :: rest }) target → Steps p.tables e below (T.setTop g) target := by
  obtain ⟨cl, A, S, hl⟩ := F
  have z := own_szI S
  exact X.baloadBytes hx (by rw [eT]; exact A.1) (State.isArrayOf_alike hZ.alike A.2.1) A.2.2 (fun y => y.elim q.1 fun w => by have := q.2; omega) (own_atI S q.2) hg hs hd
theorem own_laload (X : Stand p l e R s m args below meth c T locs cells slots) (hx : p.tables.exec = Jvm.exec) (hZ : Z.Warmed39 s.vm) (eT : T.heap = h) (F : own_Arj Z h a us) (q : own_Inb j us.length) (hg : g.method = m) (hs : g.stack = .int j :: .ref a :: rest) (hd : decode c.code g.pc = .ok (.laload, 1)) :
    ∀ target, Steps p.tables e below (T.setTop { g with pc := g.pc + 1, stack := .long (us.getD j.toNatClampNeg 0) :: rest }) target → Steps p.tables e below (T.setTop g) target := by
  obtain ⟨cl, A, S, hl⟩ := F
  have z := own_szJ S
  exact X.laload hx (by rw [eT]; exact A.1) (State.isArrayOf_alike hZ.alike A.2.1) A.2.2 (fun y => y.elim q.1 fun w => by have := q.2; omega) (own_atJ S q.2) hg hs hd
theorem own_lenI {ty : FieldType} (X : Stand p l e R s m args below meth c T locs cells slots) (hx : p.tables.exec = Jvm.exec) (hZ : Z.Warmed39 s.vm) (eT : T.heap = h) (F : own_Ari Z h a ty vs) (hg : g.method = m) (hs : g.stack = .ref a :: rest) (hd : decode c.code g.pc = .ok (.arraylength, 1)) :
    ∀ target, Steps p.tables e below (T.setTop { g with pc := g.pc + 1, stack := .int vs.length.toInt32 :: rest }) target → Steps p.tables e below (T.setTop g) target := by
  obtain ⟨cl, A, S, hl⟩ := F
  have z := own_szI S
  have k := X.arraylength hx (by rw [eT]; exact A.1) (State.isArrayOf_alike hZ.alike A.2.1) hg hs hd
  rw [z] at k
  exact k
theorem own_lenJ (X : Stand p l e R s m args below meth c T locs cells slots) (hx : p.tables.exec = Jvm.exec) (hZ : Z.Warmed39 s.vm) (eT : T.heap = h) (F : own_Arj Z h a us) (hg : g.method = m) (hs : g.stack = .ref a :: rest) (hd : decode c.code g.pc = .ok (.arraylength, 1)) :
    ∀ target, Steps p.tables e below (T.setTop { g with pc := g.pc + 1, stack := .int us.length.toInt32 :: rest }) target → Steps p.tables e below (T.setTop g) target := by
  obtain ⟨cl, A, S, hl⟩ := F
  have z := own_szJ S
  have k := X.arraylength hx (by rw [eT]; exact A.1) (State.isArrayOf_alike hZ.alike A.2.1) hg hs hd
  rw [z] at k
  exact k
theorem own_iastore {x : Int32} (X : Stand p l e R s m args below meth c T locs cells slots) (hx : p.tables.exec = Jvm.exec) (hZ : Z.Warmed39 s.vm) (eT : T.heap = h) (F : own_Ari Z h a .int vs) (q : own_Inb j vs.length) (hg : g.method = m) (hs : g.stack = .int x :: .int j :: .ref a :: rest) (hd : decode c.code g.pc = .ok (.iastore, 1)) :
    ∃ T' h', Stand p l e R s m args below meth c T' (locs ++ [⟨a, j.toNatClampNeg⟩]) cells slots ∧ T'.heap = h' ∧ Wr h h' a j.toNatClampNeg (.int x) ∧ own_Ari Z h' a .int (vs.set j.toNatClampNeg x) ∧
      ∀ target, Steps p.tables e below (T'.setTop { g with pc := g.pc + 1, stack := rest }) target → Steps p.tables e below (T.setTop g) target := by
  obtain ⟨cl, A, S, hl⟩ := F
  have z := own_szI S
  obtain ⟨T', h', X', e', W, st⟩ := stI X hx hZ eT A (j := j) (x := x) (fun y => y.elim q.1 fun w => by have := q.2; omega) hg hs hd
  exact ⟨T', h', X', e', W, own_setI A S hl W, st⟩
theorem own_bastore {x : Int32} (X : Stand p l e R s m args below meth c T locs cells slots) (hx : p.tables.exec = Jvm.exec) (hZ : Z.Warmed39 s.vm) (eT : T.heap = h) (F : own_Ari Z h a .byte vs) (q : own_Inb j vs.length) (hg : g.method = m) (hs : g.stack = .int x :: .int j :: .ref a :: rest) (hd : decode c.code g.pc = .ok (.bastore, 1)) :
    ∃ T' h', Stand p l e R s m args below meth c T' (locs ++ [⟨a, j.toNatClampNeg⟩]) cells slots ∧ T'.heap = h' ∧ Wr h h' a j.toNatClampNeg (.int (nar .byte x)) ∧ own_Ari Z h' a .byte (vs.set j.toNatClampNeg (nar .byte x)) ∧
      ∀ target, Steps p.tables e below (T'.setTop { g with pc := g.pc + 1, stack := rest }) target → Steps p.tables e below (T.setTop g) target := by
  obtain ⟨cl, A, S, hl⟩ := F
  have z := own_szI S
  obtain ⟨T', h', X', e', W, st⟩ := stB X hx hZ eT A (j := j) (x := x) (fun y => y.elim q.1 fun w => by have := q.2; omega) hg hs hd
  exact ⟨T', h', X', e', W, own_setI A S hl W, st⟩
theorem own_lastore {x : Int64} (X : Stand p l e R s m args below meth c T locs cells slots) (hx : p.tables.exec = Jvm.exec) (hZ : Z.Warmed39 s.vm) (eT : T.heap = h) (F : own_Arj Z h a us) (q : own_Inb j us.length) (hg : g.method = m) (hs : g.stack = .long x :: .int j :: .ref a :: rest) (hd : decode c.code g.pc = .ok (.lastore, 1)) :
    ∃ T' h', Stand p l e R s m args below meth c T' (locs ++ [⟨a, j.toNatClampNeg⟩]) cells slots ∧ T'.heap = h' ∧ Wr h h' a j.toNatClampNeg (.long x) ∧ own_Arj Z h' a (us.set j.toNatClampNeg x) ∧
      ∀ target, Steps p.tables e below (T'.setTop { g with pc := g.pc + 1, stack := rest }) target → Steps p.tables e below (T.setTop g) target := by
  obtain ⟨cl, A, S, hl⟩ := F
  have z := own_szJ S
  obtain ⟨T', h', X', e', W, st⟩ := stJ X hx hZ eT A (j := j) (x := x) (fun y => y.elim q.1 fun w => by have := q.2; omega) hg hs hd
  exact ⟨T', h', X', e', W, own_setJ A S hl W, st⟩
theorem own_cloneI {a0 : Array Value} {own : String} {index : Nat} (X : Stand p l e R s m args below meth c T locs cells slots) (hx : p.tables.exec = Jvm.exec) (hZ : Z.Warmed39 s.vm) (hown : s.vm.findClass own = some m.cls)
    (w1 : (Cond.methodLink own index ⟨"[I", "clone", "()Ljava/lang/Object;"⟩).before a0 Z = true) (w2 : (Cond.sameMethod "[I" "java/lang/Object" "clone" "()Ljava/lang/Object;").before a0 Z = true) (w3 : (Cond.native ⟨"java/lang/Object", "clone", "()Ljava/lang/Object;"⟩).before a0 Z = true)
    (w4 : (Cond.instanceMethod ⟨"java/lang/Object", "clone", "()Ljava/lang/Object;"⟩).before a0 Z = true) (w5 : (Cond.selects "[I" ⟨"[I", "clone", "()Ljava/lang/Object;"⟩ ⟨"java/lang/Object", "clone", "()Ljava/lang/Object;"⟩).before a0 Z = true) (w6 : (Cond.castable "[I" "java/lang/Cloneable").before a0 Z = true)
    (eT : T.heap = h) (F : own_Ari Z h a .int vs) (E : Exa Z h a "[I") (hg : g.method = m) (hsize : g.locals.size = c.maxLocals) (hs : g.stack = .ref a :: rest) (hd : decode c.code g.pc = .ok (.invokevirtual index, 3))
    (hf : 1 ≤ R.frames) {W cap : Nat} (hW : 2 * g.monitorRoom + (rest.map fun v => v.category).sum ≤ W) (hl : W + 14 ≤ R.locals) (hcap : vs.length ≤ cap) (hc : cells + 1 ≤ R.cells) (hsl : slots + cap ≤ R.slots) :
    ∃ T' h', Stand p l e R s m args below meth c T' locs (cells + 1) (slots + cap) ∧ T'.heap = h' ∧ Ext h h' ∧ own_Ari Z h' h.size .int vs ∧ Exa Z h' h.size "[I" ∧
      ∀ target, Steps p.tables e below (T'.setTop { g with pc := g.pc + 3, stack := .ref h.size :: rest }) target → Steps p.tables e below (T.setTop g) target := by
  obtain ⟨cl, A, S, hl'⟩ := F
  have z := own_szI S
  have FC : FitC Z cl := fitC_of A fun i hi v hv => by
    rw [own_atI S (by omega)] at hv
    cases hv; rfl
  obtain ⟨T', h', X', e', ex, A', E', st⟩ := cloneA X hx hZ hown w1 w2 w3 w4 w5 w6 eT A E FC hg hsize hs hd hf hW hl (by rw [z]; exact hcap) hc hsl
  exact ⟨T', h', X', e', ex, ⟨cloneOf cl, A', S, hl'⟩, E', st⟩
end ArrSteps
/-- an Object[] of which only the length is told; one that may be written besides -/
def own_Arl (Z : State) (h : Heap) (a : Addr) (n : Nat) : Prop := ∃ c : Cell, Arr Z h a c (.object "java/lang/Object") ∧ c.slots.size = n ∧ n < 2 ^ 31
def own_Aro (Z : State) (h : Heap) (a : Addr) (n : Nat) : Prop := ∃ c : Cell, Arr Z h a c (.object "java/lang/Object") ∧ c.slots.size = n ∧ n < 2 ^ 31 ∧ Ovr Z c.cls "java/lang/Object"
section RefArr
variable {Z : State} {h h' : Heap} {a b : Addr} {n sl : Nat} {v : Value} {L : List Addr}
theorem own_Arl.lt (F : own_Arl Z h a n) : a < h.size := by obtain ⟨c, A, -⟩ := F; exact A.lt
theorem own_Arl.ext (F : own_Arl Z h a n) (E : Ext h h') : own_Arl Z h' a n := by obtain ⟨c, A, r⟩ := F; exact ⟨c, A.ext E, r⟩
theorem own_Arl.other (F : own_Arl Z h b n) (W : Wr h h' a sl v) (q : b ≠ a) : own_Arl Z h' b n := by obtain ⟨c, A, r⟩ := F; exact ⟨c, A.other W q, r⟩
theorem own_Arl.keep (F : own_Arl Z h a n) (K : Keep h h' L) (q : a ∉ L) : own_Arl Z h' a n := by obtain ⟨c, A, r⟩ := F; exact ⟨c, ⟨K.2.1 a c A.1 q, A.2⟩, r⟩
theorem own_Aro.lt (F : own_Aro Z h a n) : a < h.size := by obtain ⟨c, A, -⟩ := F; exact A.lt
theorem own_Aro.ext (F : own_Aro Z h a n) (E : Ext h h') : own_Aro Z h' a n := by obtain ⟨c, A, r⟩ := F; exact ⟨c, A.ext E, r⟩
theorem own_Aro.other (F : own_Aro Z h b n) (W : Wr h h' a sl v) (q : b ≠ a) : own_Aro Z h' b n := by obtain ⟨c, A, r⟩ := F; exact ⟨c, A.other W q, r⟩
theorem own_Aro.keep (F : own_Aro Z h a n) (K : Keep h h' L) (q : a ∉ L) : own_Aro Z h' a n := by obtain ⟨c, A, r⟩ := F; exact ⟨c, ⟨K.2.1 a c A.1 q, A.2⟩, r⟩
theorem own_Aro_new {cA : ClassId} {z : Int32} (A : Arr Z h b (newA cA (.object "java/lang/Object") z) (.object "java/lang/Object")) (O : Ovr Z cA "java/lang/Object") (hn : ¬ z < 0) (q : z.toNatClampNeg = n) : own_Aro Z h b n :=
  ⟨_, A, by rw [sz_new, q], by rw [← q]; exact (back32 hn).2, O⟩
theorem own_arlS {args : Array Value} {t : Term} (ev : t.eval args Z none [] Z = some (.ref a)) (hx : (Cond.arrayOf t (.object "java/lang/Object")).value args Z none Z [] = some true) (hl : (Term.length t).eval args Z none [] Z = some (.int n.toInt32)) (hn : n < 2 ^ 31) : own_Arl Z Z.heap a n := by
  obtain ⟨c, A⟩ := Arr.start ev hx
  have hA : Z.arrayAt? a = some c := A.fin (Vm.Alike.refl _)
  obtain ⟨a', c', e1, e2, e3⟩ := Term.length_spec hl
  cases ev.symm.trans e1
  cases hA.symm.trans e2
  have hsz : c.slots.size < 2 ^ 31 := by
    simp only [Term.eval, ev, Option.bind_eq_bind, Option.bind_some, hA] at hl
    split at hl
    · assumption
    · cases hl
  have hs : c.slots.size = n := by
    have q := Value.int.inj e3
    have q1 := congrArg Int32.toInt q
    have r1 : (n.toInt32).toInt = (n : Int) := Int32.toInt_ofNat_small (by omega)
    have r2 : (c.slots.size.toInt32).toInt = (c.slots.size : Int) := Int32.toInt_ofNat_small (by omega)
    rw [r1, r2] at q1
    omega
  exact ⟨c, A, hs, hn⟩
end RefArr
section RefSteps
variable {p : Program} {l : Launch} {e : Env} {R : Room} {s : State} {m : MethodId} {args : Array Value} {below : List Frame} {meth : Method} {c : Code} {T : State} {locs : List Loc} {cells slots : Nat} {Z : State} {h : Heap} {a y : Addr} {n : Nat} {j : Int32} {g : JFrame} {rest : List Value}
theorem own_lenL (X : Stand p l e R s m args below meth c T locs cells slots) (hx : p.tables.exec = Jvm.exec) (hZ : Z.Warmed39 s.vm) (eT : T.heap = h) (F : own_Arl Z h a n) (hg : g.method = m) (hs : g.stack = .ref a :: rest) (hd : decode c.code g.pc = .ok (.arraylength, 1)) :
    ∀ target, Steps p.tables e below (T.setTop { g with pc := g.pc + 1, stack := .int n.toInt32 :: rest }) target → Steps p.tables e below (T.setTop g) target := by
  obtain ⟨cl, A, S, hl⟩ := F
  have k := X.arraylength hx (by rw [eT]; exact A.1) (State.isArrayOf_alike hZ.alike A.2.1) hg hs hd
  rw [S] at k
  exact k
theorem own_aastore (X : Stand p l e R s m args below meth c T locs cells slots) (hx : p.tables.exec = Jvm.exec) (hZ : Z.Warmed39 s.vm) (eT : T.heap = h) (F : own_Aro Z h a n) (I : Ins Z h y "java/lang/Object" true) (q : own_Inb j n) (hg : g.method = m) (hs : g.stack = .ref y :: .int j :: .ref a :: rest) (hd : decode c.code g.pc = .ok (.aastore, 1)) :
    ∃ T' h', Stand p l e R s m args below meth c T' (locs ++ [⟨a, j.toNatClampNeg⟩]) cells slots ∧ T'.heap = h' ∧ Wr h h' a j.toNatClampNeg (.ref y) ∧ own_Aro Z h' a n ∧
      ∀ target, Steps p.tables e below (T'.setTop { g with pc := g.pc + 1, stack := rest }) target → Steps p.tables e below (T.setTop g) target := by
  obtain ⟨cl, A, S, hl, O⟩ := F
  obtain ⟨T', h', X', e', W, st⟩ := stR X hx hZ eT A (j := j) (v := .ref y) (fun w => w.elim q.1 fun z => by have := q.2; omega) rfl (Sto.of A O I) hg hs hd
  exact ⟨T', h', X', e', W, ⟨_, A.same W, by simp [Cell.setSlot, S], hl, O⟩, st⟩
end RefSteps
section StaKeep
variable {Z : State} {h h' : Heap} {L : List Addr} {C n d : String} {v : Value} {w : Addr}
def own_Ns (h : Heap) (w : Addr) : Prop := ∀ cell : Cell, h[w]? = some cell → cell.vm.isStatics = false
theorem own_nsE {K : String} (F : Exa Z h w K) : own_Ns h w := fun cell q => by
  obtain ⟨c, _, h1, -, -, h4, -⟩ := F
  cases h1.symm.trans q
  exact h4
theorem own_nsI {ty : FieldType} {vs : List Int32} (F : own_Ari Z h w ty vs) : own_Ns h w := fun cell q => by
  obtain ⟨c, A, -⟩ := F
  cases A.1.symm.trans q
  exact A.plain
theorem own_nsO {k : Nat} (F : own_Aro Z h w k) : own_Ns h w := fun cell q => by
  obtain ⟨c, A, -⟩ := F
  cases A.1.symm.trans q
  exact A.plain
theorem own_staKeep (F : Sta Z h C n d v) (K : Keep h h' L) (q : ∀ w ∈ L, own_Ns h w) : Sta Z h' C n d v := by
  obtain ⟨cf, i, k, f, st, cell, h1, h2, h3, h4, h5, h6, h7⟩ := F
  refine ⟨cf, i, k, f, st, cell, h1, h2, h3, h4, K.2.1 st cell h5 fun z => ?_, h6, h7⟩
  rw [q st z cell h5] at h6
  cases h6
end StaKeep

end Jvm.RoadKit
namespace Jvm.Pilot.@@N@@
open Jvm Jvm.ClassFile Sem Op Lib Jvm.Free Jvm.Stand Jvm.LawKit Jvm.RoadKit Bundle Jvm.Pilot.@@N@@.Jvm.D


def own_3 (x : Int32) : Prop := x = 0 ∨ x = 1 ∨ x = 2
def own_4 (x : Int32) : Prop := x = 0 ∨ x = 1 ∨ x = 2 ∨ x = 3
def own_inc (vs : List Int32) (x : Int32) : List Int32 := (vs.set x.toNatClampNeg ((vs.getD x.toNatClampNeg 0) + (1 : Int32)))
def own_pre (vs : List Int32) (i : Nat) : List Int32 := (vs.set (i + 1) ((vs.getD (i + 1) 0) + (vs.getD i 0)))
theorem own_inc_len (vs : List Int32) (x : Int32) : (own_inc vs x).length = vs.length := by unfold own_inc; rw [List.length_set]
theorem own_pre_len (vs : List Int32) (i : Nat) : (own_pre vs i).length = vs.length := by unfold own_pre; rw [List.length_set]
theorem own_i3 {x : Int32} {n : Nat} (h : own_3 x) (hn : n = 4) : own_Inb x n := by
  subst hn
  rcases h with rfl | rfl | rfl <;> exact own_inb (by decide) (by decide)
theorem own_i3' {x : Int32} {n : Nat} (h : own_3 x) (hn : n = 4) : own_Inb (x + (1 : Int32)) n := by
  subst hn
  rcases h with rfl | rfl | rfl <;> exact own_inb (by decide) (by decide)
theorem own_i4 {x : Int32} {n : Nat} (h : own_4 x) (hn : n = 4) : own_Inb x n := by
  subst hn
  rcases h with rfl | rfl | rfl | rfl <;> exact own_inb (by decide) (by decide)
theorem own_k3 {a b c d x : Int32} (ha : own_3 a) (hb : own_3 b) (hc : own_3 c) (hd : own_3 d) (hx : own_4 x) : own_3 ([a, b, c, d].getD x.toNatClampNeg 0) := by
  rcases hx with rfl | rfl | rfl | rfl
  · exact ha
  · exact hb
  · exact hc
  · exact hd
theorem own_remI (x y : Int32) (hx : 0 ≤ x.toInt) (hy : 0 < y.toInt) : (x - (x / y) * y).toInt = x.toInt % y.toInt := by
  have d := Jvm.Kit.i32_div (x := x) (y := y) (by omega)
  rw [Int.tdiv_eq_ediv_of_nonneg hx] at d
  have r := x.toInt_lt
  have k1 : 0 ≤ x.toInt / y.toInt := Int.ediv_nonneg hx (by omega)
  have k2 : x.toInt / y.toInt * y.toInt ≤ x.toInt := Int.ediv_mul_le _ (by omega)
  have k3 : 0 ≤ x.toInt / y.toInt * y.toInt := Int.mul_nonneg k1 (by omega)
  have m := Jvm.Kit.i32_mul (p := x / y) (q := y) (by rw [d]; omega) (by rw [d]; omega)
  have s := Jvm.Kit.i32_sub (p := x) (q := x / y * y) (by rw [m, d]; omega) (by rw [m, d]; omega)
  rw [s, m, d]
  have := Int.emod_add_mul_ediv x.toInt y.toInt
  rw [Int.mul_comm] at this
  omega
theorem own_key (r : Int32) : own_3 ((r &&& (15 : Int32)) - ((r &&& (15 : Int32)) / (3 : Int32)) * (3 : Int32)) := by
  have m : (r &&& (15 : Int32)).toInt = r.toInt % 2 ^ 4 := Jvm.Kit.i32_mask r 15 (k := 4) (by decide) (by decide)
  have e3 : (3 : Int32).toInt = 3 := rfl
  have q := own_remI (r &&& (15 : Int32)) 3 (by omega) (by rw [e3]; omega)
  rw [e3] at q
  generalize ((r &&& (15 : Int32)) - ((r &&& (15 : Int32)) / (3 : Int32)) * (3 : Int32)) = x at q
  have z : x.toInt = 0 ∨ x.toInt = 1 ∨ x.toInt = 2 := by omega
  rcases z with z | z | z
  · exact Or.inl (Int32.toInt_inj.mp z)
  · exact Or.inr (Or.inl (Int32.toInt_inj.mp z))
  · exact Or.inr (Or.inr (Int32.toInt_inj.mp z))
theorem own_num (r : Int32) : own_4 (r &&& (3 : Int32)) := by
  have m : (r &&& (3 : Int32)).toInt = r.toInt % 2 ^ 2 := Jvm.Kit.i32_mask r 3 (k := 2) (by decide) (by decide)
  generalize (r &&& (3 : Int32)) = x at m
  have z : x.toInt = 0 ∨ x.toInt = 1 ∨ x.toInt = 2 ∨ x.toInt = 3 := by omega
  rcases z with z | z | z | z
  · exact Or.inl (Int32.toInt_inj.mp z)
  · exact Or.inr (Or.inl (Int32.toInt_inj.mp z))
  · exact Or.inr (Or.inr (Or.inl (Int32.toInt_inj.mp z)))
  · exact Or.inr (Or.inr (Or.inr (Int32.toInt_inj.mp z)))
theorem own_n5 (r n : Int32) (hn : n = (r &&& (7 : Int32)) - ((r &&& (7 : Int32)) / (5 : Int32)) * (5 : Int32)) : n = 0 ∨ n = 1 ∨ n = 2 ∨ n = 3 ∨ n = 4 := by
  have m : (r &&& (7 : Int32)).toInt = r.toInt % 2 ^ 3 := Jvm.Kit.i32_mask r 7 (k := 3) (by decide) (by decide)
  have e5 : (5 : Int32).toInt = 5 := rfl
  have q := own_remI (r &&& (7 : Int32)) 5 (by omega) (by rw [e5]; omega)
  rw [← hn, e5] at q
  have e : ∀ k : Int32, n.toInt = k.toInt → n = k := fun k q => Int32.toInt_inj.mp q
  have z : n.toInt = 0 ∨ n.toInt = 1 ∨ n.toInt = 2 ∨ n.toInt = 3 ∨ n.toInt = 4 := by omega
  rcases z with z | z | z | z | z
  · exact Or.inl (e 0 z)
  · exact Or.inr (Or.inl (e 1 z))
  · exact Or.inr (Or.inr (Or.inl (e 2 z)))
  · exact Or.inr (Or.inr (Or.inr (Or.inl (e 3 z))))
  · exact Or.inr (Or.inr (Or.inr (Or.inr (e 4 z))))
def own_s0 : List Int32 := (own_pre (own_pre (own_pre [(0 : Int32), (0 : Int32), (0 : Int32), (0 : Int32)] 0) 1) 2)
theorem own_s0_len : (own_s0).length = 4 := by unfold own_s0; simp only [own_inc_len, own_pre_len]; rfl
def own_s1 (kk0 : Int32) : List Int32 := (own_pre (own_pre (own_pre (own_inc [(0 : Int32), (0 : Int32), (0 : Int32), (0 : Int32)] (kk0 + (1 : Int32))) 0) 1) 2)
theorem own_s1_len (kk0 : Int32) : (own_s1 kk0).length = 4 := by unfold own_s1; simp only [own_inc_len, own_pre_len]; rfl
set_option maxHeartbeats 4000000 in
theorem own_pos1_0 {kk0 : Int32} (h0 : own_3 kk0) : own_Inb ((own_s1 kk0).getD kk0.toNatClampNeg 0) 1 := by
  rcases h0 with rfl | rfl | rfl
  all_goals exact own_inb (by decide +kernel) (by decide +kernel)
def own_s2 (kk0 kk1 : Int32) : List Int32 := (own_pre (own_pre (own_pre (own_inc (own_inc [(0 : Int32), (0 : Int32), (0 : Int32), (0 : Int32)] (kk0 + (1 : Int32))) (kk1 + (1 : Int32))) 0) 1) 2)
theorem own_s2_len (kk0 kk1 : Int32) : (own_s2 kk0 kk1).length = 4 := by unfold own_s2; simp only [own_inc_len, own_pre_len]; rfl
set_option maxHeartbeats 4000000 in
theorem own_pos2_0 {kk0 kk1 : Int32} (h0 : own_3 kk0) (h1 : own_3 kk1) : own_Inb ((own_s2 kk0 kk1).getD kk0.toNatClampNeg 0) 2 := by
  rcases h0 with rfl | rfl | rfl
  all_goals rcases h1 with rfl | rfl | rfl
  all_goals exact own_inb (by decide +kernel) (by decide +kernel)
set_option maxHeartbeats 4000000 in
theorem own_pos2_1 {kk0 kk1 : Int32} (h0 : own_3 kk0) (h1 : own_3 kk1) : own_Inb ((own_inc (own_s2 kk0 kk1) kk0).getD kk1.toNatClampNeg 0) 2 := by
  rcases h0 with rfl | rfl | rfl
  all_goals rcases h1 with rfl | rfl | rfl
  all_goals exact own_inb (by decide +kernel) (by decide +kernel)
def own_s3 (kk0 kk1 kk2 : Int32) : List Int32 := (own_pre (own_pre (own_pre (own_inc (own_inc (own_inc [(0 : Int32), (0 : Int32), (0 : Int32), (0 : Int32)] (kk0 + (1 : Int32))) (kk1 + (1 : Int32))) (kk2 + (1 : Int32))) 0) 1) 2)
theorem own_s3_len (kk0 kk1 kk2 : Int32) : (own_s3 kk0 kk1 kk2).length = 4 := by unfold own_s3; simp only [own_inc_len, own_pre_len]; rfl
set_option maxHeartbeats 4000000 in
theorem own_pos3_0 {kk0 kk1 kk2 : Int32} (h0 : own_3 kk0) (h1 : own_3 kk1) (h2 : own_3 kk2) : own_Inb ((own_s3 kk0 kk1 kk2).getD kk0.toNatClampNeg 0) 3 := by
  rcases h0 with rfl | rfl | rfl
  all_goals rcases h1 with rfl | rfl | rfl
  all_goals rcases h2 with rfl | rfl | rfl
  all_goals exact own_inb (by decide +kernel) (by decide +kernel)
set_option maxHeartbeats 4000000 in
theorem own_pos3_1 {kk0 kk1 kk2 : Int32} (h0 : own_3 kk0) (h1 : own_3 kk1) (h2 : own_3 kk2) : own_Inb ((own_inc (own_s3 kk0 kk1 kk2) kk0).getD kk1.toNatClampNeg 0) 3 := by
  rcases h0 with rfl | rfl | rfl
  all_goals rcases h1 with rfl | rfl | rfl
  all_goals rcases h2 with rfl | rfl | rfl
  all_goals exact own_inb (by decide +kernel) (by decide +kernel)
set_option maxHeartbeats 4000000 in
theorem own_pos3_2 {kk0 kk1 kk2 : Int32} (h0 : own_3 kk0) (h1 : own_3 kk1) (h2 : own_3 kk2) : own_Inb ((own_inc (own_inc (own_s3 kk0 kk1 kk2) kk0) kk1).getD kk2.toNatClampNeg 0) 3 := by
  rcases h0 with rfl | rfl | rfl
  all_goals rcases h1 with rfl | rfl | rfl
  all_goals rcases h2 with rfl | rfl | rfl
  all_goals exact own_inb (by decide +kernel) (by decide +kernel)
def own_s4 (kk0 kk1 kk2 kk3 : Int32) : List Int32 := (own_pre (own_pre (own_pre (own_inc (own_inc (own_inc (own_inc [(0 : Int32), (0 : Int32), (0 : Int32), (0 : Int32)] (kk0 + (1 : Int32))) (kk1 + (1 : Int32))) (kk2 + (1 : Int32))) (kk3 + (1 : Int32))) 0) 1) 2)
theorem own_s4_len (kk0 kk1 kk2 kk3 : Int32) : (own_s4 kk0 kk1 kk2 kk3).length = 4 := by unfold own_s4; simp only [own_inc_len, own_pre_len]; rfl
set_option maxHeartbeats 4000000 in
theorem own_pos4_0 {kk0 kk1 kk2 kk3 : Int32} (h0 : own_3 kk0) (h1 : own_3 kk1) (h2 : own_3 kk2) (h3 : own_3 kk3) : own_Inb ((own_s4 kk0 kk1 kk2 kk3).getD kk0.toNatClampNeg 0) 4 := by
  rcases h0 with rfl | rfl | rfl
  all_goals rcases h1 with rfl | rfl | rfl
  all_goals rcases h2 with rfl | rfl | rfl
  all_goals rcases h3 with rfl | rfl | rfl
  all_goals exact own_inb (by decide +kernel) (by decide +kernel)
set_option maxHeartbeats 4000000 in
theorem own_pos4_1 {kk0 kk1 kk2 kk3 : Int32} (h0 : own_3 kk0) (h1 : own_3 kk1) (h2 : own_3 kk2) (h3 : own_3 kk3) : own_Inb ((own_inc (own_s4 kk0 kk1 kk2 kk3) kk0).getD kk1.toNatClampNeg 0) 4 := by
  rcases h0 with rfl | rfl | rfl
  all_goals rcases h1 with rfl | rfl | rfl
  all_goals rcases h2 with rfl | rfl | rfl
  all_goals rcases h3 with rfl | rfl | rfl
  all_goals exact own_inb (by decide +kernel) (by decide +kernel)
set_option maxHeartbeats 4000000 in
theorem own_pos4_2 {kk0 kk1 kk2 kk3 : Int32} (h0 : own_3 kk0) (h1 : own_3 kk1) (h2 : own_3 kk2) (h3 : own_3 kk3) : own_Inb ((own_inc (own_inc (own_s4 kk0 kk1 kk2 kk3) kk0) kk1).getD kk2.toNatClampNeg 0) 4 := by
  rcases h0 with rfl | rfl | rfl
  all_goals rcases h1 with rfl | rfl | rfl
  all_goals rcases h2 with rfl | rfl | rfl
  all_goals rcases h3 with rfl | rfl | rfl
  all_goals exact own_inb (by decide +kernel) (by decide +kernel)
set_option maxHeartbeats 4000000 in
theorem own_pos4_3 {kk0 kk1 kk2 kk3 : Int32} (h0 : own_3 kk0) (h1 : own_3 kk1) (h2 : own_3 kk2) (h3 : own_3 kk3) : own_Inb ((own_inc (own_inc (own_inc (own_s4 kk0 kk1 kk2 kk3) kk0) kk1) kk2).getD kk3.toNatClampNeg 0) 4 := by
  rcases h0 with rfl | rfl | rfl
  all_goals rcases h1 with rfl | rfl | rfl
  all_goals rcases h2 with rfl | rfl | rfl
  all_goals rcases h3 with rfl | rfl | rfl
  all_goals exact own_inb (by decide +kernel) (by decide +kernel)
theorem own_setL {j : Int32} {vs : List Int32} {n : Nat} (h : vs.length = n) (q : own_Inb j n) : own_Inb j vs.length := by rw [h]; exact q

theorem d2_0 : decode method_2_code 0 = .ok (.iload_n 0, 1) := by decide +kernel
theorem d2_1 : decode method_2_code 1 = .ok (.ifCond .eq 7, 3) := by decide +kernel
theorem d2_4 : decode method_2_code 4 = .ok (.iconst 1, 1) := by decide +kernel
theorem d2_5 : decode method_2_code 5 = .ok (.goto 4, 3) := by decide +kernel
theorem d2_8 : decode method_2_code 8 = .ok (.iconst 0, 1) := by decide +kernel
theorem d2_9 : decode method_2_code 9 = .ok (.ireturn, 1) := by decide +kernel
theorem pn_2 : plainName "com/example/stevedore/stevedore/MoveGraphGroupedPinLaw" = true := by first | (simp [plainName, overriddenIn]; done) | decide +kernel
theorem ef_2 (m : MethodId) (p1 : Int32) : entryFrame m #[(.int p1)] 1 = mkF m 0 #[iv p1] [] := by first | (simp [entryFrame, mkF, argsToLocals, Value.category]; done) | rfl
def own_f2 (p1 : Int32) : Int32 :=
  (if p1 = (0 : Int32) then (0 : Int32) else (1 : Int32))
def Q2 (Z : State) (p1 : Int32) (h0 : Heap) (n0 : Nat) (v : Option Value) (h : Heap) (L : List Loc) : Prop := v = some (.int (own_f2 p1)) ∧ Fr n0 L ∧ h = h0
set_option maxRecDepth 65536 in
set_option maxHeartbeats 40000000 in
theorem rm2 (l : Launch) (Z : State) (a0 : Array Value) (hw : ∀ d ∈ tables_1, d.before a0 Z = true) (ws : List Jvm.Cond) (p1 : Int32) (h0 : Heap) (n0 : Nat) (Z0 : n0 ≤ h0.size) :
    MetFree l (⟨"com/example/stevedore/stevedore/MoveGraphGroupedPinLaw", "one", "(Z)I"⟩ : MethodName) (head1 (Jvm.Cond.code (⟨"com/example/stevedore/stevedore/MoveGraphGroupedPinLaw", "one", "(Z)I"⟩ : MethodName) method_2_code 1 (some .int) :: ws) ({ frames := 0, cells := 0, slots := 0, locals := 0 } : Room)) (fun a U => a = #[(.int p1)] ∧ Z.Warmed39 U.vm ∧ U.heap = h0) (fun _ _ _ _ _ => True) (fun _ U o U' => ∃ v L, o = .returned v ∧ Q2 Z p1 h0 n0 v U'.heap L ∧ FrameEnd U o U' L ({ frames := 0, cells := 0, slots := 0, locals := 0 } : Room).cells ({ frames := 0, cells := 0, slots := 0, locals := 0 } : Room).slots) := by
  refine MetFree.of_bodySF (plainFor_of_name pn_2) hisR ?_
  intro p e s m args below meth c s₁ Bd hml0 hP hK
  obtain ⟨rfl, hZ, hh⟩ := hP
  have hx := Bd.exec
  have hby := Bd.bytes
  have hml : c.maxLocals = 1 := hml0
  have hown : s.vm.findClass "com/example/stevedore/stevedore/MoveGraphGroupedPinLaw" = some m.cls := findClass_of_methodNamed Bd.named
  have hnm := (name_of_methodNamed Bd.named Bd.method).1
  have X0 : Stand p l e ({ frames := 0, cells := 0, slots := 0, locals := 0 } : Room) s m #[(.int p1)] below meth c s₁ [] 0 0 := Stand.of_body Bd
  have e0 : s₁.heap = h0 := by rw [← hh, Bd.state]; rfl
  have N0 := Fr.nil n0
  refine own_start (fun t k => castTop (ef_2 m p1) k) ?_
  show own_G p.tables e below _ (s₁.setTop (mkF m 0 #[iv p1] []))
  refine own_step (fun t k => XS.iloadN X0.here hx rfl (hb hby d2_0) rfl k) ?_
  by_cases hc1 : p1 = (0 : Int32)
  · skip
    refine own_step (fun t k => XS.ifYes X0.here hx rfl (pc0 := 1) (pc' := 8) rfl (hb hby d2_1) rfl ((if0 _ _).trans (teq hc1).1) (by decide) (by decide) k) ?_
    show own_G p.tables e below _ (s₁.setTop (mkF m 8 #[iv p1] []))
    refine own_step (fun t k => XS.iconst X0.here hx rfl (hb hby d2_8) k) ?_
    obtain ⟨fs, hr, hrun, hended, hW, hsame⟩ := X0.leave (v := some (.int (0 : Int32))) (fun h => by rw [Bd.returns] at h; cases h)
    refine own_done (retI X0 hx Bd.returns (hb hby d2_9) hr) hrun hended ⟨_, _, rfl, ?_, ⟨_, rfl⟩, hW, hsame.mono (by decide) (by decide)⟩
    show Q2 Z p1 h0 n0 _ s₁.heap _
    rw [e0]
    exact ⟨congrArg (fun z => some (Value.int z)) (show (0 : Int32) = (own_f2 p1) from by unfold own_f2; simp only [if_pos hc1]), N0, rfl⟩
  · skip
    refine own_step (fun t k => XS.ifNo X0.here hx rfl (hb hby d2_1) rfl ((if0 _ _).trans (feq hc1).1) k) ?_
    show own_G p.tables e below _ (s₁.setTop (mkF m 4 #[iv p1] []))
    refine own_step (fun t k => XS.iconst X0.here hx rfl (hb hby d2_4) k) ?_
    refine own_step (fun t k => XS.goto X0.here hx rfl (pc0 := 5) (pc' := 9) rfl (hb hby d2_5) (by decide) (by decide) k) ?_
    obtain ⟨fs, hr, hrun, hended, hW, hsame⟩ := X0.leave (v := some (.int (1 : Int32))) (fun h => by rw [Bd.returns] at h; cases h)
    refine own_done (retI X0 hx Bd.returns (hb hby d2_9) hr) hrun hended ⟨_, _, rfl, ?_, ⟨_, rfl⟩, hW, hsame.mono (by decide) (by decide)⟩
    show Q2 Z p1 h0 n0 _ s₁.heap _
    rw [e0]
    exact ⟨congrArg (fun z => some (Value.int z)) (show (1 : Int32) = (own_f2 p1) from by unfold own_f2; simp only [if_neg hc1]), N0, rfl⟩
theorem d1_0 : decode method_3_code 0 = .ok (.iload_n 1, 1) := by decide +kernel
theorem d1_1 : decode method_3_code 1 = .ok (.ifCond .le 12, 3) := by decide +kernel
theorem d1_13 : decode method_3_code 13 = .ok (.iconst 0, 1) := by decide +kernel
theorem d1_14 : decode method_3_code 14 = .ok (.invokestatic 7, 3) := by decide +kernel
theorem d1_17 : decode method_3_code 17 = .ok (.iload_n 1, 1) := by decide +kernel
theorem d1_18 : decode method_3_code 18 = .ok (.iconst 1, 1) := by decide +kernel
theorem d1_19 : decode method_3_code 19 = .ok (.if_icmp .le 12, 3) := by decide +kernel
theorem d1_31 : decode method_3_code 31 = .ok (.iconst 0, 1) := by decide +kernel
theorem d1_32 : decode method_3_code 32 = .ok (.invokestatic 7, 3) := by decide +kernel
theorem d1_35 : decode method_3_code 35 = .ok (.iadd, 1) := by decide +kernel
theorem d1_36 : decode method_3_code 36 = .ok (.iload_n 1, 1) := by decide +kernel
theorem d1_37 : decode method_3_code 37 = .ok (.iconst 2, 1) := by decide +kernel
theorem d1_38 : decode method_3_code 38 = .ok (.if_icmp .le 13, 3) := by decide +kernel
theorem d1_51 : decode method_3_code 51 = .ok (.iconst 0, 1) := by decide +kernel
theorem d1_52 : decode method_3_code 52 = .ok (.invokestatic 7, 3) := by decide +kernel
theorem d1_55 : decode method_3_code 55 = .ok (.iadd, 1) := by decide +kernel
theorem d1_56 : decode method_3_code 56 = .ok (.iload_n 1, 1) := by decide +kernel
theorem d1_57 : decode method_3_code 57 = .ok (.iconst 3, 1) := by decide +kernel
theorem d1_58 : decode method_3_code 58 = .ok (.if_icmp .le 13, 3) := by decide +kernel
theorem d1_71 : decode method_3_code 71 = .ok (.iconst 0, 1) := by decide +kernel
theorem d1_72 : decode method_3_code 72 = .ok (.invokestatic 7, 3) := by decide +kernel
theorem d1_75 : decode method_3_code 75 = .ok (.iadd, 1) := by decide +kernel
theorem d1_76 : decode method_3_code 76 = .ok (.ireturn, 1) := by decide +kernel
theorem pn_1_n0 : plainName "com/example/stevedore/stevedore/MoveGraphGroupedPinLaw" = true := by first | (simp [plainName, overriddenIn]; done) | decide +kernel
theorem pd_1_n0_0 : parseMethodDescriptor "(Z)I" = some ⟨[.boolean], some .int⟩ := by decide +kernel
theorem ef_1_n0 (m : MethodId) (p1 : Int32) (p3 : Int32) (p4 : Int32) (p5 : Int32) (p6 : Int32) : entryFrame m #[(.int p1), (.int (0 : Int32)), (.int p3), (.int p4), (.int p5), (.int p6)] 6 = mkF m 0 #[iv p1, iv (0 : Int32), iv p3, iv p4, iv p5, iv p6] [] := by first | (simp [entryFrame, mkF, argsToLocals, Value.category]; done) | rfl
def Q1_n0 (Z : State) (p1 : Int32) (p3 : Int32) (p4 : Int32) (p5 : Int32) (p6 : Int32) (h0 : Heap) (n0 : Nat) (v : Option Value) (h : Heap) (L : List Loc) : Prop := v = some (.int ((((own_f2 (0 : Int32)) + (own_f2 (0 : Int32))) + (own_f2 (0 : Int32))) + (own_f2 (0 : Int32)))) ∧ Fr n0 L ∧ h = h0
set_option maxRecDepth 65536 in
set_option maxHeartbeats 40000000 in
theorem rm1_n0 (l : Launch) (Z : State) (a0 : Array Value) (hw : ∀ d ∈ tables_1, d.before a0 Z = true) (ws : List Jvm.Cond) (p1 : Int32) (p3 : Int32) (p4 : Int32) (p5 : Int32) (p6 : Int32) (h0 : Heap) (n0 : Nat) (Z0 : n0 ≤ h0.size) :
    MetFree l (⟨"com/example/stevedore/stevedore/MoveGraphGroupedPinLaw", "cnt", "(IIIIII)I"⟩ : MethodName) (head1 (Jvm.Cond.code (⟨"com/example/stevedore/stevedore/MoveGraphGroupedPinLaw", "cnt", "(IIIIII)I"⟩ : MethodName) method_3_code 6 (some .int) :: ws) ({ frames := 1, cells := 0, slots := 0, locals := 13 } : Room)) (fun a U => a = #[(.int p1), (.int (0 : Int32)), (.int p3), (.int p4), (.int p5), (.int p6)] ∧ Z.Warmed39 U.vm ∧ U.heap = h0) (fun _ _ _ _ _ => True) (fun _ U o U' => ∃ v L, o = .returned v ∧ Q1_n0 Z p1 p3 p4 p5 p6 h0 n0 v U'.heap L ∧ FrameEnd U o U' L ({ frames := 1, cells := 0, slots := 0, locals := 13 } : Room).cells ({ frames := 1, cells := 0, slots := 0, locals := 13 } : Room).slots) := by
  refine MetFree.of_bodySF (plainFor_of_name pn_1_n0) hisR ?_
  intro p e s m args below meth c s₁ Bd hml0 hP hK
  obtain ⟨rfl, hZ, hh⟩ := hP
  have hx := Bd.exec
  have hby := Bd.bytes
  have hml : c.maxLocals = 6 := hml0
  have hown : s.vm.findClass "com/example/stevedore/stevedore/MoveGraphGroupedPinLaw" = some m.cls := findClass_of_methodNamed Bd.named
  have hnm := (name_of_methodNamed Bd.named Bd.method).1
  have X0 : Stand p l e ({ frames := 1, cells := 0, slots := 0, locals := 13 } : Room) s m #[(.int p1), (.int (0 : Int32)), (.int p3), (.int p4), (.int p5), (.int p6)] below meth c s₁ [] 0 0 := Stand.of_body Bd
  have e0 : s₁.heap = h0 := by rw [← hh, Bd.state]; rfl
  have N0 := Fr.nil n0
  refine own_start (fun t k => castTop (ef_1_n0 m p1 p3 p4 p5 p6) k) ?_
  show own_G p.tables e below _ (s₁.setTop (mkF m 0 #[iv p1, iv (0 : Int32), iv p3, iv p4, iv p5, iv p6] []))
  refine own_step (fun t k => XS.iloadN X0.here hx rfl (hb hby d1_0) rfl k) ?_
  have hk1 : ¬ ((0 : Int32) < (0 : Int32)) := (by decide)
  refine own_step (fun t k => XS.ifYes X0.here hx rfl (pc0 := 1) (pc' := 13) rfl (hb hby d1_1) rfl ((if0 _ _).trans (flt hk1).2.2.2) (by decide) (by decide) k) ?_
  show own_G p.tables e below _ (s₁.setTop (mkF m 13 #[iv p1, iv (0 : Int32), iv p3, iv p4, iv p5, iv p6] []))
  refine own_step (fun t k => XS.iconst X0.here hx rfl (hb hby d1_13) k) ?_
  obtain ⟨_, _, ⟨T2, L2, k2, n2⟩, -, X2, ⟨Lc2, hQ2, l2, y2, z2⟩, st2⟩ := Jvm.LawKit.callS X0 hx (y := (⟨"com/example/stevedore/stevedore/MoveGraphGroupedPinLaw", "one", "(Z)I"⟩ : MethodName)) hown (mvT hZ (hw _ (List.mem_of_getElem? (i := 5) rfl))) (mvT hZ (hw _ (List.mem_of_getElem? (i := 6) rfl))) (mvT hZ (hw _ (List.mem_of_getElem? (i := 3) rfl))) (mvT hZ (hw _ (List.mem_of_getElem? (i := 7) rfl))) (by decide) (backOf (W := 0) (rm2 l Z a0 hw [] (0 : Int32) h0 n0 (Nat.le_trans Z0 (Keep.refl h0 []).1) ) hZ (hw _ (List.mem_of_getElem? (i := 7) rfl)) (hw _ (List.mem_of_getElem? (i := 3) rfl)) (by decide) (by decide)) (g := (mkF m 14 #[iv p1, iv (0 : Int32), iv p3, iv p4, iv p5, iv p6] [(.int (0 : Int32))])) rfl (by rw [hml]; rfl) (argsL := [(.int (0 : Int32))]) (rest := []) (lenOf pd_1_n0_0 rfl) rfl (by show 2 * 0 + _ ≤ _; exact Nat.le_of_eq rfl) (hb hby d1_14) (fun _ _ => ⟨rfl, e0, (by decide : 0 + 0 ≤ _), (by decide : 0 + 0 ≤ _)⟩)
  dsimp only [Pt.U, Pt.locs, Pt.cells, Pt.slots] at X2 l2 y2 z2 st2 hQ2
  subst y2 z2
  obtain ⟨rfl, N2q, e2⟩ := hQ2
  have N2 : Fr n0 L2 := by rw [l2]; exact Fr.app N0 N2q
  refine own_step st2 ?_
  refine own_step (fun t k => XS.iloadN X2.here hx rfl (hb hby d1_17) rfl k) ?_
  refine own_step (fun t k => XS.iconst X2.here hx rfl (hb hby d1_18) k) ?_
  show own_G p.tables e below _ (T2.setTop (mkF m 19 #[iv p1, iv (0 : Int32), iv p3, iv p4, iv p5, iv p6] [(.int (1 : Int32)), (.int (0 : Int32)), (.int (own_f2 (0 : Int32)))]))
  have hk3 : ¬ ((1 : Int32) < (0 : Int32)) := (by decide)
  refine own_step (fun t k => XS.icmpYes X2.here hx rfl (pc0 := 19) (pc' := 31) rfl (hb hby d1_19) rfl ((flt hk3).2.2.2) (by decide) (by decide) k) ?_
  show own_G p.tables e below _ (T2.setTop (mkF m 31 #[iv p1, iv (0 : Int32), iv p3, iv p4, iv p5, iv p6] [(.int (own_f2 (0 : Int32)))]))
  refine own_step (fun t k => XS.iconst X2.here hx rfl (hb hby d1_31) k) ?_
  obtain ⟨_, _, ⟨T4, L4, k4, n4⟩, -, X4, ⟨Lc4, hQ4, l4, y4, z4⟩, st4⟩ := Jvm.LawKit.callS X2 hx (y := (⟨"com/example/stevedore/stevedore/MoveGraphGroupedPinLaw", "one", "(Z)I"⟩ : MethodName)) hown (mvT hZ (hw _ (List.mem_of_getElem? (i := 5) rfl))) (mvT hZ (hw _ (List.mem_of_getElem? (i := 6) rfl))) (mvT hZ (hw _ (List.mem_of_getElem? (i := 3) rfl))) (mvT hZ (hw _ (List.mem_of_getElem? (i := 7) rfl))) (by decide) (backOf (W := 1) (rm2 l Z a0 hw [] (0 : Int32) h0 n0 (Nat.le_trans Z0 (Keep.refl h0 []).1) ) hZ (hw _ (List.mem_of_getElem? (i := 7) rfl)) (hw _ (List.mem_of_getElem? (i := 3) rfl)) (by decide) (by decide)) (g := (mkF m 32 #[iv p1, iv (0 : Int32), iv p3, iv p4, iv p5, iv p6] [(.int (0 : Int32)), (.int (own_f2 (0 : Int32)))])) rfl (by rw [hml]; rfl) (argsL := [(.int (0 : Int32))]) (rest := [(.int (own_f2 (0 : Int32)))]) (lenOf pd_1_n0_0 rfl) rfl (by show 2 * 0 + _ ≤ _; exact Nat.le_of_eq rfl) (hb hby d1_32) (fun _ _ => ⟨rfl, e2, (by decide : 0 + 0 ≤ _), (by decide : 0 + 0 ≤ _)⟩)
  dsimp only [Pt.U, Pt.locs, Pt.cells, Pt.slots] at X4 l4 y4 z4 st4 hQ4
  subst y4 z4
  obtain ⟨rfl, N4q, e4⟩ := hQ4
  have N4 : Fr n0 L4 := by rw [l4]; exact Fr.app N2 N4q
  refine own_step st4 ?_
  refine own_step (fun t k => XS.iadd X4.here hx rfl (hb hby d1_35) rfl k) ?_
  refine own_step (fun t k => XS.iloadN X4.here hx rfl (hb hby d1_36) rfl k) ?_
  show own_G p.tables e below _ (T4.setTop (mkF m 37 #[iv p1, iv (0 : Int32), iv p3, iv p4, iv p5, iv p6] [(.int (0 : Int32)), (.int ((own_f2 (0 : Int32)) + (own_f2 (0 : Int32))))]))
  refine own_step (fun t k => XS.iconst X4.here hx rfl (hb hby d1_37) k) ?_
  have hk5 : ¬ ((2 : Int32) < (0 : Int32)) := (by decide)
  refine own_step (fun t k => XS.icmpYes X4.here hx rfl (pc0 := 38) (pc' := 51) rfl (hb hby d1_38) rfl ((flt hk5).2.2.2) (by decide) (by decide) k) ?_
  clear N2 N2q N4q X2 e2 hk1 hk3 hk5 st2 st4
  show own_G p.tables e below _ (T4.setTop (mkF m 51 #[iv p1, iv (0 : Int32), iv p3, iv p4, iv p5, iv p6] [(.int ((own_f2 (0 : Int32)) + (own_f2 (0 : Int32))))]))
  refine own_step (fun t k => XS.iconst X4.here hx rfl (hb hby d1_51) k) ?_
  obtain ⟨_, _, ⟨T6, L6, k6, n6⟩, -, X6, ⟨Lc6, hQ6, l6, y6, z6⟩, st6⟩ := Jvm.LawKit.callS X4 hx (y := (⟨"com/example/stevedore/stevedore/MoveGraphGroupedPinLaw", "one", "(Z)I"⟩ : MethodName)) hown (mvT hZ (hw _ (List.mem_of_getElem? (i := 5) rfl))) (mvT hZ (hw _ (List.mem_of_getElem? (i := 6) rfl))) (mvT hZ (hw _ (List.mem_of_getElem? (i := 3) rfl))) (mvT hZ (hw _ (List.mem_of_getElem? (i := 7) rfl))) (by decide) (backOf (W := 1) (rm2 l Z a0 hw [] (0 : Int32) h0 n0 (Nat.le_trans Z0 (Keep.refl h0 []).1) ) hZ (hw _ (List.mem_of_getElem? (i := 7) rfl)) (hw _ (List.mem_of_getElem? (i := 3) rfl)) (by decide) (by decide)) (g := (mkF m 52 #[iv p1, iv (0 : Int32), iv p3, iv p4, iv p5, iv p6] [(.int (0 : Int32)), (.int ((own_f2 (0 : Int32)) + (own_f2 (0 : Int32))))])) rfl (by rw [hml]; rfl) (argsL := [(.int (0 : Int32))]) (rest := [(.int ((own_f2 (0 : Int32)) + (own_f2 (0 : Int32))))]) (lenOf pd_1_n0_0 rfl) rfl (by show 2 * 0 + _ ≤ _; exact Nat.le_of_eq rfl) (hb hby d1_52) (fun _ _ => ⟨rfl, e4, (by decide : 0 + 0 ≤ _), (by decide : 0 + 0 ≤ _)⟩)
  dsimp only [Pt.U, Pt.locs, Pt.cells, Pt.slots] at X6 l6 y6 z6 st6 hQ6
  subst y6 z6
  obtain ⟨rfl, N6q, e6⟩ := hQ6
  have N6 : Fr n0 L6 := by rw [l6]; exact Fr.app N4 N6q
  refine own_step st6 ?_
  refine own_step (fun t k => XS.iadd X6.here hx rfl (hb hby d1_55) rfl k) ?_
  refine own_step (fun t k => XS.iloadN X6.here hx rfl (hb hby d1_56) rfl k) ?_
  show own_G p.tables e below _ (T6.setTop (mkF m 57 #[iv p1, iv (0 : Int32), iv p3, iv p4, iv p5, iv p6] [(.int (0 : Int32)), (.int (((own_f2 (0 : Int32)) + (own_f2 (0 : Int32))) + (own_f2 (0 : Int32))))]))
  refine own_step (fun t k => XS.iconst X6.here hx rfl (hb hby d1_57) k) ?_
  have hk7 : ¬ ((3 : Int32) < (0 : Int32)) := (by decide)
  refine own_step (fun t k => XS.icmpYes X6.here hx rfl (pc0 := 58) (pc' := 71) rfl (hb hby d1_58) rfl ((flt hk7).2.2.2) (by decide) (by decide) k) ?_
  show own_G p.tables e below _ (T6.setTop (mkF m 71 #[iv p1, iv (0 : Int32), iv p3, iv p4, iv p5, iv p6] [(.int (((own_f2 (0 : Int32)) + (own_f2 (0 : Int32))) + (own_f2 (0 : Int32))))]))
  refine own_step (fun t k => XS.iconst X6.here hx rfl (hb hby d1_71) k) ?_
  obtain ⟨_, _, ⟨T8, L8, k8, n8⟩, -, X8, ⟨Lc8, hQ8, l8, y8, z8⟩, st8⟩ := Jvm.LawKit.callS X6 hx (y := (⟨"com/example/stevedore/stevedore/MoveGraphGroupedPinLaw", "one", "(Z)I"⟩ : MethodName)) hown (mvT hZ (hw _ (List.mem_of_getElem? (i := 5) rfl))) (mvT hZ (hw _ (List.mem_of_getElem? (i := 6) rfl))) (mvT hZ (hw _ (List.mem_of_getElem? (i := 3) rfl))) (mvT hZ (hw _ (List.mem_of_getElem? (i := 7) rfl))) (by decide) (backOf (W := 1) (rm2 l Z a0 hw [] (0 : Int32) h0 n0 (Nat.le_trans Z0 (Keep.refl h0 []).1) ) hZ (hw _ (List.mem_of_getElem? (i := 7) rfl)) (hw _ (List.mem_of_getElem? (i := 3) rfl)) (by decide) (by decide)) (g := (mkF m 72 #[iv p1, iv (0 : Int32), iv p3, iv p4, iv p5, iv p6] [(.int (0 : Int32)), (.int (((own_f2 (0 : Int32)) + (own_f2 (0 : Int32))) + (own_f2 (0 : Int32))))])) rfl (by rw [hml]; rfl) (argsL := [(.int (0 : Int32))]) (rest := [(.int (((own_f2 (0 : Int32)) + (own_f2 (0 : Int32))) + (own_f2 (0 : Int32))))]) (lenOf pd_1_n0_0 rfl) rfl (by show 2 * 0 + _ ≤ _; exact Nat.le_of_eq rfl) (hb hby d1_72) (fun _ _ => ⟨rfl, e6, (by decide : 0 + 0 ≤ _), (by decide : 0 + 0 ≤ _)⟩)
  dsimp only [Pt.U, Pt.locs, Pt.cells, Pt.slots] at X8 l8 y8 z8 st8 hQ8
  subst y8 z8
  obtain ⟨rfl, N8q, e8⟩ := hQ8
  have N8 : Fr n0 L8 := by rw [l8]; exact Fr.app N6 N8q
  refine own_step st8 ?_
  refine own_step (fun t k => XS.iadd X8.here hx rfl (hb hby d1_75) rfl k) ?_
  obtain ⟨fs, hr, hrun, hended, hW, hsame⟩ := X8.leave (v := some (.int ((((own_f2 (0 : Int32)) + (own_f2 (0 : Int32))) + (own_f2 (0 : Int32))) + (own_f2 (0 : Int32))))) (fun h => by rw [Bd.returns] at h; cases h)
  refine own_done (retI X8 hx Bd.returns (hb hby d1_76) hr) hrun hended ⟨_, _, rfl, ?_, ⟨_, rfl⟩, hW, hsame.mono (by decide) (by decide)⟩
  show Q1_n0 Z p1 p3 p4 p5 p6 h0 n0 _ T8.heap _
  rw [e8]
  exact ⟨congrArg (fun z => some (Value.int z)) (show ((((own_f2 (0 : Int32)) + (own_f2 (0 : Int32))) + (own_f2 (0 : Int32))) + (own_f2 (0 : Int32))) = ((((own_f2 (0 : Int32)) + (own_f2 (0 : Int32))) + (own_f2 (0 : Int32))) + (own_f2 (0 : Int32))) from rfl), N8, rfl⟩
theorem d3_0 : decode prog_15_method_17_code 0 = .ok (.aload_n 0, 1) := by decide +kernel
theorem d3_1 : decode prog_15_method_17_code 1 = .ok (.astore_n 3, 1) := by decide +kernel
theorem d3_2 : decode prog_15_method_17_code 2 = .ok (.aload_n 3, 1) := by decide +kernel
theorem d3_3 : decode prog_15_method_17_code 3 = .ok (.arraylength, 1) := by decide +kernel
theorem d3_4 : decode prog_15_method_17_code 4 = .ok (.istore 4, 2) := by decide +kernel
theorem d3_6 : decode prog_15_method_17_code 6 = .ok (.iconst 0, 1) := by decide +kernel
theorem d3_7 : decode prog_15_method_17_code 7 = .ok (.istore 5, 2) := by decide +kernel
theorem d3_9 : decode prog_15_method_17_code 9 = .ok (.iload 5, 2) := by decide +kernel
theorem d3_11 : decode prog_15_method_17_code 11 = .ok (.iload 4, 2) := by decide +kernel
theorem d3_13 : decode prog_15_method_17_code 13 = .ok (.if_icmp .ge 27, 3) := by decide +kernel
theorem d3_40 : decode prog_15_method_17_code 40 = .ok (.iconst 0, 1) := by decide +kernel
theorem d3_41 : decode prog_15_method_17_code 41 = .ok (.istore_n 3, 1) := by decide +kernel
theorem d3_42 : decode prog_15_method_17_code 42 = .ok (.iload_n 3, 1) := by decide +kernel
theorem d3_43 : decode prog_15_method_17_code 43 = .ok (.aload_n 2, 1) := by decide +kernel
theorem d3_44 : decode prog_15_method_17_code 44 = .ok (.arraylength, 1) := by decide +kernel
theorem d3_45 : decode prog_15_method_17_code 45 = .ok (.iconst 1, 1) := by decide +kernel
theorem d3_46 : decode prog_15_method_17_code 46 = .ok (.isub, 1) := by decide +kernel
theorem d3_47 : decode prog_15_method_17_code 47 = .ok (.if_icmp .ge 20, 3) := by decide +kernel
theorem d3_50 : decode prog_15_method_17_code 50 = .ok (.aload_n 2, 1) := by decide +kernel
theorem d3_51 : decode prog_15_method_17_code 51 = .ok (.iload_n 3, 1) := by decide +kernel
theorem d3_52 : decode prog_15_method_17_code 52 = .ok (.iconst 1, 1) := by decide +kernel
theorem d3_53 : decode prog_15_method_17_code 53 = .ok (.iadd, 1) := by decide +kernel
theorem d3_54 : decode prog_15_method_17_code 54 = .ok (.dup2, 1) := by decide +kernel
theorem d3_55 : decode prog_15_method_17_code 55 = .ok (.iaload, 1) := by decide +kernel
theorem d3_56 : decode prog_15_method_17_code 56 = .ok (.aload_n 2, 1) := by decide +kernel
theorem d3_57 : decode prog_15_method_17_code 57 = .ok (.iload_n 3, 1) := by decide +kernel
theorem d3_58 : decode prog_15_method_17_code 58 = .ok (.iaload, 1) := by decide +kernel
theorem d3_59 : decode prog_15_method_17_code 59 = .ok (.iadd, 1) := by decide +kernel
theorem d3_60 : decode prog_15_method_17_code 60 = .ok (.iastore, 1) := by decide +kernel
theorem d3_61 : decode prog_15_method_17_code 61 = .ok (.iinc 3 1, 3) := by decide +kernel
theorem d3_64 : decode prog_15_method_17_code 64 = .ok (.goto (-22), 3) := by decide +kernel
theorem d3_67 : decode prog_15_method_17_code 67 = .ok (.aload_n 0, 1) := by decide +kernel
theorem d3_68 : decode prog_15_method_17_code 68 = .ok (.arraylength, 1) := by decide +kernel
theorem d3_69 : decode prog_15_method_17_code 69 = .ok (.newarray .int, 2) := by decide +kernel
theorem d3_71 : decode prog_15_method_17_code 71 = .ok (.astore_n 3, 1) := by decide +kernel
theorem d3_72 : decode prog_15_method_17_code 72 = .ok (.aload_n 2, 1) := by decide +kernel
theorem d3_73 : decode prog_15_method_17_code 73 = .ok (.invokevirtual 149, 3) := by decide +kernel
theorem d3_76 : decode prog_15_method_17_code 76 = .ok (.checkcast 150, 3) := by decide +kernel
theorem d3_79 : decode prog_15_method_17_code 79 = .ok (.astore 4, 2) := by decide +kernel
theorem d3_81 : decode prog_15_method_17_code 81 = .ok (.aload_n 0, 1) := by decide +kernel
theorem d3_82 : decode prog_15_method_17_code 82 = .ok (.astore 5, 2) := by decide +kernel
theorem d3_84 : decode prog_15_method_17_code 84 = .ok (.aload 5, 2) := by decide +kernel
theorem d3_86 : decode prog_15_method_17_code 86 = .ok (.arraylength, 1) := by decide +kernel
theorem d3_87 : decode prog_15_method_17_code 87 = .ok (.istore 6, 2) := by decide +kernel
theorem d3_89 : decode prog_15_method_17_code 89 = .ok (.iconst 0, 1) := by decide +kernel
theorem d3_90 : decode prog_15_method_17_code 90 = .ok (.istore 7, 2) := by decide +kernel
theorem d3_92 : decode prog_15_method_17_code 92 = .ok (.iload 7, 2) := by decide +kernel
theorem d3_94 : decode prog_15_method_17_code 94 = .ok (.iload 6, 2) := by decide +kernel
theorem d3_96 : decode prog_15_method_17_code 96 = .ok (.if_icmp .ge 32, 3) := by decide +kernel
theorem d3_128 : decode prog_15_method_17_code 128 = .ok (.aload_n 3, 1) := by decide +kernel
theorem d3_129 : decode prog_15_method_17_code 129 = .ok (.areturn, 1) := by decide +kernel
theorem pn_3_n0 : plainName "com/example/stevedore/stevedore/MoveGraph" = true := by first | (simp [plainName, overriddenIn]; done) | decide +kernel
theorem ef_3_n0 (m : MethodId) (a1 : Addr) (a2 : Addr) (a3 : Addr) : entryFrame m #[(.ref a1), (.ref a2), (.ref a3)] 9 = mkF m 0 #[rv a1, rv a2, rv a3, .unset, .unset, .unset, .unset, .unset, .unset] [] := by first | (simp [entryFrame, mkF, argsToLocals, Value.category]; done) | rfl
def Q3_n0 (Z : State) (a1 : Addr) (a2 : Addr) (a3 : Addr) (kv0 : Int32) (kv1 : Int32) (kv2 : Int32) (kv3 : Int32) (h0 : Heap) (n0 : Nat) (v : Option Value) (h : Heap) (L : List Loc) : Prop := ∃ (rb : Addr), v = some (.ref rb) ∧ Fr n0 L ∧ Keep h0 h [a3] ∧ own_Ari Z h a3 .int (own_s0) ∧ own_Ari Z h rb .int [] ∧ h0.size ≤ rb
set_option maxRecDepth 65536 in
set_option maxHeartbeats 40000000 in
theorem rm3_n0 (l : Launch) (Z : State) (a0 : Array Value) (hw : ∀ d ∈ tables_1, d.before a0 Z = true) (ws : List Jvm.Cond) (a1 : Addr) (a2 : Addr) (a3 : Addr) (kv0 : Int32) (kv1 : Int32) (kv2 : Int32) (kv3 : Int32) (h0 : Heap) (n0 : Nat) (Z0 : n0 ≤ h0.size) (fp0 : own_Ari Z h0 a1 .int []) (fp1 : own_Ari Z h0 a2 .int [kv0, kv1, kv2, kv3]) (fp2 : own_Ari Z h0 a3 .int [(0 : Int32), (0 : Int32), (0 : Int32), (0 : Int32)]) (fp3 : Exa Z h0 a3 "[I") (g_a3 : n0 ≤ a3) (ne_a1_a3 : a1 ≠ a3) (ne_a2_a3 : a2 ≠ a3) :
    MetFree l (⟨"com/example/stevedore/stevedore/MoveGraph", "grouped", "([I[I[I)[I"⟩ : MethodName) (head1 (Jvm.Cond.code (⟨"com/example/stevedore/stevedore/MoveGraph", "grouped", "([I[I[I)[I"⟩ : MethodName) prog_15_method_17_code 9 (some (.array .int)) :: ws) ({ frames := 1, cells := 2, slots := 4, locals := 14 } : Room)) (fun a U => a = #[(.ref a1), (.ref a2), (.ref a3)] ∧ Z.Warmed39 U.vm ∧ U.heap = h0) (fun _ _ _ _ _ => True) (fun _ U o U' => ∃ v L, o = .returned v ∧ Q3_n0 Z a1 a2 a3 kv0 kv1 kv2 kv3 h0 n0 v U'.heap L ∧ FrameEnd U o U' L ({ frames := 1, cells := 2, slots := 4, locals := 14 } : Room).cells ({ frames := 1, cells := 2, slots := 4, locals := 14 } : Room).slots) := by
  refine MetFree.of_bodySF (plainFor_of_name pn_3_n0) hisR ?_
  intro p e s m args below meth c s₁ Bd hml0 hP hK
  obtain ⟨rfl, hZ, hh⟩ := hP
  have hx := Bd.exec
  have hby := Bd.bytes
  have hml : c.maxLocals = 9 := hml0
  have hown : s.vm.findClass "com/example/stevedore/stevedore/MoveGraph" = some m.cls := findClass_of_methodNamed Bd.named
  have hnm := (name_of_methodNamed Bd.named Bd.method).1
  have X0 : Stand p l e ({ frames := 1, cells := 2, slots := 4, locals := 14 } : Room) s m #[(.ref a1), (.ref a2), (.ref a3)] below meth c s₁ [] 0 0 := Stand.of_body Bd
  have e0 : s₁.heap = h0 := by rw [← hh, Bd.state]; rfl
  have N0 := Fr.nil n0
  refine own_start (fun t k => castTop (ef_3_n0 m a1 a2 a3) k) ?_
  show own_G p.tables e below _ (s₁.setTop (mkF m 0 #[rv a1, rv a2, rv a3, .unset, .unset, .unset, .unset, .unset, .unset] []))
  refine own_step (fun t k => XS.aloadN X0.here hx rfl (hb hby d3_0) rfl rfl k) ?_
  refine own_step (fun t k => XS.astoreN X0.here hx rfl (hb hby d3_1) rfl rfl (l' := #[rv a1, rv a2, rv a3, rv a1, .unset, .unset, .unset, .unset, .unset]) rfl k) ?_
  refine own_step (fun t k => XS.aloadN X0.here hx rfl (hb hby d3_2) rfl rfl k) ?_
  refine own_step (own_lenI X0 hx hZ e0 fp0 (g := (mkF m 3 #[rv a1, rv a2, rv a3, rv a1, .unset, .unset, .unset, .unset, .unset] [(.ref a1)])) rfl rfl (hb hby d3_3)) ?_
  show own_G p.tables e below _ (s₁.setTop (mkF m 4 #[rv a1, rv a2, rv a3, rv a1, .unset, .unset, .unset, .unset, .unset] [(.int (0 : Int32))]))
  refine own_step (fun t k => XS.istore X0.here hx rfl (hb hby d3_4) rfl (l' := #[rv a1, rv a2, rv a3, rv a1, iv (0 : Int32), .unset, .unset, .unset, .unset]) rfl k) ?_
  refine own_step (fun t k => XS.iconst X0.here hx rfl (hb hby d3_6) k) ?_
  refine own_step (fun t k => XS.istore X0.here hx rfl (hb hby d3_7) rfl (l' := #[rv a1, rv a2, rv a3, rv a1, iv (0 : Int32), iv (0 : Int32), .unset, .unset, .unset]) rfl k) ?_
  refine own_step (fun t k => XS.iload X0.here hx rfl (hb hby d3_9) rfl k) ?_
  show own_G p.tables e below _ (s₁.setTop (mkF m 11 #[rv a1, rv a2, rv a3, rv a1, iv (0 : Int32), iv (0 : Int32), .unset, .unset, .unset] [(.int (0 : Int32))]))
  refine own_step (fun t k => XS.iload X0.here hx rfl (hb hby d3_11) rfl k) ?_
  have hk1 : ¬ ((0 : Int32) < (0 : Int32)) := (by decide)
  refine own_step (fun t k => XS.icmpYes X0.here hx rfl (pc0 := 13) (pc' := 40) rfl (hb hby d3_13) rfl ((flt hk1).2.1) (by decide) (by decide) k) ?_
  show own_G p.tables e below _ (s₁.setTop (mkF m 40 #[rv a1, rv a2, rv a3, rv a1, iv (0 : Int32), iv (0 : Int32), .unset, .unset, .unset] []))
  refine own_step (fun t k => XS.iconst X0.here hx rfl (hb hby d3_40) k) ?_
  refine own_step (fun t k => XS.istoreN X0.here hx rfl (hb hby d3_41) rfl (l' := #[rv a1, rv a2, rv a3, iv (0 : Int32), iv (0 : Int32), iv (0 : Int32), .unset, .unset, .unset]) rfl k) ?_
  refine own_step (fun t k => XS.iloadN X0.here hx rfl (hb hby d3_42) rfl k) ?_
  refine own_step (fun t k => XS.aloadN X0.here hx rfl (hb hby d3_43) rfl rfl k) ?_
  show own_G p.tables e below _ (s₁.setTop (mkF m 44 #[rv a1, rv a2, rv a3, iv (0 : Int32), iv (0 : Int32), iv (0 : Int32), .unset, .unset, .unset] [(.ref a3), (.int (0 : Int32))]))
  refine own_step (own_lenI X0 hx hZ e0 fp2 (g := (mkF m 44 #[rv a1, rv a2, rv a3, iv (0 : Int32), iv (0 : Int32), iv (0 : Int32), .unset, .unset, .unset] [(.ref a3), (.int (0 : Int32))])) rfl rfl (hb hby d3_44)) ?_
  refine own_step (fun t k => XS.iconst X0.here hx rfl (hb hby d3_45) k) ?_
  refine own_step (fun t k => XS.isub X0.here hx rfl (hb hby d3_46) rfl k) ?_
  have hk2 : (0 : Int32) < (3 : Int32) := (by decide)
  refine own_step (fun t k => XS.icmpNo X0.here hx rfl (hb hby d3_47) rfl ((tlt hk2).2.1) k) ?_
  show own_G p.tables e below _ (s₁.setTop (mkF m 50 #[rv a1, rv a2, rv a3, iv (0 : Int32), iv (0 : Int32), iv (0 : Int32), .unset, .unset, .unset] []))
  refine own_step (fun t k => XS.aloadN X0.here hx rfl (hb hby d3_50) rfl rfl k) ?_
  refine own_step (fun t k => XS.iloadN X0.here hx rfl (hb hby d3_51) rfl k) ?_
  refine own_step (fun t k => XS.iconst X0.here hx rfl (hb hby d3_52) k) ?_
  refine own_step (fun t k => XS.iadd X0.here hx rfl (hb hby d3_53) rfl k) ?_
  show own_G p.tables e below _ (s₁.setTop (mkF m 54 #[rv a1, rv a2, rv a3, iv (0 : Int32), iv (0 : Int32), iv (0 : Int32), .unset, .unset, .unset] [(.int (1 : Int32)), (.ref a3)]))
  refine own_step (B := s₁.setTop (mkF m 55 #[rv a1, rv a2, rv a3, iv (0 : Int32), iv (0 : Int32), iv (0 : Int32), .unset, .unset, .unset] [(.int (1 : Int32)), (.ref a3), (.int (1 : Int32)), (.ref a3)])) (fun t k => by
    jvm_step X0.here [X0.here.top, hx, (hb hby d3_54), Value.category]
    exact k) ?_
  refine own_step (own_iaload X0 hx hZ e0 fp2 (own_inb (by decide) (Nat.le_of_ble_eq_true rfl)) (g := (mkF m 55 #[rv a1, rv a2, rv a3, iv (0 : Int32), iv (0 : Int32), iv (0 : Int32), .unset, .unset, .unset] [(.int (1 : Int32)), (.ref a3), (.int (1 : Int32)), (.ref a3)])) rfl rfl (hb hby d3_55)) ?_
  refine own_step (fun t k => XS.aloadN X0.here hx rfl (hb hby d3_56) rfl rfl k) ?_
  refine own_step (fun t k => XS.iloadN X0.here hx rfl (hb hby d3_57) rfl k) ?_
  show own_G p.tables e below _ (s₁.setTop (mkF m 58 #[rv a1, rv a2, rv a3, iv (0 : Int32), iv (0 : Int32), iv (0 : Int32), .unset, .unset, .unset] [(.int (0 : Int32)), (.ref a3), (.int (0 : Int32)), (.int (1 : Int32)), (.ref a3)]))
  refine own_step (own_iaload X0 hx hZ e0 fp2 (own_inb (by decide) (Nat.le_of_ble_eq_true rfl)) (g := (mkF m 58 #[rv a1, rv a2, rv a3, iv (0 : Int32), iv (0 : Int32), iv (0 : Int32), .unset, .unset, .unset] [(.int (0 : Int32)), (.ref a3), (.int (0 : Int32)), (.int (1 : Int32)), (.ref a3)])) rfl rfl (hb hby d3_58)) ?_
  refine own_step (fun t k => XS.iadd X0.here hx rfl (hb hby d3_59) rfl k) ?_
  obtain ⟨T3, h3, X3, e3, W3, c3, st3⟩ := own_iastore X0 hx hZ e0 fp2 (own_inb (by decide) (Nat.le_of_ble_eq_true rfl)) (g := (mkF m 60 #[rv a1, rv a2, rv a3, iv (0 : Int32), iv (0 : Int32), iv (0 : Int32), .unset, .unset, .unset] [(.int (0 : Int32)), (.int (1 : Int32)), (.ref a3)])) rfl rfl (hb hby d3_60)
  have N3 := Fr.snoc X3 N0 g_a3
  have c4 : own_Ari Z h3 a3 .int [(0 : Int32), (0 : Int32), (0 : Int32), (0 : Int32)] := c3
  have c5 : own_Ari Z h3 a1 .int [] := fp0.other W3 ne_a1_a3
  have c6 : own_Ari Z h3 a2 .int [kv0, kv1, kv2, kv3] := fp1.other W3 ne_a2_a3
  have c8 : Exa Z h3 a3 "[I" := fp3.wr W3
  have K3 : Keep h0 h3 [a3] := (Keep.refl h0 [a3]).wr W3 (Or.inl (List.mem_of_getElem? (i := 0) rfl))
  refine own_step st3 ?_
  have c9 : own_Ari Z h3 a3 .int (own_pre [(0 : Int32), (0 : Int32), (0 : Int32), (0 : Int32)] 0) := c4
  refine own_step (fun t k => XS.iinc X3.here hx rfl (hb hby d3_61) rfl (l' := #[rv a1, rv a2, rv a3, iv (1 : Int32), iv (0 : Int32), iv (0 : Int32), .unset, .unset, .unset]) rfl k) ?_
  show own_G p.tables e below _ (T3.setTop (mkF m 64 #[rv a1, rv a2, rv a3, iv (1 : Int32), iv (0 : Int32), iv (0 : Int32), .unset, .unset, .unset] []))
  refine own_step (fun t k => XS.goto X3.here hx rfl (pc0 := 64) (pc' := 42) rfl (hb hby d3_64) (by decide) (by decide) k) ?_
  refine own_step (fun t k => XS.iloadN X3.here hx rfl (hb hby d3_42) rfl k) ?_
  refine own_step (fun t k => XS.aloadN X3.here hx rfl (hb hby d3_43) rfl rfl k) ?_
  refine own_step (own_lenI X3 hx hZ e3 c9 (g := (mkF m 44 #[rv a1, rv a2, rv a3, iv (1 : Int32), iv (0 : Int32), iv (0 : Int32), .unset, .unset, .unset] [(.ref a3), (.int (1 : Int32))])) rfl rfl (hb hby d3_44)) ?_
  show own_G p.tables e below _ (T3.setTop (mkF m 45 #[rv a1, rv a2, rv a3, iv (1 : Int32), iv (0 : Int32), iv (0 : Int32), .unset, .unset, .unset] [(.int ((own_pre [(0 : Int32), (0 : Int32), (0 : Int32), (0 : Int32)] 0).length.toInt32)), (.int (1 : Int32))]))
  show own_G p.tables e below _ (T3.setTop (mkF m 45 #[rv a1, rv a2, rv a3, iv (1 : Int32), iv (0 : Int32), iv (0 : Int32), .unset, .unset, .unset] [(.int ((own_pre [(0 : Int32), (0 : Int32), (0 : Int32), (0 : Int32)] 0).length.toInt32)), (.int (1 : Int32))]))
  rw [show ((own_pre [(0 : Int32), (0 : Int32), (0 : Int32), (0 : Int32)] 0).length.toInt32) = (4 : Int32) from by simp only [own_inc_len, own_pre_len]; rfl]
  show own_G p.tables e below _ (T3.setTop (mkF m 45 #[rv a1, rv a2, rv a3, iv (1 : Int32), iv (0 : Int32), iv (0 : Int32), .unset, .unset, .unset] [(.int (4 : Int32)), (.int (1 : Int32))]))
  refine own_step (fun t k => XS.iconst X3.here hx rfl (hb hby d3_45) k) ?_
  refine own_step (fun t k => XS.isub X3.here hx rfl (hb hby d3_46) rfl k) ?_
  have hk10 : (1 : Int32) < (3 : Int32) := (by decide)
  refine own_step (fun t k => XS.icmpNo X3.here hx rfl (hb hby d3_47) rfl ((tlt hk10).2.1) k) ?_
  show own_G p.tables e below _ (T3.setTop (mkF m 50 #[rv a1, rv a2, rv a3, iv (1 : Int32), iv (0 : Int32), iv (0 : Int32), .unset, .unset, .unset] []))
  refine own_step (fun t k => XS.aloadN X3.here hx rfl (hb hby d3_50) rfl rfl k) ?_
  refine own_step (fun t k => XS.iloadN X3.here hx rfl (hb hby d3_51) rfl k) ?_
  refine own_step (fun t k => XS.iconst X3.here hx rfl (hb hby d3_52) k) ?_
  refine own_step (fun t k => XS.iadd X3.here hx rfl (hb hby d3_53) rfl k) ?_
  show own_G p.tables e below _ (T3.setTop (mkF m 54 #[rv a1, rv a2, rv a3, iv (1 : Int32), iv (0 : Int32), iv (0 : Int32), .unset, .unset, .unset] [(.int (2 : Int32)), (.ref a3)]))
  refine own_step (B := T3.setTop (mkF m 55 #[rv a1, rv a2, rv a3, iv (1 : Int32), iv (0 : Int32), iv (0 : Int32), .unset, .unset, .unset] [(.int (2 : Int32)), (.ref a3), (.int (2 : Int32)), (.ref a3)])) (fun t k => by
    jvm_step X3.here [X3.here.top, hx, (hb hby d3_54), Value.category]
    exact k) ?_
  refine own_step (own_iaload X3 hx hZ e3 c9 (own_setL (n := 4) (by first | (simp only [own_inc_len, own_pre_len, own_s0_len, own_s1_len, own_s2_len, own_s3_len, own_s4_len]; done) | (simp only [own_inc_len, own_pre_len, own_s0_len, own_s1_len, own_s2_len, own_s3_len, own_s4_len]; rfl) | rfl) (own_inb (by decide) (by decide))) (g := (mkF m 55 #[rv a1, rv a2, rv a3, iv (1 : Int32), iv (0 : Int32), iv (0 : Int32), .unset, .unset, .unset] [(.int (2 : Int32)), (.ref a3), (.int (2 : Int32)), (.ref a3)])) rfl rfl (hb hby d3_55)) ?_
  refine own_step (fun t k => XS.aloadN X3.here hx rfl (hb hby d3_56) rfl rfl k) ?_
  refine own_step (fun t k => XS.iloadN X3.here hx rfl (hb hby d3_57) rfl k) ?_
  show own_G p.tables e below _ (T3.setTop (mkF m 58 #[rv a1, rv a2, rv a3, iv (1 : Int32), iv (0 : Int32), iv (0 : Int32), .unset, .unset, .unset] [(.int (1 : Int32)), (.ref a3), (.int ((own_pre [(0 : Int32), (0 : Int32), (0 : Int32), (0 : Int32)] 0).getD 2 0)), (.int (2 : Int32)), (.ref a3)]))
  refine own_step (own_iaload X3 hx hZ e3 c9 (own_setL (n := 4) (by first | (simp only [own_inc_len, own_pre_len, own_s0_len, own_s1_len, own_s2_len, own_s3_len, own_s4_len]; done) | (simp only [own_inc_len, own_pre_len, own_s0_len, own_s1_len, own_s2_len, own_s3_len, own_s4_len]; rfl) | rfl) (own_inb (by decide) (by decide))) (g := (mkF m 58 #[rv a1, rv a2, rv a3, iv (1 : Int32), iv (0 : Int32), iv (0 : Int32), .unset, .unset, .unset] [(.int (1 : Int32)), (.ref a3), (.int ((own_pre [(0 : Int32), (0 : Int32), (0 : Int32), (0 : Int32)] 0).getD 2 0)), (.int (2 : Int32)), (.ref a3)])) rfl rfl (hb hby d3_58)) ?_
  refine own_step (fun t k => XS.iadd X3.here hx rfl (hb hby d3_59) rfl k) ?_
  obtain ⟨T11, h11, X11, e11, W11, c11, st11⟩ := own_iastore X3 hx hZ e3 c9 (own_setL (n := 4) (by first | (simp only [own_inc_len, own_pre_len, own_s0_len, own_s1_len, own_s2_len, own_s3_len, own_s4_len]; done) | (simp only [own_inc_len, own_pre_len, own_s0_len, own_s1_len, own_s2_len, own_s3_len, own_s4_len]; rfl) | rfl) (own_inb (by decide) (by decide))) (g := (mkF m 60 #[rv a1, rv a2, rv a3, iv (1 : Int32), iv (0 : Int32), iv (0 : Int32), .unset, .unset, .unset] [(.int (((own_pre [(0 : Int32), (0 : Int32), (0 : Int32), (0 : Int32)] 0).getD 2 0) + ((own_pre [(0 : Int32), (0 : Int32), (0 : Int32), (0 : Int32)] 0).getD 1 0))), (.int (2 : Int32)), (.ref a3)])) rfl rfl (hb hby d3_60)
  have N11 := Fr.snoc X11 N3 g_a3
  have c12 : own_Ari Z h11 a3 .int ((own_pre [(0 : Int32), (0 : Int32), (0 : Int32), (0 : Int32)] 0).set 2 (((own_pre [(0 : Int32), (0 : Int32), (0 : Int32), (0 : Int32)] 0).getD 2 0) + ((own_pre [(0 : Int32), (0 : Int32), (0 : Int32), (0 : Int32)] 0).getD 1 0))) := c11
  have c13 : own_Ari Z h11 a1 .int [] := c5.other W11 ne_a1_a3
  have c14 : own_Ari Z h11 a2 .int [kv0, kv1, kv2, kv3] := c6.other W11 ne_a2_a3
  have c16 : Exa Z h11 a3 "[I" := c8.wr W11
  have K11 : Keep h0 h11 [a3] := K3.wr W11 (Or.inl (List.mem_of_getElem? (i := 0) rfl))
  refine own_step st11 ?_
  have c17 : own_Ari Z h11 a3 .int (own_pre (own_pre [(0 : Int32), (0 : Int32), (0 : Int32), (0 : Int32)] 0) 1) := c12
  refine own_step (fun t k => XS.iinc X11.here hx rfl (hb hby d3_61) rfl (l' := #[rv a1, rv a2, rv a3, iv (2 : Int32), iv (0 : Int32), iv (0 : Int32), .unset, .unset, .unset]) rfl k) ?_
  clear K3 N3 W11 W3 X3 c11 c12 c3 c4 c5 c6 c8 c9 e3 hk1 hk10 hk2 st11 st3
  show own_G p.tables e below _ (T11.setTop (mkF m 64 #[rv a1, rv a2, rv a3, iv (2 : Int32), iv (0 : Int32), iv (0 : Int32), .unset, .unset, .unset] []))
  refine own_step (fun t k => XS.goto X11.here hx rfl (pc0 := 64) (pc' := 42) rfl (hb hby d3_64) (by decide) (by decide) k) ?_
  refine own_step (fun t k => XS.iloadN X11.here hx rfl (hb hby d3_42) rfl k) ?_
  refine own_step (fun t k => XS.aloadN X11.here hx rfl (hb hby d3_43) rfl rfl k) ?_
  refine own_step (own_lenI X11 hx hZ e11 c17 (g := (mkF m 44 #[rv a1, rv a2, rv a3, iv (2 : Int32), iv (0 : Int32), iv (0 : Int32), .unset, .unset, .unset] [(.ref a3), (.int (2 : Int32))])) rfl rfl (hb hby d3_44)) ?_
  show own_G p.tables e below _ (T11.setTop (mkF m 45 #[rv a1, rv a2, rv a3, iv (2 : Int32), iv (0 : Int32), iv (0 : Int32), .unset, .unset, .unset] [(.int ((own_pre (own_pre [(0 : Int32), (0 : Int32), (0 : Int32), (0 : Int32)] 0) 1).length.toInt32)), (.int (2 : Int32))]))
  show own_G p.tables e below _ (T11.setTop (mkF m 45 #[rv a1, rv a2, rv a3, iv (2 : Int32), iv (0 : Int32), iv (0 : Int32), .unset, .unset, .unset] [(.int ((own_pre (own_pre [(0 : Int32), (0 : Int32), (0 : Int32), (0 : Int32)] 0) 1).length.toInt32)), (.int (2 : Int32))]))
  rw [show ((own_pre (own_pre [(0 : Int32), (0 : Int32), (0 : Int32), (0 : Int32)] 0) 1).length.toInt32) = (4 : Int32) from by simp only [own_inc_len, own_pre_len]; rfl]
  show own_G p.tables e below _ (T11.setTop (mkF m 45 #[rv a1, rv a2, rv a3, iv (2 : Int32), iv (0 : Int32), iv (0 : Int32), .unset, .unset, .unset] [(.int (4 : Int32)), (.int (2 : Int32))]))
  refine own_step (fun t k => XS.iconst X11.here hx rfl (hb hby d3_45) k) ?_
  refine own_step (fun t k => XS.isub X11.here hx rfl (hb hby d3_46) rfl k) ?_
  have hk18 : (2 : Int32) < (3 : Int32) := (by decide)
  refine own_step (fun t k => XS.icmpNo X11.here hx rfl (hb hby d3_47) rfl ((tlt hk18).2.1) k) ?_
  show own_G p.tables e below _ (T11.setTop (mkF m 50 #[rv a1, rv a2, rv a3, iv (2 : Int32), iv (0 : Int32), iv (0 : Int32), .unset, .unset, .unset] []))
  refine own_step (fun t k => XS.aloadN X11.here hx rfl (hb hby d3_50) rfl rfl k) ?_
  refine own_step (fun t k => XS.iloadN X11.here hx rfl (hb hby d3_51) rfl k) ?_
  refine own_step (fun t k => XS.iconst X11.here hx rfl (hb hby d3_52) k) ?_
  refine own_step (fun t k => XS.iadd X11.here hx rfl (hb hby d3_53) rfl k) ?_
  show own_G p.tables e below _ (T11.setTop (mkF m 54 #[rv a1, rv a2, rv a3, iv (2 : Int32), iv (0 : Int32), iv (0 : Int32), .unset, .unset, .unset] [(.int (3 : Int32)), (.ref a3)]))
  refine own_step (B := T11.setTop (mkF m 55 #[rv a1, rv a2, rv a3, iv (2 : Int32), iv (0 : Int32), iv (0 : Int32), .unset, .unset, .unset] [(.int (3 : Int32)), (.ref a3), (.int (3 : Int32)), (.ref a3)])) (fun t k => by
    jvm_step X11.here [X11.here.top, hx, (hb hby d3_54), Value.category]
    exact k) ?_
  refine own_step (own_iaload X11 hx hZ e11 c17 (own_setL (n := 4) (by first | (simp only [own_inc_len, own_pre_len, own_s0_len, own_s1_len, own_s2_len, own_s3_len, own_s4_len]; done) | (simp only [own_inc_len, own_pre_len, own_s0_len, own_s1_len, own_s2_len, own_s3_len, own_s4_len]; rfl) | rfl) (own_inb (by decide) (by decide))) (g := (mkF m 55 #[rv a1, rv a2, rv a3, iv (2 : Int32), iv (0 : Int32), iv (0 : Int32), .unset, .unset, .unset] [(.int (3 : Int32)), (.ref a3), (.int (3 : Int32)), (.ref a3)])) rfl rfl (hb hby d3_55)) ?_
  refine own_step (fun t k => XS.aloadN X11.here hx rfl (hb hby d3_56) rfl rfl k) ?_
  refine own_step (fun t k => XS.iloadN X11.here hx rfl (hb hby d3_57) rfl k) ?_
  show own_G p.tables e below _ (T11.setTop (mkF m 58 #[rv a1, rv a2, rv a3, iv (2 : Int32), iv (0 : Int32), iv (0 : Int32), .unset, .unset, .unset] [(.int (2 : Int32)), (.ref a3), (.int ((own_pre (own_pre [(0 : Int32), (0 : Int32), (0 : Int32), (0 : Int32)] 0) 1).getD 3 0)), (.int (3 : Int32)), (.ref a3)]))
  refine own_step (own_iaload X11 hx hZ e11 c17 (own_setL (n := 4) (by first | (simp only [own_inc_len, own_pre_len, own_s0_len, own_s1_len, own_s2_len, own_s3_len, own_s4_len]; done) | (simp only [own_inc_len, own_pre_len, own_s0_len, own_s1_len, own_s2_len, own_s3_len, own_s4_len]; rfl) | rfl) (own_inb (by decide) (by decide))) (g := (mkF m 58 #[rv a1, rv a2, rv a3, iv (2 : Int32), iv (0 : Int32), iv (0 : Int32), .unset, .unset, .unset] [(.int (2 : Int32)), (.ref a3), (.int ((own_pre (own_pre [(0 : Int32), (0 : Int32), (0 : Int32), (0 : Int32)] 0) 1).getD 3 0)), (.int (3 : Int32)), (.ref a3)])) rfl rfl (hb hby d3_58)) ?_
  refine own_step (fun t k => XS.iadd X11.here hx rfl (hb hby d3_59) rfl k) ?_
  obtain ⟨T19, h19, X19, e19, W19, c19, st19⟩ := own_iastore X11 hx hZ e11 c17 (own_setL (n := 4) (by first | (simp only [own_inc_len, own_pre_len, own_s0_len, own_s1_len, own_s2_len, own_s3_len, own_s4_len]; done) | (simp only [own_inc_len, own_pre_len, own_s0_len, own_s1_len, own_s2_len, own_s3_len, own_s4_len]; rfl) | rfl) (own_inb (by decide) (by decide))) (g := (mkF m 60 #[rv a1, rv a2, rv a3, iv (2 : Int32), iv (0 : Int32), iv (0 : Int32), .unset, .unset, .unset] [(.int (((own_pre (own_pre [(0 : Int32), (0 : Int32), (0 : Int32), (0 : Int32)] 0) 1).getD 3 0) + ((own_pre (own_pre [(0 : Int32), (0 : Int32), (0 : Int32), (0 : Int32)] 0) 1).getD 2 0))), (.int (3 : Int32)), (.ref a3)])) rfl rfl (hb hby d3_60)
  have N19 := Fr.snoc X19 N11 g_a3
  have c20 : own_Ari Z h19 a3 .int ((own_pre (own_pre [(0 : Int32), (0 : Int32), (0 : Int32), (0 : Int32)] 0) 1).set 3 (((own_pre (own_pre [(0 : Int32), (0 : Int32), (0 : Int32), (0 : Int32)] 0) 1).getD 3 0) + ((own_pre (own_pre [(0 : Int32), (0 : Int32), (0 : Int32), (0 : Int32)] 0) 1).getD 2 0))) := c19
  have c21 : own_Ari Z h19 a1 .int [] := c13.other W19 ne_a1_a3
  have c22 : own_Ari Z h19 a2 .int [kv0, kv1, kv2, kv3] := c14.other W19 ne_a2_a3
  have c24 : Exa Z h19 a3 "[I" := c16.wr W19
  have K19 : Keep h0 h19 [a3] := K11.wr W19 (Or.inl (List.mem_of_getElem? (i := 0) rfl))
  refine own_step st19 ?_
  have c25 : own_Ari Z h19 a3 .int (own_pre (own_pre (own_pre [(0 : Int32), (0 : Int32), (0 : Int32), (0 : Int32)] 0) 1) 2) := c20
  refine own_step (fun t k => XS.iinc X19.here hx rfl (hb hby d3_61) rfl (l' := #[rv a1, rv a2, rv a3, iv (3 : Int32), iv (0 : Int32), iv (0 : Int32), .unset, .unset, .unset]) rfl k) ?_
  clear K11 N11 W19 X11 c13 c14 c16 c17 c19 c20 e11 hk18 st19
  show own_G p.tables e below _ (T19.setTop (mkF m 64 #[rv a1, rv a2, rv a3, iv (3 : Int32), iv (0 : Int32), iv (0 : Int32), .unset, .unset, .unset] []))
  refine own_step (fun t k => XS.goto X19.here hx rfl (pc0 := 64) (pc' := 42) rfl (hb hby d3_64) (by decide) (by decide) k) ?_
  refine own_step (fun t k => XS.iloadN X19.here hx rfl (hb hby d3_42) rfl k) ?_
  refine own_step (fun t k => XS.aloadN X19.here hx rfl (hb hby d3_43) rfl rfl k) ?_
  refine own_step (own_lenI X19 hx hZ e19 c25 (g := (mkF m 44 #[rv a1, rv a2, rv a3, iv (3 : Int32), iv (0 : Int32), iv (0 : Int32), .unset, .unset, .unset] [(.ref a3), (.int (3 : Int32))])) rfl rfl (hb hby d3_44)) ?_
  show own_G p.tables e below _ (T19.setTop (mkF m 45 #[rv a1, rv a2, rv a3, iv (3 : Int32), iv (0 : Int32), iv (0 : Int32), .unset, .unset, .unset] [(.int ((own_pre (own_pre (own_pre [(0 : Int32), (0 : Int32), (0 : Int32), (0 : Int32)] 0) 1) 2).length.toInt32)), (.int (3 : Int32))]))
  show own_G p.tables e below _ (T19.setTop (mkF m 45 #[rv a1, rv a2, rv a3, iv (3 : Int32), iv (0 : Int32), iv (0 : Int32), .unset, .unset, .unset] [(.int ((own_pre (own_pre (own_pre [(0 : Int32), (0 : Int32), (0 : Int32), (0 : Int32)] 0) 1) 2).length.toInt32)), (.int (3 : Int32))]))
  rw [show ((own_pre (own_pre (own_pre [(0 : Int32), (0 : Int32), (0 : Int32), (0 : Int32)] 0) 1) 2).length.toInt32) = (4 : Int32) from by simp only [own_inc_len, own_pre_len]; rfl]
  show own_G p.tables e below _ (T19.setTop (mkF m 45 #[rv a1, rv a2, rv a3, iv (3 : Int32), iv (0 : Int32), iv (0 : Int32), .unset, .unset, .unset] [(.int (4 : Int32)), (.int (3 : Int32))]))
  refine own_step (fun t k => XS.iconst X19.here hx rfl (hb hby d3_45) k) ?_
  refine own_step (fun t k => XS.isub X19.here hx rfl (hb hby d3_46) rfl k) ?_
  have hk26 : ¬ ((3 : Int32) < (3 : Int32)) := (by decide)
  refine own_step (fun t k => XS.icmpYes X19.here hx rfl (pc0 := 47) (pc' := 67) rfl (hb hby d3_47) rfl ((flt hk26).2.1) (by decide) (by decide) k) ?_
  show own_G p.tables e below _ (T19.setTop (mkF m 67 #[rv a1, rv a2, rv a3, iv (3 : Int32), iv (0 : Int32), iv (0 : Int32), .unset, .unset, .unset] []))
  have c27 : own_Ari Z h19 a3 .int (own_s0) := c25
  refine own_step (fun t k => XS.aloadN X19.here hx rfl (hb hby d3_67) rfl rfl k) ?_
  refine own_step (own_lenI X19 hx hZ e19 c21 (g := (mkF m 68 #[rv a1, rv a2, rv a3, iv (3 : Int32), iv (0 : Int32), iv (0 : Int32), .unset, .unset, .unset] [(.ref a1)])) rfl rfl (hb hby d3_68)) ?_
  obtain ⟨T28, h28, k28, X28, e28, E28, A28, st28⟩ := newP X19 hx hZ (hw _ (List.mem_of_getElem? (i := 0) rfl)) e19 (g := (mkF m 69 #[rv a1, rv a2, rv a3, iv (3 : Int32), iv (0 : Int32), iv (0 : Int32), .unset, .unset, .unset] [(.int (0 : Int32))])) rfl (hb hby d3_69) rfl (by decide) (cap := 0) (by decide) (by decide) (by decide) (by decide)
  obtain ⟨b28, g28⟩ : ∃ z, z = h19.size := ⟨_, rfl⟩
  have ne29 : a1 ≠ b28 := Nat.ne_of_lt (Nat.lt_of_lt_of_le c21.lt (Nat.le_of_eq g28.symm))
  have ne30 : a2 ≠ b28 := Nat.ne_of_lt (Nat.lt_of_lt_of_le c22.lt (Nat.le_of_eq g28.symm))
  have ne31 : a3 ≠ b28 := Nat.ne_of_lt (Nat.lt_of_lt_of_le c27.lt (Nat.le_of_eq g28.symm))
  have sz28 : h0.size ≤ b28 := Nat.le_trans K19.1 (Nat.le_of_eq g28.symm)
  have ge28 : n0 ≤ b28 := Nat.le_trans Z0 sz28
  have c32 : own_Ari Z h28 a1 .int [] := c21.ext E28
  have c33 : own_Ari Z h28 a2 .int [kv0, kv1, kv2, kv3] := c22.ext E28
  have c34 : own_Ari Z h28 a3 .int (own_s0) := c27.ext E28
  have c35 : Exa Z h28 a3 "[I" := c24.ext E28
  have K28 : Keep h0 h28 [a3] := K19.ext E28
  rw [← g28] at A28 st28
  have c36 : own_Ari Z h28 b28 .int [] := own_Ari_new (ty := .int) A28 (by decide) rfl
  refine own_step st28 ?_
  refine own_step (fun t k => XS.astoreN X28.here hx rfl (hb hby d3_71) rfl rfl (l' := #[rv a1, rv a2, rv a3, rv b28, iv (0 : Int32), iv (0 : Int32), .unset, .unset, .unset]) rfl k) ?_
  clear A28 E28 K19 X19 c21 c22 c24 c25 c27 e19 g28 hk26 st28
  show own_G p.tables e below _ (T28.setTop (mkF m 72 #[rv a1, rv a2, rv a3, rv b28, iv (0 : Int32), iv (0 : Int32), .unset, .unset, .unset] []))
  refine own_step (fun t k => XS.aloadN X28.here hx rfl (hb hby d3_72) rfl rfl k) ?_
  obtain ⟨T37, h37, X37, e37, E37, A37, B37, st37⟩ := own_cloneI X28 hx hZ hown (hw _ (List.mem_of_getElem? (i := 12) rfl)) (hw _ (List.mem_of_getElem? (i := 13) rfl)) (hw _ (List.mem_of_getElem? (i := 17) rfl)) (hw _ (List.mem_of_getElem? (i := 15) rfl)) (hw _ (List.mem_of_getElem? (i := 16) rfl)) (hw _ (List.mem_of_getElem? (i := 18) rfl)) e28 c34 c35 (g := (mkF m 73 #[rv a1, rv a2, rv a3, rv b28, iv (0 : Int32), iv (0 : Int32), .unset, .unset, .unset] [(.ref a3)])) rfl (by rw [hml]; rfl) rfl (hb hby d3_73) (by decide) (W := 0) (cap := 4) (by show 2 * 0 + _ ≤ _; exact Nat.le_of_eq rfl) (by decide) (by rw [own_s0_len]; decide) (by decide) (by decide)
  obtain ⟨b37, g37⟩ : ∃ z, z = h28.size := ⟨_, rfl⟩
  have ne38 : a1 ≠ b37 := Nat.ne_of_lt (Nat.lt_of_lt_of_le c32.lt (Nat.le_of_eq g37.symm))
  have ne39 : a2 ≠ b37 := Nat.ne_of_lt (Nat.lt_of_lt_of_le c33.lt (Nat.le_of_eq g37.symm))
  have ne40 : a3 ≠ b37 := Nat.ne_of_lt (Nat.lt_of_lt_of_le c34.lt (Nat.le_of_eq g37.symm))
  have ne41 : b28 ≠ b37 := Nat.ne_of_lt (Nat.lt_of_lt_of_le c36.lt (Nat.le_of_eq g37.symm))
  have sz37 : h0.size ≤ b37 := Nat.le_trans K28.1 (Nat.le_of_eq g37.symm)
  have ge37 : n0 ≤ b37 := Nat.le_trans Z0 sz37
  have c42 : own_Ari Z h37 a1 .int [] := c32.ext E37
  have c43 : own_Ari Z h37 a2 .int [kv0, kv1, kv2, kv3] := c33.ext E37
  have c44 : own_Ari Z h37 a3 .int (own_s0) := c34.ext E37
  have c45 : Exa Z h37 a3 "[I" := c35.ext E37
  have c46 : own_Ari Z h37 b28 .int [] := c36.ext E37
  have K37 : Keep h0 h37 [a3] := K28.ext E37
  rw [← g37] at A37 B37 st37
  refine own_step st37 ?_
  obtain ⟨T47, X47, e47, st47⟩ := castY X37 hx hZ hown (hw _ (List.mem_of_getElem? (i := 19) rfl)) e37 (Ins.self B37) (g := (mkF m 76 #[rv a1, rv a2, rv a3, rv b28, iv (0 : Int32), iv (0 : Int32), .unset, .unset, .unset] [(.ref b37)])) rfl rfl (hb hby d3_76)
  refine own_step st47 ?_
  refine own_step (fun t k => XS.astore X47.here hx rfl (hb hby d3_79) rfl rfl (l' := #[rv a1, rv a2, rv a3, rv b28, rv b37, iv (0 : Int32), .unset, .unset, .unset]) rfl k) ?_
  clear E37 K28 X28 X37 c32 c33 c34 c35 c36 e28 e37 g37 st37 st47
  show own_G p.tables e below _ (T47.setTop (mkF m 81 #[rv a1, rv a2, rv a3, rv b28, rv b37, iv (0 : Int32), .unset, .unset, .unset] []))
  refine own_step (fun t k => XS.aloadN X47.here hx rfl (hb hby d3_81) rfl rfl k) ?_
  refine own_step (fun t k => XS.astore X47.here hx rfl (hb hby d3_82) rfl rfl (l' := #[rv a1, rv a2, rv a3, rv b28, rv b37, rv a1, .unset, .unset, .unset]) rfl k) ?_
  refine own_step (fun t k => XS.aload X47.here hx rfl (hb hby d3_84) rfl rfl k) ?_
  refine own_step (own_lenI X47 hx hZ e47 c42 (g := (mkF m 86 #[rv a1, rv a2, rv a3, rv b28, rv b37, rv a1, .unset, .unset, .unset] [(.ref a1)])) rfl rfl (hb hby d3_86)) ?_
  show own_G p.tables e below _ (T47.setTop (mkF m 87 #[rv a1, rv a2, rv a3, rv b28, rv b37, rv a1, .unset, .unset, .unset] [(.int (0 : Int32))]))
  refine own_step (fun t k => XS.istore X47.here hx rfl (hb hby d3_87) rfl (l' := #[rv a1, rv a2, rv a3, rv b28, rv b37, rv a1, iv (0 : Int32), .unset, .unset]) rfl k) ?_
  refine own_step (fun t k => XS.iconst X47.here hx rfl (hb hby d3_89) k) ?_
  refine own_step (fun t k => XS.istore X47.here hx rfl (hb hby d3_90) rfl (l' := #[rv a1, rv a2, rv a3, rv b28, rv b37, rv a1, iv (0 : Int32), iv (0 : Int32), .unset]) rfl k) ?_
  refine own_step (fun t k => XS.iload X47.here hx rfl (hb hby d3_92) rfl k) ?_
  show own_G p.tables e below _ (T47.setTop (mkF m 94 #[rv a1, rv a2, rv a3, rv b28, rv b37, rv a1, iv (0 : Int32), iv (0 : Int32), .unset] [(.int (0 : Int32))]))
  refine own_step (fun t k => XS.iload X47.here hx rfl (hb hby d3_94) rfl k) ?_
  have hk48 : ¬ ((0 : Int32) < (0 : Int32)) := (by decide)
  refine own_step (fun t k => XS.icmpYes X47.here hx rfl (pc0 := 96) (pc' := 128) rfl (hb hby d3_96) rfl ((flt hk48).2.1) (by decide) (by decide) k) ?_
  show own_G p.tables e below _ (T47.setTop (mkF m 128 #[rv a1, rv a2, rv a3, rv b28, rv b37, rv a1, iv (0 : Int32), iv (0 : Int32), .unset] []))
  refine own_step (fun t k => XS.aloadN X47.here hx rfl (hb hby d3_128) rfl rfl k) ?_
  obtain ⟨fs, hr, hrun, hended, hW, hsame⟩ := X47.leave (v := some (.ref b28)) (fun h => by rw [Bd.returns] at h; cases h)
  refine own_done (own_retA X47 hx Bd.returns (by decide) rfl (hb hby d3_129) hr) hrun hended ⟨_, _, rfl, ?_, ⟨_, rfl⟩, hW, hsame.mono (by decide) (by decide)⟩
  show Q3_n0 Z a1 a2 a3 kv0 kv1 kv2 kv3 h0 n0 _ T47.heap _
  rw [e47]
  exact ⟨b28, rfl, N19, K37, c44, c46, sz28⟩
theorem d4_0 : decode method_4_code 0 = .ok (.iload_n 0, 1) := by decide +kernel
theorem d4_1 : decode method_4_code 1 = .ok (.ifCond .ne 5, 3) := by decide +kernel
theorem d4_4 : decode method_4_code 4 = .ok (.iconst 0, 1) := by decide +kernel
theorem d4_5 : decode method_4_code 5 = .ok (.ireturn, 1) := by decide +kernel
theorem d4_6 : decode method_4_code 6 = .ok (.iload_n 0, 1) := by decide +kernel
theorem d4_7 : decode method_4_code 7 = .ok (.iconst 1, 1) := by decide +kernel
theorem d4_8 : decode method_4_code 8 = .ok (.if_icmp .ne 5, 3) := by decide +kernel
theorem d4_11 : decode method_4_code 11 = .ok (.iload_n 1, 1) := by decide +kernel
theorem d4_12 : decode method_4_code 12 = .ok (.ireturn, 1) := by decide +kernel
theorem d4_13 : decode method_4_code 13 = .ok (.iload_n 0, 1) := by decide +kernel
theorem d4_14 : decode method_4_code 14 = .ok (.iconst 2, 1) := by decide +kernel
theorem d4_15 : decode method_4_code 15 = .ok (.if_icmp .ne 7, 3) := by decide +kernel
theorem d4_18 : decode method_4_code 18 = .ok (.iload_n 1, 1) := by decide +kernel
theorem d4_19 : decode method_4_code 19 = .ok (.iload_n 2, 1) := by decide +kernel
theorem d4_20 : decode method_4_code 20 = .ok (.iadd, 1) := by decide +kernel
theorem d4_21 : decode method_4_code 21 = .ok (.ireturn, 1) := by decide +kernel
theorem d4_22 : decode method_4_code 22 = .ok (.iload_n 3, 1) := by decide +kernel
theorem d4_23 : decode method_4_code 23 = .ok (.ireturn, 1) := by decide +kernel
theorem pn_4 : plainName "com/example/stevedore/stevedore/MoveGraphGroupedPinLaw" = true := by first | (simp [plainName, overriddenIn]; done) | decide +kernel
theorem ef_4 (m : MethodId) (p1 : Int32) (p2 : Int32) (p3 : Int32) (p4 : Int32) : entryFrame m #[(.int p1), (.int p2), (.int p3), (.int p4)] 4 = mkF m 0 #[iv p1, iv p2, iv p3, iv p4] [] := by first | (simp [entryFrame, mkF, argsToLocals, Value.category]; done) | rfl
def own_f4 (p1 : Int32) (p2 : Int32) (p3 : Int32) (p4 : Int32) : Int32 :=
  (if p1 = (0 : Int32) then (0 : Int32) else (if p1 = (1 : Int32) then p2 else (if p1 = (2 : Int32) then (p2 + p3) else p4)))
def Q4 (Z : State) (p1 : Int32) (p2 : Int32) (p3 : Int32) (p4 : Int32) (h0 : Heap) (n0 : Nat) (v : Option Value) (h : Heap) (L : List Loc) : Prop := v = some (.int (own_f4 p1 p2 p3 p4)) ∧ Fr n0 L ∧ h = h0
set_option maxRecDepth 65536 in
set_option maxHeartbeats 40000000 in
theorem rm4 (l : Launch) (Z : State) (a0 : Array Value) (hw : ∀ d ∈ tables_1, d.before a0 Z = true) (ws : List Jvm.Cond) (p1 : Int32) (p2 : Int32) (p3 : Int32) (p4 : Int32) (h0 : Heap) (n0 : Nat) (Z0 : n0 ≤ h0.size) :
    MetFree l (⟨"com/example/stevedore/stevedore/MoveGraphGroupedPinLaw", "se", "(IIII)I"⟩ : MethodName) (head1 (Jvm.Cond.code (⟨"com/example/stevedore/stevedore/MoveGraphGroupedPinLaw", "se", "(IIII)I"⟩ : MethodName) method_4_code 4 (some .int) :: ws) ({ frames := 0, cells := 0, slots := 0, locals := 0 } : Room)) (fun a U => a = #[(.int p1), (.int p2), (.int p3), (.int p4)] ∧ Z.Warmed39 U.vm ∧ U.heap = h0) (fun _ _ _ _ _ => True) (fun _ U o U' => ∃ v L, o = .returned v ∧ Q4 Z p1 p2 p3 p4 h0 n0 v U'.heap L ∧ FrameEnd U o U' L ({ frames := 0, cells := 0, slots := 0, locals := 0 } : Room).cells ({ frames := 0, cells := 0, slots := 0, locals := 0 } : Room).slots) := by
  refine MetFree.of_bodySF (plainFor_of_name pn_4) hisR ?_
  intro p e s m args below meth c s₁ Bd hml0 hP hK
  obtain ⟨rfl, hZ, hh⟩ := hP
  have hx := Bd.exec
  have hby := Bd.bytes
  have hml : c.maxLocals = 4 := hml0
  have hown : s.vm.findClass "com/example/stevedore/stevedore/MoveGraphGroupedPinLaw" = some m.cls := findClass_of_methodNamed Bd.named
  have hnm := (name_of_methodNamed Bd.named Bd.method).1
  have X0 : Stand p l e ({ frames := 0, cells := 0, slots := 0, locals := 0 } : Room) s m #[(.int p1), (.int p2), (.int p3), (.int p4)] below meth c s₁ [] 0 0 := Stand.of_body Bd
  have e0 : s₁.heap = h0 := by rw [← hh, Bd.state]; rfl
  have N0 := Fr.nil n0
  refine own_start (fun t k => castTop (ef_4 m p1 p2 p3 p4) k) ?_
  show own_G p.tables e below _ (s₁.setTop (mkF m 0 #[iv p1, iv p2, iv p3, iv p4] []))
  refine own_step (fun t k => XS.iloadN X0.here hx rfl (hb hby d4_0) rfl k) ?_
  by_cases hc1 : p1 = (0 : Int32)
  · skip
    refine own_step (fun t k => XS.ifNo X0.here hx rfl (hb hby d4_1) rfl ((if0 _ _).trans (teq hc1).2) k) ?_
    show own_G p.tables e below _ (s₁.setTop (mkF m 4 #[iv p1, iv p2, iv p3, iv p4] []))
    refine own_step (fun t k => XS.iconst X0.here hx rfl (hb hby d4_4) k) ?_
    obtain ⟨fs, hr, hrun, hended, hW, hsame⟩ := X0.leave (v := some (.int (0 : Int32))) (fun h => by rw [Bd.returns] at h; cases h)
    refine own_done (retI X0 hx Bd.returns (hb hby d4_5) hr) hrun hended ⟨_, _, rfl, ?_, ⟨_, rfl⟩, hW, hsame.mono (by decide) (by decide)⟩
    show Q4 Z p1 p2 p3 p4 h0 n0 _ s₁.heap _
    rw [e0]
    exact ⟨congrArg (fun z => some (Value.int z)) (show (0 : Int32) = (own_f4 p1 p2 p3 p4) from by unfold own_f4; simp only [if_pos hc1]), N0, rfl⟩
  · skip
    refine own_step (fun t k => XS.ifYes X0.here hx rfl (pc0 := 1) (pc' := 6) rfl (hb hby d4_1) rfl ((if0 _ _).trans (feq hc1).2) (by decide) (by decide) k) ?_
    show own_G p.tables e below _ (s₁.setTop (mkF m 6 #[iv p1, iv p2, iv p3, iv p4] []))
    refine own_step (fun t k => XS.iloadN X0.here hx rfl (hb hby d4_6) rfl k) ?_
    refine own_step (fun t k => XS.iconst X0.here hx rfl (hb hby d4_7) k) ?_
    by_cases hc2 : p1 = (1 : Int32)
    · skip
      refine own_step (fun t k => XS.icmpNo X0.here hx rfl (hb hby d4_8) rfl ((teq hc2).2) k) ?_
      show own_G p.tables e below _ (s₁.setTop (mkF m 11 #[iv p1, iv p2, iv p3, iv p4] []))
      refine own_step (fun t k => XS.iloadN X0.here hx rfl (hb hby d4_11) rfl k) ?_
      obtain ⟨fs, hr, hrun, hended, hW, hsame⟩ := X0.leave (v := some (.int p2)) (fun h => by rw [Bd.returns] at h; cases h)
      refine own_done (retI X0 hx Bd.returns (hb hby d4_12) hr) hrun hended ⟨_, _, rfl, ?_, ⟨_, rfl⟩, hW, hsame.mono (by decide) (by decide)⟩
      show Q4 Z p1 p2 p3 p4 h0 n0 _ s₁.heap _
      rw [e0]
      exact ⟨congrArg (fun z => some (Value.int z)) (show p2 = (own_f4 p1 p2 p3 p4) from by unfold own_f4; simp only [if_neg hc1, if_pos hc2]), N0, rfl⟩
    · skip
      refine own_step (fun t k => XS.icmpYes X0.here hx rfl (pc0 := 8) (pc' := 13) rfl (hb hby d4_8) rfl ((feq hc2).2) (by decide) (by decide) k) ?_
      show own_G p.tables e below _ (s₁.setTop (mkF m 13 #[iv p1, iv p2, iv p3, iv p4] []))
      refine own_step (fun t k => XS.iloadN X0.here hx rfl (hb hby d4_13) rfl k) ?_
      refine own_step (fun t k => XS.iconst X0.here hx rfl (hb hby d4_14) k) ?_
      by_cases hc3 : p1 = (2 : Int32)
      · skip
        refine own_step (fun t k => XS.icmpNo X0.here hx rfl (hb hby d4_15) rfl ((teq hc3).2) k) ?_
        show own_G p.tables e below _ (s₁.setTop (mkF m 18 #[iv p1, iv p2, iv p3, iv p4] []))
        refine own_step (fun t k => XS.iloadN X0.here hx rfl (hb hby d4_18) rfl k) ?_
        refine own_step (fun t k => XS.iloadN X0.here hx rfl (hb hby d4_19) rfl k) ?_
        refine own_step (fun t k => XS.iadd X0.here hx rfl (hb hby d4_20) rfl k) ?_
        obtain ⟨fs, hr, hrun, hended, hW, hsame⟩ := X0.leave (v := some (.int (p2 + p3))) (fun h => by rw [Bd.returns] at h; cases h)
        refine own_done (retI X0 hx Bd.returns (hb hby d4_21) hr) hrun hended ⟨_, _, rfl, ?_, ⟨_, rfl⟩, hW, hsame.mono (by decide) (by decide)⟩
        show Q4 Z p1 p2 p3 p4 h0 n0 _ s₁.heap _
        rw [e0]
        exact ⟨congrArg (fun z => some (Value.int z)) (show (p2 + p3) = (own_f4 p1 p2 p3 p4) from by unfold own_f4; simp only [if_neg hc1, if_neg hc2, if_pos hc3]), N0, rfl⟩
      · skip
        refine own_step (fun t k => XS.icmpYes X0.here hx rfl (pc0 := 15) (pc' := 22) rfl (hb hby d4_15) rfl ((feq hc3).2) (by decide) (by decide) k) ?_
        show own_G p.tables e below _ (s₁.setTop (mkF m 22 #[iv p1, iv p2, iv p3, iv p4] []))
        refine own_step (fun t k => XS.iloadN X0.here hx rfl (hb hby d4_22) rfl k) ?_
        obtain ⟨fs, hr, hrun, hended, hW, hsame⟩ := X0.leave (v := some (.int p4)) (fun h => by rw [Bd.returns] at h; cases h)
        refine own_done (retI X0 hx Bd.returns (hb hby d4_23) hr) hrun hended ⟨_, _, rfl, ?_, ⟨_, rfl⟩, hW, hsame.mono (by decide) (by decide)⟩
        show Q4 Z p1 p2 p3 p4 h0 n0 _ s₁.heap _
        rw [e0]
        exact ⟨congrArg (fun z => some (Value.int z)) (show p4 = (own_f4 p1 p2 p3 p4) from by unfold own_f4; simp only [if_neg hc1, if_neg hc2, if_neg hc3]), N0, rfl⟩
theorem d1_4 : decode method_3_code 4 = .ok (.iload_n 2, 1) := by decide +kernel
theorem d1_5 : decode method_3_code 5 = .ok (.iload_n 0, 1) := by decide +kernel
theorem d1_6 : decode method_3_code 6 = .ok (.if_icmp .ne 7, 3) := by decide +kernel
theorem d1_9 : decode method_3_code 9 = .ok (.iconst 1, 1) := by decide +kernel
theorem d1_10 : decode method_3_code 10 = .ok (.goto 4, 3) := by decide +kernel
theorem pn_1_n1 : plainName "com/example/stevedore/stevedore/MoveGraphGroupedPinLaw" = true := by first | (simp [plainName, overriddenIn]; done) | decide +kernel
theorem pd_1_n1_0 : parseMethodDescriptor "(Z)I" = some ⟨[.boolean], some .int⟩ := by decide +kernel
theorem ef_1_n1 (m : MethodId) (p1 : Int32) (p3 : Int32) (p4 : Int32) (p5 : Int32) (p6 : Int32) : entryFrame m #[(.int p1), (.int (1 : Int32)), (.int p3), (.int p4), (.int p5), (.int p6)] 6 = mkF m 0 #[iv p1, iv (1 : Int32), iv p3, iv p4, iv p5, iv p6] [] := by first | (simp [entryFrame, mkF, argsToLocals, Value.category]; done) | rfl
def Q1_n1 (Z : State) (p1 : Int32) (p3 : Int32) (p4 : Int32) (p5 : Int32) (p6 : Int32) (h0 : Heap) (n0 : Nat) (v : Option Value) (h : Heap) (L : List Loc) : Prop := v = some (.int ((((own_f2 (if p3 = p1 then (1 : Int32) else (0 : Int32))) + (own_f2 (0 : Int32))) + (own_f2 (0 : Int32))) + (own_f2 (0 : Int32)))) ∧ Fr n0 L ∧ h = h0
set_option maxRecDepth 65536 in
set_option maxHeartbeats 40000000 in
theorem rm1_n1 (l : Launch) (Z : State) (a0 : Array Value) (hw : ∀ d ∈ tables_1, d.before a0 Z = true) (ws : List Jvm.Cond) (p1 : Int32) (p3 : Int32) (p4 : Int32) (p5 : Int32) (p6 : Int32) (h0 : Heap) (n0 : Nat) (Z0 : n0 ≤ h0.size) :
    MetFree l (⟨"com/example/stevedore/stevedore/MoveGraphGroupedPinLaw", "cnt", "(IIIIII)I"⟩ : MethodName) (head1 (Jvm.Cond.code (⟨"com/example/stevedore/stevedore/MoveGraphGroupedPinLaw", "cnt", "(IIIIII)I"⟩ : MethodName) method_3_code 6 (some .int) :: ws) ({ frames := 1, cells := 0, slots := 0, locals := 13 } : Room)) (fun a U => a = #[(.int p1), (.int (1 : Int32)), (.int p3), (.int p4), (.int p5), (.int p6)] ∧ Z.Warmed39 U.vm ∧ U.heap = h0) (fun _ _ _ _ _ => True) (fun _ U o U' => ∃ v L, o = .returned v ∧ Q1_n1 Z p1 p3 p4 p5 p6 h0 n0 v U'.heap L ∧ FrameEnd U o U' L ({ frames := 1, cells := 0, slots := 0, locals := 13 } : Room).cells ({ frames := 1, cells := 0, slots := 0, locals := 13 } : Room).slots) := by
  refine MetFree.of_bodySF (plainFor_of_name pn_1_n1) hisR ?_
  intro p e s m args below meth c s₁ Bd hml0 hP hK
  obtain ⟨rfl, hZ, hh⟩ := hP
  have hx := Bd.exec
  have hby := Bd.bytes
  have hml : c.maxLocals = 6 := hml0
  have hown : s.vm.findClass "com/example/stevedore/stevedore/MoveGraphGroupedPinLaw" = some m.cls := findClass_of_methodNamed Bd.named
  have hnm := (name_of_methodNamed Bd.named Bd.method).1
  have X0 : Stand p l e ({ frames := 1, cells := 0, slots := 0, locals := 13 } : Room) s m #[(.int p1), (.int (1 : Int32)), (.int p3), (.int p4), (.int p5), (.int p6)] below meth c s₁ [] 0 0 := Stand.of_body Bd
  have e0 : s₁.heap = h0 := by rw [← hh, Bd.state]; rfl
  have N0 := Fr.nil n0
  refine own_start (fun t k => castTop (ef_1_n1 m p1 p3 p4 p5 p6) k) ?_
  show own_G p.tables e below _ (s₁.setTop (mkF m 0 #[iv p1, iv (1 : Int32), iv p3, iv p4, iv p5, iv p6] []))
  refine own_step (fun t k => XS.iloadN X0.here hx rfl (hb hby d1_0) rfl k) ?_
  have hk1 : (0 : Int32) < (1 : Int32) := (by decide)
  refine own_step (fun t k => XS.ifNo X0.here hx rfl (hb hby d1_1) rfl ((if0 _ _).trans (tlt hk1).2.2.2) k) ?_
  show own_G p.tables e below _ (s₁.setTop (mkF m 4 #[iv p1, iv (1 : Int32), iv p3, iv p4, iv p5, iv p6] []))
  refine own_step (fun t k => XS.iloadN X0.here hx rfl (hb hby d1_4) rfl k) ?_
  refine own_step (fun t k => XS.iloadN X0.here hx rfl (hb hby d1_5) rfl k) ?_
  refine own_imp (B := s₁.setTop (mkF m 14 #[iv p1, iv (1 : Int32), iv p3, iv p4, iv p5, iv p6] [(.int (if p3 = p1 then (1 : Int32) else (0 : Int32)))])) (fun k0 => ?_) ?_
  · by_cases hc2 : p3 = p1
    · simp only [if_pos hc2] at k0
      refine own_step (fun t k => XS.icmpNo X0.here hx rfl (hb hby d1_6) rfl ((teq hc2).2) k) ?_
      show own_G p.tables e below _ (s₁.setTop (mkF m 9 #[iv p1, iv (1 : Int32), iv p3, iv p4, iv p5, iv p6] []))
      refine own_step (fun t k => XS.iconst X0.here hx rfl (hb hby d1_9) k) ?_
      refine own_step (fun t k => XS.goto X0.here hx rfl (pc0 := 10) (pc' := 14) rfl (hb hby d1_10) (by decide) (by decide) k) ?_
      exact k0
    · simp only [if_neg hc2] at k0
      refine own_step (fun t k => XS.icmpYes X0.here hx rfl (pc0 := 6) (pc' := 13) rfl (hb hby d1_6) rfl ((feq hc2).2) (by decide) (by decide) k) ?_
      show own_G p.tables e below _ (s₁.setTop (mkF m 13 #[iv p1, iv (1 : Int32), iv p3, iv p4, iv p5, iv p6] []))
      refine own_step (fun t k => XS.iconst X0.here hx rfl (hb hby d1_13) k) ?_
      exact k0
  show own_G p.tables e below _ (s₁.setTop (mkF m 14 #[iv p1, iv (1 : Int32), iv p3, iv p4, iv p5, iv p6] [(.int (if p3 = p1 then (1 : Int32) else (0 : Int32)))]))
  obtain ⟨_, _, ⟨T3, L3, k3, n3⟩, -, X3, ⟨Lc3, hQ3, l3, y3, z3⟩, st3⟩ := Jvm.LawKit.callS X0 hx (y := (⟨"com/example/stevedore/stevedore/MoveGraphGroupedPinLaw", "one", "(Z)I"⟩ : MethodName)) hown (mvT hZ (hw _ (List.mem_of_getElem? (i := 5) rfl))) (mvT hZ (hw _ (List.mem_of_getElem? (i := 6) rfl))) (mvT hZ (hw _ (List.mem_of_getElem? (i := 3) rfl))) (mvT hZ (hw _ (List.mem_of_getElem? (i := 7) rfl))) (by decide) (backOf (W := 0) (rm2 l Z a0 hw [] (if p3 = p1 then (1 : Int32) else (0 : Int32)) h0 n0 (Nat.le_trans Z0 (Keep.refl h0 []).1) ) hZ (hw _ (List.mem_of_getElem? (i := 7) rfl)) (hw _ (List.mem_of_getElem? (i := 3) rfl)) (by decide) (by decide)) (g := (mkF m 14 #[iv p1, iv (1 : Int32), iv p3, iv p4, iv p5, iv p6] [(.int (if p3 = p1 then (1 : Int32) else (0 : Int32)))])) rfl (by rw [hml]; rfl) (argsL := [(.int (if p3 = p1 then (1 : Int32) else (0 : Int32)))]) (rest := []) (lenOf pd_1_n1_0 rfl) rfl (by show 2 * 0 + _ ≤ _; exact Nat.le_of_eq rfl) (hb hby d1_14) (fun _ _ => ⟨rfl, e0, (by decide : 0 + 0 ≤ _), (by decide : 0 + 0 ≤ _)⟩)
  dsimp only [Pt.U, Pt.locs, Pt.cells, Pt.slots] at X3 l3 y3 z3 st3 hQ3
  subst y3 z3
  obtain ⟨rfl, N3q, e3⟩ := hQ3
  have N3 : Fr n0 L3 := by rw [l3]; exact Fr.app N0 N3q
  refine own_step st3 ?_
  refine own_step (fun t k => XS.iloadN X3.here hx rfl (hb hby d1_17) rfl k) ?_
  refine own_step (fun t k => XS.iconst X3.here hx rfl (hb hby d1_18) k) ?_
  have hk4 : ¬ ((1 : Int32) < (1 : Int32)) := (by decide)
  refine own_step (fun t k => XS.icmpYes X3.here hx rfl (pc0 := 19) (pc' := 31) rfl (hb hby d1_19) rfl ((flt hk4).2.2.2) (by decide) (by decide) k) ?_
  show own_G p.tables e below _ (T3.setTop (mkF m 31 #[iv p1, iv (1 : Int32), iv p3, iv p4, iv p5, iv p6] [(.int (own_f2 (if p3 = p1 then (1 : Int32) else (0 : Int32))))]))
  refine own_step (fun t k => XS.iconst X3.here hx rfl (hb hby d1_31) k) ?_
  obtain ⟨_, _, ⟨T5, L5, k5, n5⟩, -, X5, ⟨Lc5, hQ5, l5, y5, z5⟩, st5⟩ := Jvm.LawKit.callS X3 hx (y := (⟨"com/example/stevedore/stevedore/MoveGraphGroupedPinLaw", "one", "(Z)I"⟩ : MethodName)) hown (mvT hZ (hw _ (List.mem_of_getElem? (i := 5) rfl))) (mvT hZ (hw _ (List.mem_of_getElem? (i := 6) rfl))) (mvT hZ (hw _ (List.mem_of_getElem? (i := 3) rfl))) (mvT hZ (hw _ (List.mem_of_getElem? (i := 7) rfl))) (by decide) (backOf (W := 1) (rm2 l Z a0 hw [] (0 : Int32) h0 n0 (Nat.le_trans Z0 (Keep.refl h0 []).1) ) hZ (hw _ (List.mem_of_getElem? (i := 7) rfl)) (hw _ (List.mem_of_getElem? (i := 3) rfl)) (by decide) (by decide)) (g := (mkF m 32 #[iv p1, iv (1 : Int32), iv p3, iv p4, iv p5, iv p6] [(.int (0 : Int32)), (.int (own_f2 (if p3 = p1 then (1 : Int32) else (0 : Int32))))])) rfl (by rw [hml]; rfl) (argsL := [(.int (0 : Int32))]) (rest := [(.int (own_f2 (if p3 = p1 then (1 : Int32) else (0 : Int32))))]) (lenOf pd_1_n1_0 rfl) rfl (by show 2 * 0 + _ ≤ _; exact Nat.le_of_eq rfl) (hb hby d1_32) (fun _ _ => ⟨rfl, e3, (by decide : 0 + 0 ≤ _), (by decide : 0 + 0 ≤ _)⟩)
  dsimp only [Pt.U, Pt.locs, Pt.cells, Pt.slots] at X5 l5 y5 z5 st5 hQ5
  subst y5 z5
  obtain ⟨rfl, N5q, e5⟩ := hQ5
  have N5 : Fr n0 L5 := by rw [l5]; exact Fr.app N3 N5q
  refine own_step st5 ?_
  refine own_step (fun t k => XS.iadd X5.here hx rfl (hb hby d1_35) rfl k) ?_
  refine own_step (fun t k => XS.iloadN X5.here hx rfl (hb hby d1_36) rfl k) ?_
  show own_G p.tables e below _ (T5.setTop (mkF m 37 #[iv p1, iv (1 : Int32), iv p3, iv p4, iv p5, iv p6] [(.int (1 : Int32)), (.int ((own_f2 (if p3 = p1 then (1 : Int32) else (0 : Int32))) + (own_f2 (0 : Int32))))]))
  refine own_step (fun t k => XS.iconst X5.here hx rfl (hb hby d1_37) k) ?_
  have hk6 : ¬ ((2 : Int32) < (1 : Int32)) := (by decide)
  refine own_step (fun t k => XS.icmpYes X5.here hx rfl (pc0 := 38) (pc' := 51) rfl (hb hby d1_38) rfl ((flt hk6).2.2.2) (by decide) (by decide) k) ?_
  clear N3 N3q N5q X3 e3 hk1 hk4 hk6 st3 st5
  show own_G p.tables e below _ (T5.setTop (mkF m 51 #[iv p1, iv (1 : Int32), iv p3, iv p4, iv p5, iv p6] [(.int ((own_f2 (if p3 = p1 then (1 : Int32) else (0 : Int32))) + (own_f2 (0 : Int32))))]))
  refine own_step (fun t k => XS.iconst X5.here hx rfl (hb hby d1_51) k) ?_
  obtain ⟨_, _, ⟨T7, L7, k7, n7⟩, -, X7, ⟨Lc7, hQ7, l7, y7, z7⟩, st7⟩ := Jvm.LawKit.callS X5 hx (y := (⟨"com/example/stevedore/stevedore/MoveGraphGroupedPinLaw", "one", "(Z)I"⟩ : MethodName)) hown (mvT hZ (hw _ (List.mem_of_getElem? (i := 5) rfl))) (mvT hZ (hw _ (List.mem_of_getElem? (i := 6) rfl))) (mvT hZ (hw _ (List.mem_of_getElem? (i := 3) rfl))) (mvT hZ (hw _ (List.mem_of_getElem? (i := 7) rfl))) (by decide) (backOf (W := 1) (rm2 l Z a0 hw [] (0 : Int32) h0 n0 (Nat.le_trans Z0 (Keep.refl h0 []).1) ) hZ (hw _ (List.mem_of_getElem? (i := 7) rfl)) (hw _ (List.mem_of_getElem? (i := 3) rfl)) (by decide) (by decide)) (g := (mkF m 52 #[iv p1, iv (1 : Int32), iv p3, iv p4, iv p5, iv p6] [(.int (0 : Int32)), (.int ((own_f2 (if p3 = p1 then (1 : Int32) else (0 : Int32))) + (own_f2 (0 : Int32))))])) rfl (by rw [hml]; rfl) (argsL := [(.int (0 : Int32))]) (rest := [(.int ((own_f2 (if p3 = p1 then (1 : Int32) else (0 : Int32))) + (own_f2 (0 : Int32))))]) (lenOf pd_1_n1_0 rfl) rfl (by show 2 * 0 + _ ≤ _; exact Nat.le_of_eq rfl) (hb hby d1_52) (fun _ _ => ⟨rfl, e5, (by decide : 0 + 0 ≤ _), (by decide : 0 + 0 ≤ _)⟩)
  dsimp only [Pt.U, Pt.locs, Pt.cells, Pt.slots] at X7 l7 y7 z7 st7 hQ7
  subst y7 z7
  obtain ⟨rfl, N7q, e7⟩ := hQ7
  have N7 : Fr n0 L7 := by rw [l7]; exact Fr.app N5 N7q
  refine own_step st7 ?_
  refine own_step (fun t k => XS.iadd X7.here hx rfl (hb hby d1_55) rfl k) ?_
  refine own_step (fun t k => XS.iloadN X7.here hx rfl (hb hby d1_56) rfl k) ?_
  show own_G p.tables e below _ (T7.setTop (mkF m 57 #[iv p1, iv (1 : Int32), iv p3, iv p4, iv p5, iv p6] [(.int (1 : Int32)), (.int (((own_f2 (if p3 = p1 then (1 : Int32) else (0 : Int32))) + (own_f2 (0 : Int32))) + (own_f2 (0 : Int32))))]))
  refine own_step (fun t k => XS.iconst X7.here hx rfl (hb hby d1_57) k) ?_
  have hk8 : ¬ ((3 : Int32) < (1 : Int32)) := (by decide)
  refine own_step (fun t k => XS.icmpYes X7.here hx rfl (pc0 := 58) (pc' := 71) rfl (hb hby d1_58) rfl ((flt hk8).2.2.2) (by decide) (by decide) k) ?_
  show own_G p.tables e below _ (T7.setTop (mkF m 71 #[iv p1, iv (1 : Int32), iv p3, iv p4, iv p5, iv p6] [(.int (((own_f2 (if p3 = p1 then (1 : Int32) else (0 : Int32))) + (own_f2 (0 : Int32))) + (own_f2 (0 : Int32))))]))
  refine own_step (fun t k => XS.iconst X7.here hx rfl (hb hby d1_71) k) ?_
  obtain ⟨_, _, ⟨T9, L9, k9, n9⟩, -, X9, ⟨Lc9, hQ9, l9, y9, z9⟩, st9⟩ := Jvm.LawKit.callS X7 hx (y := (⟨"com/example/stevedore/stevedore/MoveGraphGroupedPinLaw", "one", "(Z)I"⟩ : MethodName)) hown (mvT hZ (hw _ (List.mem_of_getElem? (i := 5) rfl))) (mvT hZ (hw _ (List.mem_of_getElem? (i := 6) rfl))) (mvT hZ (hw _ (List.mem_of_getElem? (i := 3) rfl))) (mvT hZ (hw _ (List.mem_of_getElem? (i := 7) rfl))) (by decide) (backOf (W := 1) (rm2 l Z a0 hw [] (0 : Int32) h0 n0 (Nat.le_trans Z0 (Keep.refl h0 []).1) ) hZ (hw _ (List.mem_of_getElem? (i := 7) rfl)) (hw _ (List.mem_of_getElem? (i := 3) rfl)) (by decide) (by decide)) (g := (mkF m 72 #[iv p1, iv (1 : Int32), iv p3, iv p4, iv p5, iv p6] [(.int (0 : Int32)), (.int (((own_f2 (if p3 = p1 then (1 : Int32) else (0 : Int32))) + (own_f2 (0 : Int32))) + (own_f2 (0 : Int32))))])) rfl (by rw [hml]; rfl) (argsL := [(.int (0 : Int32))]) (rest := [(.int (((own_f2 (if p3 = p1 then (1 : Int32) else (0 : Int32))) + (own_f2 (0 : Int32))) + (own_f2 (0 : Int32))))]) (lenOf pd_1_n1_0 rfl) rfl (by show 2 * 0 + _ ≤ _; exact Nat.le_of_eq rfl) (hb hby d1_72) (fun _ _ => ⟨rfl, e7, (by decide : 0 + 0 ≤ _), (by decide : 0 + 0 ≤ _)⟩)
  dsimp only [Pt.U, Pt.locs, Pt.cells, Pt.slots] at X9 l9 y9 z9 st9 hQ9
  subst y9 z9
  obtain ⟨rfl, N9q, e9⟩ := hQ9
  have N9 : Fr n0 L9 := by rw [l9]; exact Fr.app N7 N9q
  refine own_step st9 ?_
  refine own_step (fun t k => XS.iadd X9.here hx rfl (hb hby d1_75) rfl k) ?_
  obtain ⟨fs, hr, hrun, hended, hW, hsame⟩ := X9.leave (v := some (.int ((((own_f2 (if p3 = p1 then (1 : Int32) else (0 : Int32))) + (own_f2 (0 : Int32))) + (own_f2 (0 : Int32))) + (own_f2 (0 : Int32))))) (fun h => by rw [Bd.returns] at h; cases h)
  refine own_done (retI X9 hx Bd.returns (hb hby d1_76) hr) hrun hended ⟨_, _, rfl, ?_, ⟨_, rfl⟩, hW, hsame.mono (by decide) (by decide)⟩
  show Q1_n1 Z p1 p3 p4 p5 p6 h0 n0 _ T9.heap _
  rw [e9]
  exact ⟨congrArg (fun z => some (Value.int z)) (show ((((own_f2 (if p3 = p1 then (1 : Int32) else (0 : Int32))) + (own_f2 (0 : Int32))) + (own_f2 (0 : Int32))) + (own_f2 (0 : Int32))) = ((((own_f2 (if p3 = p1 then (1 : Int32) else (0 : Int32))) + (own_f2 (0 : Int32))) + (own_f2 (0 : Int32))) + (own_f2 (0 : Int32))) from rfl), N9, rfl⟩
theorem d3_16 : decode prog_15_method_17_code 16 = .ok (.aload_n 3, 1) := by decide +kernel
theorem d3_17 : decode prog_15_method_17_code 17 = .ok (.iload 5, 2) := by decide +kernel
theorem d3_19 : decode prog_15_method_17_code 19 = .ok (.iaload, 1) := by decide +kernel
theorem d3_20 : decode prog_15_method_17_code 20 = .ok (.istore 6, 2) := by decide +kernel
theorem d3_22 : decode prog_15_method_17_code 22 = .ok (.aload_n 2, 1) := by decide +kernel
theorem d3_23 : decode prog_15_method_17_code 23 = .ok (.aload_n 1, 1) := by decide +kernel
theorem d3_24 : decode prog_15_method_17_code 24 = .ok (.iload 6, 2) := by decide +kernel
theorem d3_26 : decode prog_15_method_17_code 26 = .ok (.iaload, 1) := by decide +kernel
theorem d3_27 : decode prog_15_method_17_code 27 = .ok (.iconst 1, 1) := by decide +kernel
theorem d3_28 : decode prog_15_method_17_code 28 = .ok (.iadd, 1) := by decide +kernel
theorem d3_29 : decode prog_15_method_17_code 29 = .ok (.dup2, 1) := by decide +kernel
theorem d3_30 : decode prog_15_method_17_code 30 = .ok (.iaload, 1) := by decide +kernel
theorem d3_31 : decode prog_15_method_17_code 31 = .ok (.iconst 1, 1) := by decide +kernel
theorem d3_32 : decode prog_15_method_17_code 32 = .ok (.iadd, 1) := by decide +kernel
theorem d3_33 : decode prog_15_method_17_code 33 = .ok (.iastore, 1) := by decide +kernel
theorem d3_34 : decode prog_15_method_17_code 34 = .ok (.iinc 5 1, 3) := by decide +kernel
theorem d3_37 : decode prog_15_method_17_code 37 = .ok (.goto (-28), 3) := by decide +kernel
theorem d3_99 : decode prog_15_method_17_code 99 = .ok (.aload 5, 2) := by decide +kernel
theorem d3_101 : decode prog_15_method_17_code 101 = .ok (.iload 7, 2) := by decide +kernel
theorem d3_103 : decode prog_15_method_17_code 103 = .ok (.iaload, 1) := by decide +kernel
theorem d3_104 : decode prog_15_method_17_code 104 = .ok (.istore 8, 2) := by decide +kernel
theorem d3_106 : decode prog_15_method_17_code 106 = .ok (.aload_n 3, 1) := by decide +kernel
theorem d3_107 : decode prog_15_method_17_code 107 = .ok (.aload 4, 2) := by decide +kernel
theorem d3_109 : decode prog_15_method_17_code 109 = .ok (.aload_n 1, 1) := by decide +kernel
theorem d3_110 : decode prog_15_method_17_code 110 = .ok (.iload 8, 2) := by decide +kernel
theorem d3_112 : decode prog_15_method_17_code 112 = .ok (.iaload, 1) := by decide +kernel
theorem d3_113 : decode prog_15_method_17_code 113 = .ok (.dup2, 1) := by decide +kernel
theorem d3_114 : decode prog_15_method_17_code 114 = .ok (.iaload, 1) := by decide +kernel
theorem d3_115 : decode prog_15_method_17_code 115 = .ok (.dup_x2, 1) := by decide +kernel
theorem d3_116 : decode prog_15_method_17_code 116 = .ok (.iconst 1, 1) := by decide +kernel
theorem d3_117 : decode prog_15_method_17_code 117 = .ok (.iadd, 1) := by decide +kernel
theorem d3_118 : decode prog_15_method_17_code 118 = .ok (.iastore, 1) := by decide +kernel
theorem d3_119 : decode prog_15_method_17_code 119 = .ok (.iload 8, 2) := by decide +kernel
theorem d3_121 : decode prog_15_method_17_code 121 = .ok (.iastore, 1) := by decide +kernel
theorem d3_122 : decode prog_15_method_17_code 122 = .ok (.iinc 7 1, 3) := by decide +kernel
theorem d3_125 : decode prog_15_method_17_code 125 = .ok (.goto (-33), 3) := by decide +kernel
theorem pn_3_n1 : plainName "com/example/stevedore/stevedore/MoveGraph" = true := by first | (simp [plainName, overriddenIn]; done) | decide +kernel
theorem ef_3_n1 (m : MethodId) (a1 : Addr) (a2 : Addr) (a3 : Addr) : entryFrame m #[(.ref a1), (.ref a2), (.ref a3)] 9 = mkF m 0 #[rv a1, rv a2, rv a3, .unset, .unset, .unset, .unset, .unset, .unset] [] := by first | (simp [entryFrame, mkF, argsToLocals, Value.category]; done) | rfl
def Q3_n1 (Z : State) (a1 : Addr) (a2 : Addr) (a3 : Addr) (x0 : Int32) (kv0 : Int32) (kv1 : Int32) (kv2 : Int32) (kv3 : Int32) (kk0 : Int32) (h0 : Heap) (n0 : Nat) (v : Option Value) (h : Heap) (L : List Loc) : Prop := ∃ (rb : Addr), v = some (.ref rb) ∧ Fr n0 L ∧ Keep h0 h [a3] ∧ own_Ari Z h a3 .int (own_s1 kk0) ∧ own_Ari Z h rb .int ([(0 : Int32)].set ((own_s1 kk0).getD kk0.toNatClampNeg 0).toNatClampNeg x0) ∧ h0.size ≤ rb
set_option maxRecDepth 65536 in
set_option maxHeartbeats 40000000 in
theorem rm3_n1 (l : Launch) (Z : State) (a0 : Array Value) (hw : ∀ d ∈ tables_1, d.before a0 Z = true) (ws : List Jvm.Cond) (a1 : Addr) (a2 : Addr) (a3 : Addr) (x0 : Int32) (kv0 : Int32) (kv1 : Int32) (kv2 : Int32) (kv3 : Int32) (kk0 : Int32) (h0 : Heap) (n0 : Nat) (Z0 : n0 ≤ h0.size) (fp0 : own_Ari Z h0 a1 .int [x0]) (fp1 : own_Ari Z h0 a2 .int [kv0, kv1, kv2, kv3]) (fp2 : own_Ari Z h0 a3 .int [(0 : Int32), (0 : Int32), (0 : Int32), (0 : Int32)]) (fp3 : Exa Z h0 a3 "[I") (hx0 : own_4 x0) (hky0 : ([kv0, kv1, kv2, kv3].getD x0.toNatClampNeg 0) = kk0) (h30 : own_3 kk0) (g_a3 : n0 ≤ a3) (ne_a1_a3 : a1 ≠ a3) (ne_a2_a3 : a2 ≠ a3) :
    MetFree l (⟨"com/example/stevedore/stevedore/MoveGraph", "grouped", "([I[I[I)[I"⟩ : MethodName) (head1 (Jvm.Cond.code (⟨"com/example/stevedore/stevedore/MoveGraph", "grouped", "([I[I[I)[I"⟩ : MethodName) prog_15_method_17_code 9 (some (.array .int)) :: ws) ({ frames := 1, cells := 2, slots := 5, locals := 14 } : Room)) (fun a U => a = #[(.ref a1), (.ref a2), (.ref a3)] ∧ Z.Warmed39 U.vm ∧ U.heap = h0) (fun _ _ _ _ _ => True) (fun _ U o U' => ∃ v L, o = .returned v ∧ Q3_n1 Z a1 a2 a3 x0 kv0 kv1 kv2 kv3 kk0 h0 n0 v U'.heap L ∧ FrameEnd U o U' L ({ frames := 1, cells := 2, slots := 5, locals := 14 } : Room).cells ({ frames := 1, cells := 2, slots := 5, locals := 14 } : Room).slots) := by
  refine MetFree.of_bodySF (plainFor_of_name pn_3_n1) hisR ?_
  intro p e s m args below meth c s₁ Bd hml0 hP hK
  obtain ⟨rfl, hZ, hh⟩ := hP
  have hx := Bd.exec
  have hby := Bd.bytes
  have hml : c.maxLocals = 9 := hml0
  have hown : s.vm.findClass "com/example/stevedore/stevedore/MoveGraph" = some m.cls := findClass_of_methodNamed Bd.named
  have hnm := (name_of_methodNamed Bd.named Bd.method).1
  have X0 : Stand p l e ({ frames := 1, cells := 2, slots := 5, locals := 14 } : Room) s m #[(.ref a1), (.ref a2), (.ref a3)] below meth c s₁ [] 0 0 := Stand.of_body Bd
  have e0 : s₁.heap = h0 := by rw [← hh, Bd.state]; rfl
  have N0 := Fr.nil n0
  refine own_start (fun t k => castTop (ef_3_n1 m a1 a2 a3) k) ?_
  show own_G p.tables e below _ (s₁.setTop (mkF m 0 #[rv a1, rv a2, rv a3, .unset, .unset, .unset, .unset, .unset, .unset] []))
  refine own_step (fun t k => XS.aloadN X0.here hx rfl (hb hby d3_0) rfl rfl k) ?_
  refine own_step (fun t k => XS.astoreN X0.here hx rfl (hb hby d3_1) rfl rfl (l' := #[rv a1, rv a2, rv a3, rv a1, .unset, .unset, .unset, .unset, .unset]) rfl k) ?_
  refine own_step (fun t k => XS.aloadN X0.here hx rfl (hb hby d3_2) rfl rfl k) ?_
  refine own_step (own_lenI X0 hx hZ e0 fp0 (g := (mkF m 3 #[rv a1, rv a2, rv a3, rv a1, .unset, .unset, .unset, .unset, .unset] [(.ref a1)])) rfl rfl (hb hby d3_3)) ?_
  show own_G p.tables e below _ (s₁.setTop (mkF m 4 #[rv a1, rv a2, rv a3, rv a1, .unset, .unset, .unset, .unset, .unset] [(.int (1 : Int32))]))
  refine own_step (fun t k => XS.istore X0.here hx rfl (hb hby d3_4) rfl (l' := #[rv a1, rv a2, rv a3, rv a1, iv (1 : Int32), .unset, .unset, .unset, .unset]) rfl k) ?_
  refine own_step (fun t k => XS.iconst X0.here hx rfl (hb hby d3_6) k) ?_
  refine own_step (fun t k => XS.istore X0.here hx rfl (hb hby d3_7) rfl (l' := #[rv a1, rv a2, rv a3, rv a1, iv (1 : Int32), iv (0 : Int32), .unset, .unset, .unset]) rfl k) ?_
  refine own_step (fun t k => XS.iload X0.here hx rfl (hb hby d3_9) rfl k) ?_
  show own_G p.tables e below _ (s₁.setTop (mkF m 11 #[rv a1, rv a2, rv a3, rv a1, iv (1 : Int32), iv (0 : Int32), .unset, .unset, .unset] [(.int (0 : Int32))]))
  refine own_step (fun t k => XS.iload X0.here hx rfl (hb hby d3_11) rfl k) ?_
  have hk1 : (0 : Int32) < (1 : Int32) := (by decide)
  refine own_step (fun t k => XS.icmpNo X0.here hx rfl (hb hby d3_13) rfl ((tlt hk1).2.1) k) ?_
  show own_G p.tables e below _ (s₁.setTop (mkF m 16 #[rv a1, rv a2, rv a3, rv a1, iv (1 : Int32), iv (0 : Int32), .unset, .unset, .unset] []))
  refine own_step (fun t k => XS.aloadN X0.here hx rfl (hb hby d3_16) rfl rfl k) ?_
  refine own_step (fun t k => XS.iload X0.here hx rfl (hb hby d3_17) rfl k) ?_
  refine own_step (own_iaload X0 hx hZ e0 fp0 (own_inb (by decide) (Nat.le_of_ble_eq_true rfl)) (g := (mkF m 19 #[rv a1, rv a2, rv a3, rv a1, iv (1 : Int32), iv (0 : Int32), .unset, .unset, .unset] [(.int (0 : Int32)), (.ref a1)])) rfl rfl (hb hby d3_19)) ?_
  refine own_step (fun t k => XS.istore X0.here hx rfl (hb hby d3_20) rfl (l' := #[rv a1, rv a2, rv a3, rv a1, iv (1 : Int32), iv (0 : Int32), iv x0, .unset, .unset]) rfl k) ?_
  show own_G p.tables e below _ (s₁.setTop (mkF m 22 #[rv a1, rv a2, rv a3, rv a1, iv (1 : Int32), iv (0 : Int32), iv x0, .unset, .unset] []))
  refine own_step (fun t k => XS.aloadN X0.here hx rfl (hb hby d3_22) rfl rfl k) ?_
  refine own_step (fun t k => XS.aloadN X0.here hx rfl (hb hby d3_23) rfl rfl k) ?_
  refine own_step (fun t k => XS.iload X0.here hx rfl (hb hby d3_24) rfl k) ?_
  refine own_step (own_iaload X0 hx hZ e0 fp1 (own_i4 hx0 rfl) (g := (mkF m 26 #[rv a1, rv a2, rv a3, rv a1, iv (1 : Int32), iv (0 : Int32), iv x0, .unset, .unset] [(.int x0), (.ref a2), (.ref a3)])) rfl rfl (hb hby d3_26)) ?_
  show own_G p.tables e below _ (s₁.setTop (mkF m 27 #[rv a1, rv a2, rv a3, rv a1, iv (1 : Int32), iv (0 : Int32), iv x0, .unset, .unset] [(.int ([kv0, kv1, kv2, kv3].getD x0.toNatClampNeg 0)), (.ref a3)]))
  show own_G p.tables e below _ (s₁.setTop (mkF m 27 #[rv a1, rv a2, rv a3, rv a1, iv (1 : Int32), iv (0 : Int32), iv x0, .unset, .unset] [(.int ([kv0, kv1, kv2, kv3].getD x0.toNatClampNeg 0)), (.ref a3)]))
  rw [hky0]
  show own_G p.tables e below _ (s₁.setTop (mkF m 27 #[rv a1, rv a2, rv a3, rv a1, iv (1 : Int32), iv (0 : Int32), iv x0, .unset, .unset] [(.int kk0), (.ref a3)]))
  refine own_step (fun t k => XS.iconst X0.here hx rfl (hb hby d3_27) k) ?_
  refine own_step (fun t k => XS.iadd X0.here hx rfl (hb hby d3_28) rfl k) ?_
  refine own_step (B := s₁.setTop (mkF m 30 #[rv a1, rv a2, rv a3, rv a1, iv (1 : Int32), iv (0 : Int32), iv x0, .unset, .unset] [(.int (kk0 + (1 : Int32))), (.ref a3), (.int (kk0 + (1 : Int32))), (.ref a3)])) (fun t k => by
    jvm_step X0.here [X0.here.top, hx, (hb hby d3_29), Value.category]
    exact k) ?_
  refine own_step (own_iaload X0 hx hZ e0 fp2 (own_i3' h30 (by first | (simp only [own_inc_len, own_pre_len, own_s0_len, own_s1_len, own_s2_len, own_s3_len, own_s4_len]; done) | (simp only [own_inc_len, own_pre_len, own_s0_len, own_s1_len, own_s2_len, own_s3_len, own_s4_len]; rfl) | rfl)) (g := (mkF m 30 #[rv a1, rv a2, rv a3, rv a1, iv (1 : Int32), iv (0 : Int32), iv x0, .unset, .unset] [(.int (kk0 + (1 : Int32))), (.ref a3), (.int (kk0 + (1 : Int32))), (.ref a3)])) rfl rfl (hb hby d3_30)) ?_
  show own_G p.tables e below _ (s₁.setTop (mkF m 31 #[rv a1, rv a2, rv a3, rv a1, iv (1 : Int32), iv (0 : Int32), iv x0, .unset, .unset] [(.int ([(0 : Int32), (0 : Int32), (0 : Int32), (0 : Int32)].getD (kk0 + (1 : Int32)).toNatClampNeg 0)), (.int (kk0 + (1 : Int32))), (.ref a3)]))
  refine own_step (fun t k => XS.iconst X0.here hx rfl (hb hby d3_31) k) ?_
  refine own_step (fun t k => XS.iadd X0.here hx rfl (hb hby d3_32) rfl k) ?_
  obtain ⟨T2, h2, X2, e2, W2, c2, st2⟩ := own_iastore X0 hx hZ e0 fp2 (own_i3' h30 (by first | (simp only [own_inc_len, own_pre_len, own_s0_len, own_s1_len, own_s2_len, own_s3_len, own_s4_len]; done) | (simp only [own_inc_len, own_pre_len, own_s0_len, own_s1_len, own_s2_len, own_s3_len, own_s4_len]; rfl) | rfl)) (g := (mkF m 33 #[rv a1, rv a2, rv a3, rv a1, iv (1 : Int32), iv (0 : Int32), iv x0, .unset, .unset] [(.int (([(0 : Int32), (0 : Int32), (0 : Int32), (0 : Int32)].getD (kk0 + (1 : Int32)).toNatClampNeg 0) + (1 : Int32))), (.int (kk0 + (1 : Int32))), (.ref a3)])) rfl rfl (hb hby d3_33)
  have N2 := Fr.snoc X2 N0 g_a3
  have c3 : own_Ari Z h2 a3 .int ([(0 : Int32), (0 : Int32), (0 : Int32), (0 : Int32)].set (kk0 + (1 : Int32)).toNatClampNeg (([(0 : Int32), (0 : Int32), (0 : Int32), (0 : Int32)].getD (kk0 + (1 : Int32)).toNatClampNeg 0) + (1 : Int32))) := c2
  have c4 : own_Ari Z h2 a1 .int [x0] := fp0.other W2 ne_a1_a3
  have c5 : own_Ari Z h2 a2 .int [kv0, kv1, kv2, kv3] := fp1.other W2 ne_a2_a3
  have c7 : Exa Z h2 a3 "[I" := fp3.wr W2
  have K2 : Keep h0 h2 [a3] := (Keep.refl h0 [a3]).wr W2 (Or.inl (List.mem_of_getElem? (i := 0) rfl))
  refine own_step st2 ?_
  have c8 : own_Ari Z h2 a3 .int (own_inc [(0 : Int32), (0 : Int32), (0 : Int32), (0 : Int32)] (kk0 + (1 : Int32))) := c3
  refine own_step (fun t k => XS.iinc X2.here hx rfl (hb hby d3_34) rfl (l' := #[rv a1, rv a2, rv a3, rv a1, iv (1 : Int32), iv (1 : Int32), iv x0, .unset, .unset]) rfl k) ?_
  show own_G p.tables e below _ (T2.setTop (mkF m 37 #[rv a1, rv a2, rv a3, rv a1, iv (1 : Int32), iv (1 : Int32), iv x0, .unset, .unset] []))
  refine own_step (fun t k => XS.goto X2.here hx rfl (pc0 := 37) (pc' := 9) rfl (hb hby d3_37) (by decide) (by decide) k) ?_
  refine own_step (fun t k => XS.iload X2.here hx rfl (hb hby d3_9) rfl k) ?_
  refine own_step (fun t k => XS.iload X2.here hx rfl (hb hby d3_11) rfl k) ?_
  have hk9 : ¬ ((1 : Int32) < (1 : Int32)) := (by decide)
  refine own_step (fun t k => XS.icmpYes X2.here hx rfl (pc0 := 13) (pc' := 40) rfl (hb hby d3_13) rfl ((flt hk9).2.1) (by decide) (by decide) k) ?_
  show own_G p.tables e below _ (T2.setTop (mkF m 40 #[rv a1, rv a2, rv a3, rv a1, iv (1 : Int32), iv (1 : Int32), iv x0, .unset, .unset] []))
  refine own_step (fun t k => XS.iconst X2.here hx rfl (hb hby d3_40) k) ?_
  refine own_step (fun t k => XS.istoreN X2.here hx rfl (hb hby d3_41) rfl (l' := #[rv a1, rv a2, rv a3, iv (0 : Int32), iv (1 : Int32), iv (1 : Int32), iv x0, .unset, .unset]) rfl k) ?_
  refine own_step (fun t k => XS.iloadN X2.here hx rfl (hb hby d3_42) rfl k) ?_
  refine own_step (fun t k => XS.aloadN X2.here hx rfl (hb hby d3_43) rfl rfl k) ?_
  show own_G p.tables e below _ (T2.setTop (mkF m 44 #[rv a1, rv a2, rv a3, iv (0 : Int32), iv (1 : Int32), iv (1 : Int32), iv x0, .unset, .unset] [(.ref a3), (.int (0 : Int32))]))
  refine own_step (own_lenI X2 hx hZ e2 c8 (g := (mkF m 44 #[rv a1, rv a2, rv a3, iv (0 : Int32), iv (1 : Int32), iv (1 : Int32), iv x0, .unset, .unset] [(.ref a3), (.int (0 : Int32))])) rfl rfl (hb hby d3_44)) ?_
  show own_G p.tables e below _ (T2.setTop (mkF m 45 #[rv a1, rv a2, rv a3, iv (0 : Int32), iv (1 : Int32), iv (1 : Int32), iv x0, .unset, .unset] [(.int ((own_inc [(0 : Int32), (0 : Int32), (0 : Int32), (0 : Int32)] (kk0 + (1 : Int32))).length.toInt32)), (.int (0 : Int32))]))
  rw [show ((own_inc [(0 : Int32), (0 : Int32), (0 : Int32), (0 : Int32)] (kk0 + (1 : Int32))).length.toInt32) = (4 : Int32) from by simp only [own_inc_len, own_pre_len]; rfl]
  show own_G p.tables e below _ (T2.setTop (mkF m 45 #[rv a1, rv a2, rv a3, iv (0 : Int32), iv (1 : Int32), iv (1 : Int32), iv x0, .unset, .unset] [(.int (4 : Int32)), (.int (0 : Int32))]))
  refine own_step (fun t k => XS.iconst X2.here hx rfl (hb hby d3_45) k) ?_
  refine own_step (fun t k => XS.isub X2.here hx rfl (hb hby d3_46) rfl k) ?_
  have hk10 : (0 : Int32) < (3 : Int32) := (by decide)
  refine own_step (fun t k => XS.icmpNo X2.here hx rfl (hb hby d3_47) rfl ((tlt hk10).2.1) k) ?_
  show own_G p.tables e below _ (T2.setTop (mkF m 50 #[rv a1, rv a2, rv a3, iv (0 : Int32), iv (1 : Int32), iv (1 : Int32), iv x0, .unset, .unset] []))
  refine own_step (fun t k => XS.aloadN X2.here hx rfl (hb hby d3_50) rfl rfl k) ?_
  refine own_step (fun t k => XS.iloadN X2.here hx rfl (hb hby d3_51) rfl k) ?_
  refine own_step (fun t k => XS.iconst X2.here hx rfl (hb hby d3_52) k) ?_
  refine own_step (fun t k => XS.iadd X2.here hx rfl (hb hby d3_53) rfl k) ?_
  show own_G p.tables e below _ (T2.setTop (mkF m 54 #[rv a1, rv a2, rv a3, iv (0 : Int32), iv (1 : Int32), iv (1 : Int32), iv x0, .unset, .unset] [(.int (1 : Int32)), (.ref a3)]))
  refine own_step (B := T2.setTop (mkF m 55 #[rv a1, rv a2, rv a3, iv (0 : Int32), iv (1 : Int32), iv (1 : Int32), iv x0, .unset, .unset] [(.int (1 : Int32)), (.ref a3), (.int (1 : Int32)), (.ref a3)])) (fun t k => by
    jvm_step X2.here [X2.here.top, hx, (hb hby d3_54), Value.category]
    exact k) ?_
  refine own_step (own_iaload X2 hx hZ e2 c8 (own_setL (n := 4) (by first | (simp only [own_inc_len, own_pre_len, own_s0_len, own_s1_len, own_s2_len, own_s3_len, own_s4_len]; done) | (simp only [own_inc_len, own_pre_len, own_s0_len, own_s1_len, own_s2_len, own_s3_len, own_s4_len]; rfl) | rfl) (own_inb (by decide) (by decide))) (g := (mkF m 55 #[rv a1, rv a2, rv a3, iv (0 : Int32), iv (1 : Int32), iv (1 : Int32), iv x0, .unset, .unset] [(.int (1 : Int32)), (.ref a3), (.int (1 : Int32)), (.ref a3)])) rfl rfl (hb hby d3_55)) ?_
  refine own_step (fun t k => XS.aloadN X2.here hx rfl (hb hby d3_56) rfl rfl k) ?_
  refine own_step (fun t k => XS.iloadN X2.here hx rfl (hb hby d3_57) rfl k) ?_
  show own_G p.tables e below _ (T2.setTop (mkF m 58 #[rv a1, rv a2, rv a3, iv (0 : Int32), iv (1 : Int32), iv (1 : Int32), iv x0, .unset, .unset] [(.int (0 : Int32)), (.ref a3), (.int ((own_inc [(0 : Int32), (0 : Int32), (0 : Int32), (0 : Int32)] (kk0 + (1 : Int32))).getD 1 0)), (.int (1 : Int32)), (.ref a3)]))
  refine own_step (own_iaload X2 hx hZ e2 c8 (own_setL (n := 4) (by first | (simp only [own_inc_len, own_pre_len, own_s0_len, own_s1_len, own_s2_len, own_s3_len, own_s4_len]; done) | (simp only [own_inc_len, own_pre_len, own_s0_len, own_s1_len, own_s2_len, own_s3_len, own_s4_len]; rfl) | rfl) (own_inb (by decide) (by decide))) (g := (mkF m 58 #[rv a1, rv a2, rv a3, iv (0 : Int32), iv (1 : Int32), iv (1 : Int32), iv x0, .unset, .unset] [(.int (0 : Int32)), (.ref a3), (.int ((own_inc [(0 : Int32), (0 : Int32), (0 : Int32), (0 : Int32)] (kk0 + (1 : Int32))).getD 1 0)), (.int (1 : Int32)), (.ref a3)])) rfl rfl (hb hby d3_58)) ?_
  refine own_step (fun t k => XS.iadd X2.here hx rfl (hb hby d3_59) rfl k) ?_
  obtain ⟨T11, h11, X11, e11, W11, c11, st11⟩ := own_iastore X2 hx hZ e2 c8 (own_setL (n := 4) (by first | (simp only [own_inc_len, own_pre_len, own_s0_len, own_s1_len, own_s2_len, own_s3_len, own_s4_len]; done) | (simp only [own_inc_len, own_pre_len, own_s0_len, own_s1_len, own_s2_len, own_s3_len, own_s4_len]; rfl) | rfl) (own_inb (by decide) (by decide))) (g := (mkF m 60 #[rv a1, rv a2, rv a3, iv (0 : Int32), iv (1 : Int32), iv (1 : Int32), iv x0, .unset, .unset] [(.int (((own_inc [(0 : Int32), (0 : Int32), (0 : Int32), (0 : Int32)] (kk0 + (1 : Int32))).getD 1 0) + ((own_inc [(0 : Int32), (0 : Int32), (0 : Int32), (0 : Int32)] (kk0 + (1 : Int32))).getD 0 0))), (.int (1 : Int32)), (.ref a3)])) rfl rfl (hb hby d3_60)
  have N11 := Fr.snoc X11 N2 g_a3
  have c12 : own_Ari Z h11 a3 .int ((own_inc [(0 : Int32), (0 : Int32), (0 : Int32), (0 : Int32)] (kk0 + (1 : Int32))).set 1 (((own_inc [(0 : Int32), (0 : Int32), (0 : Int32), (0 : Int32)] (kk0 + (1 : Int32))).getD 1 0) + ((own_inc [(0 : Int32), (0 : Int32), (0 : Int32), (0 : Int32)] (kk0 + (1 : Int32))).getD 0 0))) := c11
  have c13 : own_Ari Z h11 a1 .int [x0] := c4.other W11 ne_a1_a3
  have c14 : own_Ari Z h11 a2 .int [kv0, kv1, kv2, kv3] := c5.other W11 ne_a2_a3
  have c16 : Exa Z h11 a3 "[I" := c7.wr W11
  have K11 : Keep h0 h11 [a3] := K2.wr W11 (Or.inl (List.mem_of_getElem? (i := 0) rfl))
  refine own_step st11 ?_
  have c17 : own_Ari Z h11 a3 .int (own_pre (own_inc [(0 : Int32), (0 : Int32), (0 : Int32), (0 : Int32)] (kk0 + (1 : Int32))) 0) := c12
  refine own_step (fun t k => XS.iinc X11.here hx rfl (hb hby d3_61) rfl (l' := #[rv a1, rv a2, rv a3, iv (1 : Int32), iv (1 : Int32), iv (1 : Int32), iv x0, .unset, .unset]) rfl k) ?_
  clear K2 N2 W11 W2 X2 c11 c12 c2 c3 c4 c5 c7 c8 e2 hk1 hk10 hk9 st11 st2
  show own_G p.tables e below _ (T11.setTop (mkF m 64 #[rv a1, rv a2, rv a3, iv (1 : Int32), iv (1 : Int32), iv (1 : Int32), iv x0, .unset, .unset] []))
  refine own_step (fun t k => XS.goto X11.here hx rfl (pc0 := 64) (pc' := 42) rfl (hb hby d3_64) (by decide) (by decide) k) ?_
  refine own_step (fun t k => XS.iloadN X11.here hx rfl (hb hby d3_42) rfl k) ?_
  refine own_step (fun t k => XS.aloadN X11.here hx rfl (hb hby d3_43) rfl rfl k) ?_
  refine own_step (own_lenI X11 hx hZ e11 c17 (g := (mkF m 44 #[rv a1, rv a2, rv a3, iv (1 : Int32), iv (1 : Int32), iv (1 : Int32), iv x0, .unset, .unset] [(.ref a3), (.int (1 : Int32))])) rfl rfl (hb hby d3_44)) ?_
  show own_G p.tables e below _ (T11.setTop (mkF m 45 #[rv a1, rv a2, rv a3, iv (1 : Int32), iv (1 : Int32), iv (1 : Int32), iv x0, .unset, .unset] [(.int ((own_pre (own_inc [(0 : Int32), (0 : Int32), (0 : Int32), (0 : Int32)] (kk0 + (1 : Int32))) 0).length.toInt32)), (.int (1 : Int32))]))
  show own_G p.tables e below _ (T11.setTop (mkF m 45 #[rv a1, rv a2, rv a3, iv (1 : Int32), iv (1 : Int32), iv (1 : Int32), iv x0, .unset, .unset] [(.int ((own_pre (own_inc [(0 : Int32), (0 : Int32), (0 : Int32), (0 : Int32)] (kk0 + (1 : Int32))) 0).length.toInt32)), (.int (1 : Int32))]))
  rw [show ((own_pre (own_inc [(0 : Int32), (0 : Int32), (0 : Int32), (0 : Int32)] (kk0 + (1 : Int32))) 0).length.toInt32) = (4 : Int32) from by simp only [own_inc_len, own_pre_len]; rfl]
  show own_G p.tables e below _ (T11.setTop (mkF m 45 #[rv a1, rv a2, rv a3, iv (1 : Int32), iv (1 : Int32), iv (1 : Int32), iv x0, .unset, .unset] [(.int (4 : Int32)), (.int (1 : Int32))]))
  refine own_step (fun t k => XS.iconst X11.here hx rfl (hb hby d3_45) k) ?_
  refine own_step (fun t k => XS.isub X11.here hx rfl (hb hby d3_46) rfl k) ?_
  have hk18 : (1 : Int32) < (3 : Int32) := (by decide)
  refine own_step (fun t k => XS.icmpNo X11.here hx rfl (hb hby d3_47) rfl ((tlt hk18).2.1) k) ?_
  show own_G p.tables e below _ (T11.setTop (mkF m 50 #[rv a1, rv a2, rv a3, iv (1 : Int32), iv (1 : Int32), iv (1 : Int32), iv x0, .unset, .unset] []))
  refine own_step (fun t k => XS.aloadN X11.here hx rfl (hb hby d3_50) rfl rfl k) ?_
  refine own_step (fun t k => XS.iloadN X11.here hx rfl (hb hby d3_51) rfl k) ?_
  refine own_step (fun t k => XS.iconst X11.here hx rfl (hb hby d3_52) k) ?_
  refine own_step (fun t k => XS.iadd X11.here hx rfl (hb hby d3_53) rfl k) ?_
  show own_G p.tables e below _ (T11.setTop (mkF m 54 #[rv a1, rv a2, rv a3, iv (1 : Int32), iv (1 : Int32), iv (1 : Int32), iv x0, .unset, .unset] [(.int (2 : Int32)), (.ref a3)]))
  refine own_step (B := T11.setTop (mkF m 55 #[rv a1, rv a2, rv a3, iv (1 : Int32), iv (1 : Int32), iv (1 : Int32), iv x0, .unset, .unset] [(.int (2 : Int32)), (.ref a3), (.int (2 : Int32)), (.ref a3)])) (fun t k => by
    jvm_step X11.here [X11.here.top, hx, (hb hby d3_54), Value.category]
    exact k) ?_
  refine own_step (own_iaload X11 hx hZ e11 c17 (own_setL (n := 4) (by first | (simp only [own_inc_len, own_pre_len, own_s0_len, own_s1_len, own_s2_len, own_s3_len, own_s4_len]; done) | (simp only [own_inc_len, own_pre_len, own_s0_len, own_s1_len, own_s2_len, own_s3_len, own_s4_len]; rfl) | rfl) (own_inb (by decide) (by decide))) (g := (mkF m 55 #[rv a1, rv a2, rv a3, iv (1 : Int32), iv (1 : Int32), iv (1 : Int32), iv x0, .unset, .unset] [(.int (2 : Int32)), (.ref a3), (.int (2 : Int32)), (.ref a3)])) rfl rfl (hb hby d3_55)) ?_
  refine own_step (fun t k => XS.aloadN X11.here hx rfl (hb hby d3_56) rfl rfl k) ?_
  refine own_step (fun t k => XS.iloadN X11.here hx rfl (hb hby d3_57) rfl k) ?_
  show own_G p.tables e below _ (T11.setTop (mkF m 58 #[rv a1, rv a2, rv a3, iv (1 : Int32), iv (1 : Int32), iv (1 : Int32), iv x0, .unset, .unset] [(.int (1 : Int32)), (.ref a3), (.int ((own_pre (own_inc [(0 : Int32), (0 : Int32), (0 : Int32), (0 : Int32)] (kk0 + (1 : Int32))) 0).getD 2 0)), (.int (2 : Int32)), (.ref a3)]))
  refine own_step (own_iaload X11 hx hZ e11 c17 (own_setL (n := 4) (by first | (simp only [own_inc_len, own_pre_len, own_s0_len, own_s1_len, own_s2_len, own_s3_len, own_s4_len]; done) | (simp only [own_inc_len, own_pre_len, own_s0_len, own_s1_len, own_s2_len, own_s3_len, own_s4_len]; rfl) | rfl) (own_inb (by decide) (by decide))) (g := (mkF m 58 #[rv a1, rv a2, rv a3, iv (1 : Int32), iv (1 : Int32), iv (1 : Int32), iv x0, .unset, .unset] [(.int (1 : Int32)), (.ref a3), (.int ((own_pre (own_inc [(0 : Int32), (0 : Int32), (0 : Int32), (0 : Int32)] (kk0 + (1 : Int32))) 0).getD 2 0)), (.int (2 : Int32)), (.ref a3)])) rfl rfl (hb hby d3_58)) ?_
  refine own_step (fun t k => XS.iadd X11.here hx rfl (hb hby d3_59) rfl k) ?_
  obtain ⟨T19, h19, X19, e19, W19, c19, st19⟩ := own_iastore X11 hx hZ e11 c17 (own_setL (n := 4) (by first | (simp only [own_inc_len, own_pre_len, own_s0_len, own_s1_len, own_s2_len, own_s3_len, own_s4_len]; done) | (simp only [own_inc_len, own_pre_len, own_s0_len, own_s1_len, own_s2_len, own_s3_len, own_s4_len]; rfl) | rfl) (own_inb (by decide) (by decide))) (g := (mkF m 60 #[rv a1, rv a2, rv a3, iv (1 : Int32), iv (1 : Int32), iv (1 : Int32), iv x0, .unset, .unset] [(.int (((own_pre (own_inc [(0 : Int32), (0 : Int32), (0 : Int32), (0 : Int32)] (kk0 + (1 : Int32))) 0).getD 2 0) + ((own_pre (own_inc [(0 : Int32), (0 : Int32), (0 : Int32), (0 : Int32)] (kk0 + (1 : Int32))) 0).getD 1 0))), (.int (2 : Int32)), (.ref a3)])) rfl rfl (hb hby d3_60)
  have N19 := Fr.snoc X19 N11 g_a3
  have c20 : own_Ari Z h19 a3 .int ((own_pre (own_inc [(0 : Int32), (0 : Int32), (0 : Int32), (0 : Int32)] (kk0 + (1 : Int32))) 0).set 2 (((own_pre (own_inc [(0 : Int32), (0 : Int32), (0 : Int32), (0 : Int32)] (kk0 + (1 : Int32))) 0).getD 2 0) + ((own_pre (own_inc [(0 : Int32), (0 : Int32), (0 : Int32), (0 : Int32)] (kk0 + (1 : Int32))) 0).getD 1 0))) := c19
  have c21 : own_Ari Z h19 a1 .int [x0] := c13.other W19 ne_a1_a3
  have c22 : own_Ari Z h19 a2 .int [kv0, kv1, kv2, kv3] := c14.other W19 ne_a2_a3
  have c24 : Exa Z h19 a3 "[I" := c16.wr W19
  have K19 : Keep h0 h19 [a3] := K11.wr W19 (Or.inl (List.mem_of_getElem? (i := 0) rfl))
  refine own_step st19 ?_
  have c25 : own_Ari Z h19 a3 .int (own_pre (own_pre (own_inc [(0 : Int32), (0 : Int32), (0 : Int32), (0 : Int32)] (kk0 + (1 : Int32))) 0) 1) := c20
  refine own_step (fun t k => XS.iinc X19.here hx rfl (hb hby d3_61) rfl (l' := #[rv a1, rv a2, rv a3, iv (2 : Int32), iv (1 : Int32), iv (1 : Int32), iv x0, .unset, .unset]) rfl k) ?_
  clear K11 N11 W19 X11 c13 c14 c16 c17 c19 c20 e11 hk18 st19
  show own_G p.tables e below _ (T19.setTop (mkF m 64 #[rv a1, rv a2, rv a3, iv (2 : Int32), iv (1 : Int32), iv (1 : Int32), iv x0, .unset, .unset] []))
  refine own_step (fun t k => XS.goto X19.here hx rfl (pc0 := 64) (pc' := 42) rfl (hb hby d3_64) (by decide) (by decide) k) ?_
  refine own_step (fun t k => XS.iloadN X19.here hx rfl (hb hby d3_42) rfl k) ?_
  refine own_step (fun t k => XS.aloadN X19.here hx rfl (hb hby d3_43) rfl rfl k) ?_
  refine own_step (own_lenI X19 hx hZ e19 c25 (g := (mkF m 44 #[rv a1, rv a2, rv a3, iv (2 : Int32), iv (1 : Int32), iv (1 : Int32), iv x0, .unset, .unset] [(.ref a3), (.int (2 : Int32))])) rfl rfl (hb hby d3_44)) ?_
  show own_G p.tables e below _ (T19.setTop (mkF m 45 #[rv a1, rv a2, rv a3, iv (2 : Int32), iv (1 : Int32), iv (1 : Int32), iv x0, .unset, .unset] [(.int ((own_pre (own_pre (own_inc [(0 : Int32), (0 : Int32), (0 : Int32), (0 : Int32)] (kk0 + (1 : Int32))) 0) 1).length.toInt32)), (.int (2 : Int32))]))
  show own_G p.tables e below _ (T19.setTop (mkF m 45 #[rv a1, rv a2, rv a3, iv (2 : Int32), iv (1 : Int32), iv (1 : Int32), iv x0, .unset, .unset] [(.int ((own_pre (own_pre (own_inc [(0 : Int32), (0 : Int32), (0 : Int32), (0 : Int32)] (kk0 + (1 : Int32))) 0) 1).length.toInt32)), (.int (2 : Int32))]))
  rw [show ((own_pre (own_pre (own_inc [(0 : Int32), (0 : Int32), (0 : Int32), (0 : Int32)] (kk0 + (1 : Int32))) 0) 1).length.toInt32) = (4 : Int32) from by simp only [own_inc_len, own_pre_len]; rfl]
  show own_G p.tables e below _ (T19.setTop (mkF m 45 #[rv a1, rv a2, rv a3, iv (2 : Int32), iv (1 : Int32), iv (1 : Int32), iv x0, .unset, .unset] [(.int (4 : Int32)), (.int (2 : Int32))]))
  refine own_step (fun t k => XS.iconst X19.here hx rfl (hb hby d3_45) k) ?_
  refine own_step (fun t k => XS.isub X19.here hx rfl (hb hby d3_46) rfl k) ?_
  have hk26 : (2 : Int32) < (3 : Int32) := (by decide)
  refine own_step (fun t k => XS.icmpNo X19.here hx rfl (hb hby d3_47) rfl ((tlt hk26).2.1) k) ?_
  show own_G p.tables e below _ (T19.setTop (mkF m 50 #[rv a1, rv a2, rv a3, iv (2 : Int32), iv (1 : Int32), iv (1 : Int32), iv x0, .unset, .unset] []))
  refine own_step (fun t k => XS.aloadN X19.here hx rfl (hb hby d3_50) rfl rfl k) ?_
  refine own_step (fun t k => XS.iloadN X19.here hx rfl (hb hby d3_51) rfl k) ?_
  refine own_step (fun t k => XS.iconst X19.here hx rfl (hb hby d3_52) k) ?_
  refine own_step (fun t k => XS.iadd X19.here hx rfl (hb hby d3_53) rfl k) ?_
  show own_G p.tables e below _ (T19.setTop (mkF m 54 #[rv a1, rv a2, rv a3, iv (2 : Int32), iv (1 : Int32), iv (1 : Int32), iv x0, .unset, .unset] [(.int (3 : Int32)), (.ref a3)]))
  refine own_step (B := T19.setTop (mkF m 55 #[rv a1, rv a2, rv a3, iv (2 : Int32), iv (1 : Int32), iv (1 : Int32), iv x0, .unset, .unset] [(.int (3 : Int32)), (.ref a3), (.int (3 : Int32)), (.ref a3)])) (fun t k => by
    jvm_step X19.here [X19.here.top, hx, (hb hby d3_54), Value.category]
    exact k) ?_
  refine own_step (own_iaload X19 hx hZ e19 c25 (own_setL (n := 4) (by first | (simp only [own_inc_len, own_pre_len, own_s0_len, own_s1_len, own_s2_len, own_s3_len, own_s4_len]; done) | (simp only [own_inc_len, own_pre_len, own_s0_len, own_s1_len, own_s2_len, own_s3_len, own_s4_len]; rfl) | rfl) (own_inb (by decide) (by decide))) (g := (mkF m 55 #[rv a1, rv a2, rv a3, iv (2 : Int32), iv (1 : Int32), iv (1 : Int32), iv x0, .unset, .unset] [(.int (3 : Int32)), (.ref a3), (.int (3 : Int32)), (.ref a3)])) rfl rfl (hb hby d3_55)) ?_
  refine own_step (fun t k => XS.aloadN X19.here hx rfl (hb hby d3_56) rfl rfl k) ?_
  refine own_step (fun t k => XS.iloadN X19.here hx rfl (hb hby d3_57) rfl k) ?_
  show own_G p.tables e below _ (T19.setTop (mkF m 58 #[rv a1, rv a2, rv a3, iv (2 : Int32), iv (1 : Int32), iv (1 : Int32), iv x0, .unset, .unset] [(.int (2 : Int32)), (.ref a3), (.int ((own_pre (own_pre (own_inc [(0 : Int32), (0 : Int32), (0 : Int32), (0 : Int32)] (kk0 + (1 : Int32))) 0) 1).getD 3 0)), (.int (3 : Int32)), (.ref a3)]))
  refine own_step (own_iaload X19 hx hZ e19 c25 (own_setL (n := 4) (by first | (simp only [own_inc_len, own_pre_len, own_s0_len, own_s1_len, own_s2_len, own_s3_len, own_s4_len]; done) | (simp only [own_inc_len, own_pre_len, own_s0_len, own_s1_len, own_s2_len, own_s3_len, own_s4_len]; rfl) | rfl) (own_inb (by decide) (by decide))) (g := (mkF m 58 #[rv a1, rv a2, rv a3, iv (2 : Int32), iv (1 : Int32), iv (1 : Int32), iv x0, .unset, .unset] [(.int (2 : Int32)), (.ref a3), (.int ((own_pre (own_pre (own_inc [(0 : Int32), (0 : Int32), (0 : Int32), (0 : Int32)] (kk0 + (1 : Int32))) 0) 1).getD 3 0)), (.int (3 : Int32)), (.ref a3)])) rfl rfl (hb hby d3_58)) ?_
  refine own_step (fun t k => XS.iadd X19.here hx rfl (hb hby d3_59) rfl k) ?_
  obtain ⟨T27, h27, X27, e27, W27, c27, st27⟩ := own_iastore X19 hx hZ e19 c25 (own_setL (n := 4) (by first | (simp only [own_inc_len, own_pre_len, own_s0_len, own_s1_len, own_s2_len, own_s3_len, own_s4_len]; done) | (simp only [own_inc_len, own_pre_len, own_s0_len, own_s1_len, own_s2_len, own_s3_len, own_s4_len]; rfl) | rfl) (own_inb (by decide) (by decide))) (g := (mkF m 60 #[rv a1, rv a2, rv a3, iv (2 : Int32), iv (1 : Int32), iv (1 : Int32), iv x0, .unset, .unset] [(.int (((own_pre (own_pre (own_inc [(0 : Int32), (0 : Int32), (0 : Int32), (0 : Int32)] (kk0 + (1 : Int32))) 0) 1).getD 3 0) + ((own_pre (own_pre (own_inc [(0 : Int32), (0 : Int32), (0 : Int32), (0 : Int32)] (kk0 + (1 : Int32))) 0) 1).getD 2 0))), (.int (3 : Int32)), (.ref a3)])) rfl rfl (hb hby d3_60)
  have N27 := Fr.snoc X27 N19 g_a3
  have c28 : own_Ari Z h27 a3 .int ((own_pre (own_pre (own_inc [(0 : Int32), (0 : Int32), (0 : Int32), (0 : Int32)] (kk0 + (1 : Int32))) 0) 1).set 3 (((own_pre (own_pre (own_inc [(0 : Int32), (0 : Int32), (0 : Int32), (0 : Int32)] (kk0 + (1 : Int32))) 0) 1).getD 3 0) + ((own_pre (own_pre (own_inc [(0 : Int32), (0 : Int32), (0 : Int32), (0 : Int32)] (kk0 + (1 : Int32))) 0) 1).getD 2 0))) := c27
  have c29 : own_Ari Z h27 a1 .int [x0] := c21.other W27 ne_a1_a3
  have c30 : own_Ari Z h27 a2 .int [kv0, kv1, kv2, kv3] := c22.other W27 ne_a2_a3
  have c32 : Exa Z h27 a3 "[I" := c24.wr W27
  have K27 : Keep h0 h27 [a3] := K19.wr W27 (Or.inl (List.mem_of_getElem? (i := 0) rfl))
  refine own_step st27 ?_
  have c33 : own_Ari Z h27 a3 .int (own_pre (own_pre (own_pre (own_inc [(0 : Int32), (0 : Int32), (0 : Int32), (0 : Int32)] (kk0 + (1 : Int32))) 0) 1) 2) := c28
  refine own_step (fun t k => XS.iinc X27.here hx rfl (hb hby d3_61) rfl (l' := #[rv a1, rv a2, rv a3, iv (3 : Int32), iv (1 : Int32), iv (1 : Int32), iv x0, .unset, .unset]) rfl k) ?_
  clear K19 N19 W27 X19 c21 c22 c24 c25 c27 c28 e19 hk26 st27
  show own_G p.tables e below _ (T27.setTop (mkF m 64 #[rv a1, rv a2, rv a3, iv (3 : Int32), iv (1 : Int32), iv (1 : Int32), iv x0, .unset, .unset] []))
  refine own_step (fun t k => XS.goto X27.here hx rfl (pc0 := 64) (pc' := 42) rfl (hb hby d3_64) (by decide) (by decide) k) ?_
  refine own_step (fun t k => XS.iloadN X27.here hx rfl (hb hby d3_42) rfl k) ?_
  refine own_step (fun t k => XS.aloadN X27.here hx rfl (hb hby d3_43) rfl rfl k) ?_
  refine own_step (own_lenI X27 hx hZ e27 c33 (g := (mkF m 44 #[rv a1, rv a2, rv a3, iv (3 : Int32), iv (1 : Int32), iv (1 : Int32), iv x0, .unset, .unset] [(.ref a3), (.int (3 : Int32))])) rfl rfl (hb hby d3_44)) ?_
  show own_G p.tables e below _ (T27.setTop (mkF m 45 #[rv a1, rv a2, rv a3, iv (3 : Int32), iv (1 : Int32), iv (1 : Int32), iv x0, .unset, .unset] [(.int ((own_pre (own_pre (own_pre (own_inc [(0 : Int32), (0 : Int32), (0 : Int32), (0 : Int32)] (kk0 + (1 : Int32))) 0) 1) 2).length.toInt32)), (.int (3 : Int32))]))
  show own_G p.tables e below _ (T27.setTop (mkF m 45 #[rv a1, rv a2, rv a3, iv (3 : Int32), iv (1 : Int32), iv (1 : Int32), iv x0, .unset, .unset] [(.int ((own_pre (own_pre (own_pre (own_inc [(0 : Int32), (0 : Int32), (0 : Int32), (0 : Int32)] (kk0 + (1 : Int32))) 0) 1) 2).length.toInt32)), (.int (3 : Int32))]))
  rw [show ((own_pre (own_pre (own_pre (own_inc [(0 : Int32), (0 : Int32), (0 : Int32), (0 : Int32)] (kk0 + (1 : Int32))) 0) 1) 2).length.toInt32) = (4 : Int32) from by simp only [own_inc_len, own_pre_len]; rfl]
  show own_G p.tables e below _ (T27.setTop (mkF m 45 #[rv a1, rv a2, rv a3, iv (3 : Int32), iv (1 : Int32), iv (1 : Int32), iv x0, .unset, .unset] [(.int (4 : Int32)), (.int (3 : Int32))]))
  refine own_step (fun t k => XS.iconst X27.here hx rfl (hb hby d3_45) k) ?_
  refine own_step (fun t k => XS.isub X27.here hx rfl (hb hby d3_46) rfl k) ?_
  have hk34 : ¬ ((3 : Int32) < (3 : Int32)) := (by decide)
  refine own_step (fun t k => XS.icmpYes X27.here hx rfl (pc0 := 47) (pc' := 67) rfl (hb hby d3_47) rfl ((flt hk34).2.1) (by decide) (by decide) k) ?_
  show own_G p.tables e below _ (T27.setTop (mkF m 67 #[rv a1, rv a2, rv a3, iv (3 : Int32), iv (1 : Int32), iv (1 : Int32), iv x0, .unset, .unset] []))
  have c35 : own_Ari Z h27 a3 .int (own_s1 kk0) := c33
  refine own_step (fun t k => XS.aloadN X27.here hx rfl (hb hby d3_67) rfl rfl k) ?_
  refine own_step (own_lenI X27 hx hZ e27 c29 (g := (mkF m 68 #[rv a1, rv a2, rv a3, iv (3 : Int32), iv (1 : Int32), iv (1 : Int32), iv x0, .unset, .unset] [(.ref a1)])) rfl rfl (hb hby d3_68)) ?_
  obtain ⟨T36, h36, k36, X36, e36, E36, A36, st36⟩ := newP X27 hx hZ (hw _ (List.mem_of_getElem? (i := 0) rfl)) e27 (g := (mkF m 69 #[rv a1, rv a2, rv a3, iv (3 : Int32), iv (1 : Int32), iv (1 : Int32), iv x0, .unset, .unset] [(.int (1 : Int32))])) rfl (hb hby d3_69) rfl (by decide) (cap := 1) (by decide) (by decide) (by decide) (by decide)
  obtain ⟨b36, g36⟩ : ∃ z, z = h27.size := ⟨_, rfl⟩
  have ne37 : a1 ≠ b36 := Nat.ne_of_lt (Nat.lt_of_lt_of_le c29.lt (Nat.le_of_eq g36.symm))
  have ne38 : a2 ≠ b36 := Nat.ne_of_lt (Nat.lt_of_lt_of_le c30.lt (Nat.le_of_eq g36.symm))
  have ne39 : a3 ≠ b36 := Nat.ne_of_lt (Nat.lt_of_lt_of_le c35.lt (Nat.le_of_eq g36.symm))
  have sz36 : h0.size ≤ b36 := Nat.le_trans K27.1 (Nat.le_of_eq g36.symm)
  have ge36 : n0 ≤ b36 := Nat.le_trans Z0 sz36
  have c40 : own_Ari Z h36 a1 .int [x0] := c29.ext E36
  have c41 : own_Ari Z h36 a2 .int [kv0, kv1, kv2, kv3] := c30.ext E36
  have c42 : own_Ari Z h36 a3 .int (own_s1 kk0) := c35.ext E36
  have c43 : Exa Z h36 a3 "[I" := c32.ext E36
  have K36 : Keep h0 h36 [a3] := K27.ext E36
  rw [← g36] at A36 st36
  have c44 : own_Ari Z h36 b36 .int [(0 : Int32)] := own_Ari_new (ty := .int) A36 (by decide) rfl
  refine own_step st36 ?_
  refine own_step (fun t k => XS.astoreN X36.here hx rfl (hb hby d3_71) rfl rfl (l' := #[rv a1, rv a2, rv a3, rv b36, iv (1 : Int32), iv (1 : Int32), iv x0, .unset, .unset]) rfl k) ?_
  clear A36 E36 K27 X27 c29 c30 c32 c33 c35 e27 g36 hk34 st36
  show own_G p.tables e below _ (T36.setTop (mkF m 72 #[rv a1, rv a2, rv a3, rv b36, iv (1 : Int32), iv (1 : Int32), iv x0, .unset, .unset] []))
  refine own_step (fun t k => XS.aloadN X36.here hx rfl (hb hby d3_72) rfl rfl k) ?_
  obtain ⟨T45, h45, X45, e45, E45, A45, B45, st45⟩ := own_cloneI X36 hx hZ hown (hw _ (List.mem_of_getElem? (i := 12) rfl)) (hw _ (List.mem_of_getElem? (i := 13) rfl)) (hw _ (List.mem_of_getElem? (i := 17) rfl)) (hw _ (List.mem_of_getElem? (i := 15) rfl)) (hw _ (List.mem_of_getElem? (i := 16) rfl)) (hw _ (List.mem_of_getElem? (i := 18) rfl)) e36 c42 c43 (g := (mkF m 73 #[rv a1, rv a2, rv a3, rv b36, iv (1 : Int32), iv (1 : Int32), iv x0, .unset, .unset] [(.ref a3)])) rfl (by rw [hml]; rfl) rfl (hb hby d3_73) (by decide) (W := 0) (cap := 4) (by show 2 * 0 + _ ≤ _; exact Nat.le_of_eq rfl) (by decide) (by rw [own_s1_len]; decide) (by decide) (by decide)
  obtain ⟨b45, g45⟩ : ∃ z, z = h36.size := ⟨_, rfl⟩
  have ne46 : a1 ≠ b45 := Nat.ne_of_lt (Nat.lt_of_lt_of_le c40.lt (Nat.le_of_eq g45.symm))
  have ne47 : a2 ≠ b45 := Nat.ne_of_lt (Nat.lt_of_lt_of_le c41.lt (Nat.le_of_eq g45.symm))
  have ne48 : a3 ≠ b45 := Nat.ne_of_lt (Nat.lt_of_lt_of_le c42.lt (Nat.le_of_eq g45.symm))
  have ne49 : b36 ≠ b45 := Nat.ne_of_lt (Nat.lt_of_lt_of_le c44.lt (Nat.le_of_eq g45.symm))
  have sz45 : h0.size ≤ b45 := Nat.le_trans K36.1 (Nat.le_of_eq g45.symm)
  have ge45 : n0 ≤ b45 := Nat.le_trans Z0 sz45
  have c50 : own_Ari Z h45 a1 .int [x0] := c40.ext E45
  have c51 : own_Ari Z h45 a2 .int [kv0, kv1, kv2, kv3] := c41.ext E45
  have c52 : own_Ari Z h45 a3 .int (own_s1 kk0) := c42.ext E45
  have c53 : Exa Z h45 a3 "[I" := c43.ext E45
  have c54 : own_Ari Z h45 b36 .int [(0 : Int32)] := c44.ext E45
  have K45 : Keep h0 h45 [a3] := K36.ext E45
  rw [← g45] at A45 B45 st45
  refine own_step st45 ?_
  obtain ⟨T55, X55, e55, st55⟩ := castY X45 hx hZ hown (hw _ (List.mem_of_getElem? (i := 19) rfl)) e45 (Ins.self B45) (g := (mkF m 76 #[rv a1, rv a2, rv a3, rv b36, iv (1 : Int32), iv (1 : Int32), iv x0, .unset, .unset] [(.ref b45)])) rfl rfl (hb hby d3_76)
  refine own_step st55 ?_
  refine own_step (fun t k => XS.astore X55.here hx rfl (hb hby d3_79) rfl rfl (l' := #[rv a1, rv a2, rv a3, rv b36, rv b45, iv (1 : Int32), iv x0, .unset, .unset]) rfl k) ?_
  clear E45 K36 X36 X45 c40 c41 c42 c43 c44 e36 e45 g45 st45 st55
  show own_G p.tables e below _ (T55.setTop (mkF m 81 #[rv a1, rv a2, rv a3, rv b36, rv b45, iv (1 : Int32), iv x0, .unset, .unset] []))
  refine own_step (fun t k => XS.aloadN X55.here hx rfl (hb hby d3_81) rfl rfl k) ?_
  refine own_step (fun t k => XS.astore X55.here hx rfl (hb hby d3_82) rfl rfl (l' := #[rv a1, rv a2, rv a3, rv b36, rv b45, rv a1, iv x0, .unset, .unset]) rfl k) ?_
  refine own_step (fun t k => XS.aload X55.here hx rfl (hb hby d3_84) rfl rfl k) ?_
  refine own_step (own_lenI X55 hx hZ e55 c50 (g := (mkF m 86 #[rv a1, rv a2, rv a3, rv b36, rv b45, rv a1, iv x0, .unset, .unset] [(.ref a1)])) rfl rfl (hb hby d3_86)) ?_
  show own_G p.tables e below _ (T55.setTop (mkF m 87 #[rv a1, rv a2, rv a3, rv b36, rv b45, rv a1, iv x0, .unset, .unset] [(.int (1 : Int32))]))
  refine own_step (fun t k => XS.istore X55.here hx rfl (hb hby d3_87) rfl (l' := #[rv a1, rv a2, rv a3, rv b36, rv b45, rv a1, iv (1 : Int32), .unset, .unset]) rfl k) ?_
  refine own_step (fun t k => XS.iconst X55.here hx rfl (hb hby d3_89) k) ?_
  refine own_step (fun t k => XS.istore X55.here hx rfl (hb hby d3_90) rfl (l' := #[rv a1, rv a2, rv a3, rv b36, rv b45, rv a1, iv (1 : Int32), iv (0 : Int32), .unset]) rfl k) ?_
  refine own_step (fun t k => XS.iload X55.here hx rfl (hb hby d3_92) rfl k) ?_
  show own_G p.tables e below _ (T55.setTop (mkF m 94 #[rv a1, rv a2, rv a3, rv b36, rv b45, rv a1, iv (1 : Int32), iv (0 : Int32), .unset] [(.int (0 : Int32))]))
  refine own_step (fun t k => XS.iload X55.here hx rfl (hb hby d3_94) rfl k) ?_
  have hk56 : (0 : Int32) < (1 : Int32) := (by decide)
  refine own_step (fun t k => XS.icmpNo X55.here hx rfl (hb hby d3_96) rfl ((tlt hk56).2.1) k) ?_
  show own_G p.tables e below _ (T55.setTop (mkF m 99 #[rv a1, rv a2, rv a3, rv b36, rv b45, rv a1, iv (1 : Int32), iv (0 : Int32), .unset] []))
  refine own_step (fun t k => XS.aload X55.here hx rfl (hb hby d3_99) rfl rfl k) ?_
  refine own_step (fun t k => XS.iload X55.here hx rfl (hb hby d3_101) rfl k) ?_
  refine own_step (own_iaload X55 hx hZ e55 c50 (own_inb (by decide) (Nat.le_of_ble_eq_true rfl)) (g := (mkF m 103 #[rv a1, rv a2, rv a3, rv b36, rv b45, rv a1, iv (1 : Int32), iv (0 : Int32), .unset] [(.int (0 : Int32)), (.ref a1)])) rfl rfl (hb hby d3_103)) ?_
  refine own_step (fun t k => XS.istore X55.here hx rfl (hb hby d3_104) rfl (l' := #[rv a1, rv a2, rv a3, rv b36, rv b45, rv a1, iv (1 : Int32), iv (0 : Int32), iv x0]) rfl k) ?_
  show own_G p.tables e below _ (T55.setTop (mkF m 106 #[rv a1, rv a2, rv a3, rv b36, rv b45, rv a1, iv (1 : Int32), iv (0 : Int32), iv x0] []))
  refine own_step (fun t k => XS.aloadN X55.here hx rfl (hb hby d3_106) rfl rfl k) ?_
  refine own_step (fun t k => XS.aload X55.here hx rfl (hb hby d3_107) rfl rfl k) ?_
  refine own_step (fun t k => XS.aloadN X55.here hx rfl (hb hby d3_109) rfl rfl k) ?_
  refine own_step (fun t k => XS.iload X55.here hx rfl (hb hby d3_110) rfl k) ?_
  show own_G p.tables e below _ (T55.setTop (mkF m 112 #[rv a1, rv a2, rv a3, rv b36, rv b45, rv a1, iv (1 : Int32), iv (0 : Int32), iv x0] [(.int x0), (.ref a2), (.ref b45), (.ref b36)]))
  refine own_step (own_iaload X55 hx hZ e55 c51 (own_i4 hx0 rfl) (g := (mkF m 112 #[rv a1, rv a2, rv a3, rv b36, rv b45, rv a1, iv (1 : Int32), iv (0 : Int32), iv x0] [(.int x0), (.ref a2), (.ref b45), (.ref b36)])) rfl rfl (hb hby d3_112)) ?_
  show own_G p.tables e below _ (T55.setTop (mkF m 113 #[rv a1, rv a2, rv a3, rv b36, rv b45, rv a1, iv (1 : Int32), iv (0 : Int32), iv x0] [(.int ([kv0, kv1, kv2, kv3].getD x0.toNatClampNeg 0)), (.ref b45), (.ref b36)]))
  rw [hky0]
  show own_G p.tables e below _ (T55.setTop (mkF m 113 #[rv a1, rv a2, rv a3, rv b36, rv b45, rv a1, iv (1 : Int32), iv (0 : Int32), iv x0] [(.int kk0), (.ref b45), (.ref b36)]))
  refine own_step (B := T55.setTop (mkF m 114 #[rv a1, rv a2, rv a3, rv b36, rv b45, rv a1, iv (1 : Int32), iv (0 : Int32), iv x0] [(.int kk0), (.ref b45), (.int kk0), (.ref b45), (.ref b36)])) (fun t k => by
    jvm_step X55.here [X55.here.top, hx, (hb hby d3_113), Value.category]
    exact k) ?_
  refine own_step (own_iaload X55 hx hZ e55 A45 (own_i3 h30 (by first | (simp only [own_inc_len, own_pre_len, own_s0_len, own_s1_len, own_s2_len, own_s3_len, own_s4_len]; done) | (simp only [own_inc_len, own_pre_len, own_s0_len, own_s1_len, own_s2_len, own_s3_len, own_s4_len]; rfl) | rfl)) (g := (mkF m 114 #[rv a1, rv a2, rv a3, rv b36, rv b45, rv a1, iv (1 : Int32), iv (0 : Int32), iv x0] [(.int kk0), (.ref b45), (.int kk0), (.ref b45), (.ref b36)])) rfl rfl (hb hby d3_114)) ?_
  refine own_step (B := T55.setTop (mkF m 116 #[rv a1, rv a2, rv a3, rv b36, rv b45, rv a1, iv (1 : Int32), iv (0 : Int32), iv x0] [(.int ((own_s1 kk0).getD kk0.toNatClampNeg 0)), (.int kk0), (.ref b45), (.int ((own_s1 kk0).getD kk0.toNatClampNeg 0)), (.ref b36)])) (fun t k => by
    jvm_step X55.here [X55.here.top, hx, (hb hby d3_115), Value.category]
    exact k) ?_
  refine own_step (fun t k => XS.iconst X55.here hx rfl (hb hby d3_116) k) ?_
  show own_G p.tables e below _ (T55.setTop (mkF m 117 #[rv a1, rv a2, rv a3, rv b36, rv b45, rv a1, iv (1 : Int32), iv (0 : Int32), iv x0] [(.int (1 : Int32)), (.int ((own_s1 kk0).getD kk0.toNatClampNeg 0)), (.int kk0), (.ref b45), (.int ((own_s1 kk0).getD kk0.toNatClampNeg 0)), (.ref b36)]))
  refine own_step (fun t k => XS.iadd X55.here hx rfl (hb hby d3_117) rfl k) ?_
  obtain ⟨T57, h57, X57, e57, W57, c57, st57⟩ := own_iastore X55 hx hZ e55 A45 (own_i3 h30 (by first | (simp only [own_inc_len, own_pre_len, own_s0_len, own_s1_len, own_s2_len, own_s3_len, own_s4_len]; done) | (simp only [own_inc_len, own_pre_len, own_s0_len, own_s1_len, own_s2_len, own_s3_len, own_s4_len]; rfl) | rfl)) (g := (mkF m 118 #[rv a1, rv a2, rv a3, rv b36, rv b45, rv a1, iv (1 : Int32), iv (0 : Int32), iv x0] [(.int (((own_s1 kk0).getD kk0.toNatClampNeg 0) + (1 : Int32))), (.int kk0), (.ref b45), (.int ((own_s1 kk0).getD kk0.toNatClampNeg 0)), (.ref b36)])) rfl rfl (hb hby d3_118)
  have N57 := Fr.snoc X57 N27 ge45
  have c58 : own_Ari Z h57 b45 .int ((own_s1 kk0).set kk0.toNatClampNeg (((own_s1 kk0).getD kk0.toNatClampNeg 0) + (1 : Int32))) := c57
  have c59 : own_Ari Z h57 a1 .int [x0] := c50.other W57 ne46
  have c60 : own_Ari Z h57 a2 .int [kv0, kv1, kv2, kv3] := c51.other W57 ne47
  have c61 : own_Ari Z h57 a3 .int (own_s1 kk0) := c52.other W57 ne48
  have c62 : Exa Z h57 a3 "[I" := c53.wr W57
  have c63 : own_Ari Z h57 b36 .int [(0 : Int32)] := c54.other W57 ne49
  have c65 : Exa Z h57 b45 "[I" := B45.wr W57
  have K57 : Keep h0 h57 [a3] := K45.wr W57 (Or.inr sz45)
  refine own_step st57 ?_
  have c66 : own_Ari Z h57 b45 .int (own_inc (own_s1 kk0) kk0) := c58
  refine own_step (fun t k => XS.iload X57.here hx rfl (hb hby d3_119) rfl k) ?_
  obtain ⟨T67, h67, X67, e67, W67, c67, st67⟩ := own_iastore X57 hx hZ e57 c63 (own_setL rfl (own_pos1_0 h30)) (g := (mkF m 121 #[rv a1, rv a2, rv a3, rv b36, rv b45, rv a1, iv (1 : Int32), iv (0 : Int32), iv x0] [(.int x0), (.int ((own_s1 kk0).getD kk0.toNatClampNeg 0)), (.ref b36)])) rfl rfl (hb hby d3_121)
  have N67 := Fr.snoc X67 N57 ge36
  have c68 : own_Ari Z h67 b36 .int ([(0 : Int32)].set ((own_s1 kk0).getD kk0.toNatClampNeg 0).toNatClampNeg x0) := c67
  have c69 : own_Ari Z h67 a1 .int [x0] := c59.other W67 ne37
  have c70 : own_Ari Z h67 a2 .int [kv0, kv1, kv2, kv3] := c60.other W67 ne38
  have c71 : own_Ari Z h67 a3 .int (own_s1 kk0) := c61.other W67 ne39
  have c72 : Exa Z h67 a3 "[I" := c62.wr W67
  have c74 : own_Ari Z h67 b45 .int (own_inc (own_s1 kk0) kk0) := c66.other W67 (Ne.symm ne49)
  have c75 : Exa Z h67 b45 "[I" := c65.wr W67
  have K67 : Keep h0 h67 [a3] := K57.wr W67 (Or.inr sz36)
  refine own_step st67 ?_
  clear A45 B45 K45 K57 N27 N57 W57 W67 X55 X57 c50 c51 c52 c53 c54 c57 c58 c59 c60 c61 c62 c63 c65 c66 c67 e55 e57 hk56 st57 st67
  show own_G p.tables e below _ (T67.setTop (mkF m 122 #[rv a1, rv a2, rv a3, rv b36, rv b45, rv a1, iv (1 : Int32), iv (0 : Int32), iv x0] []))
  refine own_step (fun t k => XS.iinc X67.here hx rfl (hb hby d3_122) rfl (l' := #[rv a1, rv a2, rv a3, rv b36, rv b45, rv a1, iv (1 : Int32), iv (1 : Int32), iv x0]) rfl k) ?_
  refine own_step (fun t k => XS.goto X67.here hx rfl (pc0 := 125) (pc' := 92) rfl (hb hby d3_125) (by decide) (by decide) k) ?_
  refine own_step (fun t k => XS.iload X67.here hx rfl (hb hby d3_92) rfl k) ?_
  refine own_step (fun t k => XS.iload X67.here hx rfl (hb hby d3_94) rfl k) ?_
  show own_G p.tables e below _ (T67.setTop (mkF m 96 #[rv a1, rv a2, rv a3, rv b36, rv b45, rv a1, iv (1 : Int32), iv (1 : Int32), iv x0] [(.int (1 : Int32)), (.int (1 : Int32))]))
  have hk76 : ¬ ((1 : Int32) < (1 : Int32)) := (by decide)
  refine own_step (fun t k => XS.icmpYes X67.here hx rfl (pc0 := 96) (pc' := 128) rfl (hb hby d3_96) rfl ((flt hk76).2.1) (by decide) (by decide) k) ?_
  show own_G p.tables e below _ (T67.setTop (mkF m 128 #[rv a1, rv a2, rv a3, rv b36, rv b45, rv a1, iv (1 : Int32), iv (1 : Int32), iv x0] []))
  refine own_step (fun t k => XS.aloadN X67.here hx rfl (hb hby d3_128) rfl rfl k) ?_
  obtain ⟨fs, hr, hrun, hended, hW, hsame⟩ := X67.leave (v := some (.ref b36)) (fun h => by rw [Bd.returns] at h; cases h)
  refine own_done (own_retA X67 hx Bd.returns (by decide) rfl (hb hby d3_129) hr) hrun hended ⟨_, _, rfl, ?_, ⟨_, rfl⟩, hW, hsame.mono (by decide) (by decide)⟩
  show Q3_n1 Z a1 a2 a3 x0 kv0 kv1 kv2 kv3 kk0 h0 n0 _ T67.heap _
  rw [e67]
  exact ⟨b36, rfl, N67, K67, c71, c68, sz36⟩
theorem d1_22 : decode method_3_code 22 = .ok (.iload_n 3, 1) := by decide +kernel
theorem d1_23 : decode method_3_code 23 = .ok (.iload_n 0, 1) := by decide +kernel
theorem d1_24 : decode method_3_code 24 = .ok (.if_icmp .ne 7, 3) := by decide +kernel
theorem d1_27 : decode method_3_code 27 = .ok (.iconst 1, 1) := by decide +kernel
theorem d1_28 : decode method_3_code 28 = .ok (.goto 4, 3) := by decide +kernel
theorem pn_1_n2 : plainName "com/example/stevedore/stevedore/MoveGraphGroupedPinLaw" = true := by first | (simp [plainName, overriddenIn]; done) | decide +kernel
theorem pd_1_n2_0 : parseMethodDescriptor "(Z)I" = some ⟨[.boolean], some .int⟩ := by decide +kernel
theorem ef_1_n2 (m : MethodId) (p1 : Int32) (p3 : Int32) (p4 : Int32) (p5 : Int32) (p6 : Int32) : entryFrame m #[(.int p1), (.int (2 : Int32)), (.int p3), (.int p4), (.int p5), (.int p6)] 6 = mkF m 0 #[iv p1, iv (2 : Int32), iv p3, iv p4, iv p5, iv p6] [] := by first | (simp [entryFrame, mkF, argsToLocals, Value.category]; done) | rfl
def Q1_n2 (Z : State) (p1 : Int32) (p3 : Int32) (p4 : Int32) (p5 : Int32) (p6 : Int32) (h0 : Heap) (n0 : Nat) (v : Option Value) (h : Heap) (L : List Loc) : Prop := v = some (.int ((((own_f2 (if p3 = p1 then (1 : Int32) else (0 : Int32))) + (own_f2 (if p4 = p1 then (1 : Int32) else (0 : Int32)))) + (own_f2 (0 : Int32))) + (own_f2 (0 : Int32)))) ∧ Fr n0 L ∧ h = h0
set_option maxRecDepth 65536 in
set_option maxHeartbeats 40000000 in
theorem rm1_n2 (l : Launch) (Z : State) (a0 : Array Value) (hw : ∀ d ∈ tables_1, d.before a0 Z = true) (ws : List Jvm.Cond) (p1 : Int32) (p3 : Int32) (p4 : Int32) (p5 : Int32) (p6 : Int32) (h0 : Heap) (n0 : Nat) (Z0 : n0 ≤ h0.size) :
    MetFree l (⟨"com/example/stevedore/stevedore/MoveGraphGroupedPinLaw", "cnt", "(IIIIII)I"⟩ : MethodName) (head1 (Jvm.Cond.code (⟨"com/example/stevedore/stevedore/MoveGraphGroupedPinLaw", "cnt", "(IIIIII)I"⟩ : MethodName) method_3_code 6 (some .int) :: ws) ({ frames := 1, cells := 0, slots := 0, locals := 13 } : Room)) (fun a U => a = #[(.int p1), (.int (2 : Int32)), (.int p3), (.int p4), (.int p5), (.int p6)] ∧ Z.Warmed39 U.vm ∧ U.heap = h0) (fun _ _ _ _ _ => True) (fun _ U o U' => ∃ v L, o = .returned v ∧ Q1_n2 Z p1 p3 p4 p5 p6 h0 n0 v U'.heap L ∧ FrameEnd U o U' L ({ frames := 1, cells := 0, slots := 0, locals := 13 } : Room).cells ({ frames := 1, cells := 0, slots := 0, locals := 13 } : Room).slots) := by
  refine MetFree.of_bodySF (plainFor_of_name pn_1_n2) hisR ?_
  intro p e s m args below meth c s₁ Bd hml0 hP hK
  obtain ⟨rfl, hZ, hh⟩ := hP
  have hx := Bd.exec
  have hby := Bd.bytes
  have hml : c.maxLocals = 6 := hml0
  have hown : s.vm.findClass "com/example/stevedore/stevedore/MoveGraphGroupedPinLaw" = some m.cls := findClass_of_methodNamed Bd.named
  have hnm := (name_of_methodNamed Bd.named Bd.method).1
  have X0 : Stand p l e ({ frames := 1, cells := 0, slots := 0, locals := 13 } : Room) s m #[(.int p1), (.int (2 : Int32)), (.int p3), (.int p4), (.int p5), (.int p6)] below meth c s₁ [] 0 0 := Stand.of_body Bd
  have e0 : s₁.heap = h0 := by rw [← hh, Bd.state]; rfl
  have N0 := Fr.nil n0
  refine own_start (fun t k => castTop (ef_1_n2 m p1 p3 p4 p5 p6) k) ?_
  show own_G p.tables e below _ (s₁.setTop (mkF m 0 #[iv p1, iv (2 : Int32), iv p3, iv p4, iv p5, iv p6] []))
  refine own_step (fun t k => XS.iloadN X0.here hx rfl (hb hby d1_0) rfl k) ?_
  have hk1 : (0 : Int32) < (2 : Int32) := (by decide)
  refine own_step (fun t k => XS.ifNo X0.here hx rfl (hb hby d1_1) rfl ((if0 _ _).trans (tlt hk1).2.2.2) k) ?_
  show own_G p.tables e below _ (s₁.setTop (mkF m 4 #[iv p1, iv (2 : Int32), iv p3, iv p4, iv p5, iv p6] []))
  refine own_step (fun t k => XS.iloadN X0.here hx rfl (hb hby d1_4) rfl k) ?_
  refine own_step (fun t k => XS.iloadN X0.here hx rfl (hb hby d1_5) rfl k) ?_
  refine own_imp (B := s₁.setTop (mkF m 14 #[iv p1, iv (2 : Int32), iv p3, iv p4, iv p5, iv p6] [(.int (if p3 = p1 then (1 : Int32) else (0 : Int32)))])) (fun k0 => ?_) ?_
  · by_cases hc2 : p3 = p1
    · simp only [if_pos hc2] at k0
      refine own_step (fun t k => XS.icmpNo X0.here hx rfl (hb hby d1_6) rfl ((teq hc2).2) k) ?_
      show own_G p.tables e below _ (s₁.setTop (mkF m 9 #[iv p1, iv (2 : Int32), iv p3, iv p4, iv p5, iv p6] []))
      refine own_step (fun t k => XS.iconst X0.here hx rfl (hb hby d1_9) k) ?_
      refine own_step (fun t k => XS.goto X0.here hx rfl (pc0 := 10) (pc' := 14) rfl (hb hby d1_10) (by decide) (by decide) k) ?_
      exact k0
    · simp only [if_neg hc2] at k0
      refine own_step (fun t k => XS.icmpYes X0.here hx rfl (pc0 := 6) (pc' := 13) rfl (hb hby d1_6) rfl ((feq hc2).2) (by decide) (by decide) k) ?_
      show own_G p.tables e below _ (s₁.setTop (mkF m 13 #[iv p1, iv (2 : Int32), iv p3, iv p4, iv p5, iv p6] []))
      refine own_step (fun t k => XS.iconst X0.here hx rfl (hb hby d1_13) k) ?_
      exact k0
  show own_G p.tables e below _ (s₁.setTop (mkF m 14 #[iv p1, iv (2 : Int32), iv p3, iv p4, iv p5, iv p6] [(.int (if p3 = p1 then (1 : Int32) else (0 : Int32)))]))
  obtain ⟨_, _, ⟨T3, L3, k3, n3⟩, -, X3, ⟨Lc3, hQ3, l3, y3, z3⟩, st3⟩ := Jvm.LawKit.callS X0 hx (y := (⟨"com/example/stevedore/stevedore/MoveGraphGroupedPinLaw", "one", "(Z)I"⟩ : MethodName)) hown (mvT hZ (hw _ (List.mem_of_getElem? (i := 5) rfl))) (mvT hZ (hw _ (List.mem_of_getElem? (i := 6) rfl))) (mvT hZ (hw _ (List.mem_of_getElem? (i := 3) rfl))) (mvT hZ (hw _ (List.mem_of_getElem? (i := 7) rfl))) (by decide) (backOf (W := 0) (rm2 l Z a0 hw [] (if p3 = p1 then (1 : Int32) else (0 : Int32)) h0 n0 (Nat.le_trans Z0 (Keep.refl h0 []).1) ) hZ (hw _ (List.mem_of_getElem? (i := 7) rfl)) (hw _ (List.mem_of_getElem? (i := 3) rfl)) (by decide) (by decide)) (g := (mkF m 14 #[iv p1, iv (2 : Int32), iv p3, iv p4, iv p5, iv p6] [(.int (if p3 = p1 then (1 : Int32) else (0 : Int32)))])) rfl (by rw [hml]; rfl) (argsL := [(.int (if p3 = p1 then (1 : Int32) else (0 : Int32)))]) (rest := []) (lenOf pd_1_n2_0 rfl) rfl (by show 2 * 0 + _ ≤ _; exact Nat.le_of_eq rfl) (hb hby d1_14) (fun _ _ => ⟨rfl, e0, (by decide : 0 + 0 ≤ _), (by decide : 0 + 0 ≤ _)⟩)
  dsimp only [Pt.U, Pt.locs, Pt.cells, Pt.slots] at X3 l3 y3 z3 st3 hQ3
  subst y3 z3
  obtain ⟨rfl, N3q, e3⟩ := hQ3
  have N3 : Fr n0 L3 := by rw [l3]; exact Fr.app N0 N3q
  refine own_step st3 ?_
  refine own_step (fun t k => XS.iloadN X3.here hx rfl (hb hby d1_17) rfl k) ?_
  refine own_step (fun t k => XS.iconst X3.here hx rfl (hb hby d1_18) k) ?_
  have hk4 : (1 : Int32) < (2 : Int32) := (by decide)
  refine own_step (fun t k => XS.icmpNo X3.here hx rfl (hb hby d1_19) rfl ((tlt hk4).2.2.2) k) ?_
  show own_G p.tables e below _ (T3.setTop (mkF m 22 #[iv p1, iv (2 : Int32), iv p3, iv p4, iv p5, iv p6] [(.int (own_f2 (if p3 = p1 then (1 : Int32) else (0 : Int32))))]))
  refine own_step (fun t k => XS.iloadN X3.here hx rfl (hb hby d1_22) rfl k) ?_
  refine own_step (fun t k => XS.iloadN X3.here hx rfl (hb hby d1_23) rfl k) ?_
  refine own_imp (B := T3.setTop (mkF m 32 #[iv p1, iv (2 : Int32), iv p3, iv p4, iv p5, iv p6] [(.int (if p4 = p1 then (1 : Int32) else (0 : Int32))), (.int (own_f2 (if p3 = p1 then (1 : Int32) else (0 : Int32))))])) (fun k0 => ?_) ?_
  · by_cases hc5 : p4 = p1
    · simp only [if_pos hc5] at k0
      refine own_step (fun t k => XS.icmpNo X3.here hx rfl (hb hby d1_24) rfl ((teq hc5).2) k) ?_
      show own_G p.tables e below _ (T3.setTop (mkF m 27 #[iv p1, iv (2 : Int32), iv p3, iv p4, iv p5, iv p6] [(.int (own_f2 (if p3 = p1 then (1 : Int32) else (0 : Int32))))]))
      refine own_step (fun t k => XS.iconst X3.here hx rfl (hb hby d1_27) k) ?_
      refine own_step (fun t k => XS.goto X3.here hx rfl (pc0 := 28) (pc' := 32) rfl (hb hby d1_28) (by decide) (by decide) k) ?_
      exact k0
    · simp only [if_neg hc5] at k0
      refine own_step (fun t k => XS.icmpYes X3.here hx rfl (pc0 := 24) (pc' := 31) rfl (hb hby d1_24) rfl ((feq hc5).2) (by decide) (by decide) k) ?_
      show own_G p.tables e below _ (T3.setTop (mkF m 31 #[iv p1, iv (2 : Int32), iv p3, iv p4, iv p5, iv p6] [(.int (own_f2 (if p3 = p1 then (1 : Int32) else (0 : Int32))))]))
      refine own_step (fun t k => XS.iconst X3.here hx rfl (hb hby d1_31) k) ?_
      exact k0
  show own_G p.tables e below _ (T3.setTop (mkF m 32 #[iv p1, iv (2 : Int32), iv p3, iv p4, iv p5, iv p6] [(.int (if p4 = p1 then (1 : Int32) else (0 : Int32))), (.int (own_f2 (if p3 = p1 then (1 : Int32) else (0 : Int32))))]))
  obtain ⟨_, _, ⟨T6, L6, k6, n6⟩, -, X6, ⟨Lc6, hQ6, l6, y6, z6⟩, st6⟩ := Jvm.LawKit.callS X3 hx (y := (⟨"com/example/stevedore/stevedore/MoveGraphGroupedPinLaw", "one", "(Z)I"⟩ : MethodName)) hown (mvT hZ (hw _ (List.mem_of_getElem? (i := 5) rfl))) (mvT hZ (hw _ (List.mem_of_getElem? (i := 6) rfl))) (mvT hZ (hw _ (List.mem_of_getElem? (i := 3) rfl))) (mvT hZ (hw _ (List.mem_of_getElem? (i := 7) rfl))) (by decide) (backOf (W := 1) (rm2 l Z a0 hw [] (if p4 = p1 then (1 : Int32) else (0 : Int32)) h0 n0 (Nat.le_trans Z0 (Keep.refl h0 []).1) ) hZ (hw _ (List.mem_of_getElem? (i := 7) rfl)) (hw _ (List.mem_of_getElem? (i := 3) rfl)) (by decide) (by decide)) (g := (mkF m 32 #[iv p1, iv (2 : Int32), iv p3, iv p4, iv p5, iv p6] [(.int (if p4 = p1 then (1 : Int32) else (0 : Int32))), (.int (own_f2 (if p3 = p1 then (1 : Int32) else (0 : Int32))))])) rfl (by rw [hml]; rfl) (argsL := [(.int (if p4 = p1 then (1 : Int32) else (0 : Int32)))]) (rest := [(.int (own_f2 (if p3 = p1 then (1 : Int32) else (0 : Int32))))]) (lenOf pd_1_n2_0 rfl) rfl (by show 2 * 0 + _ ≤ _; exact Nat.le_of_eq rfl) (hb hby d1_32) (fun _ _ => ⟨rfl, e3, (by decide : 0 + 0 ≤ _), (by decide : 0 + 0 ≤ _)⟩)
  dsimp only [Pt.U, Pt.locs, Pt.cells, Pt.slots] at X6 l6 y6 z6 st6 hQ6
  subst y6 z6
  obtain ⟨rfl, N6q, e6⟩ := hQ6
  have N6 : Fr n0 L6 := by rw [l6]; exact Fr.app N3 N6q
  refine own_step st6 ?_
  refine own_step (fun t k => XS.iadd X6.here hx rfl (hb hby d1_35) rfl k) ?_
  refine own_step (fun t k => XS.iloadN X6.here hx rfl (hb hby d1_36) rfl k) ?_
  refine own_step (fun t k => XS.iconst X6.here hx rfl (hb hby d1_37) k) ?_
  show own_G p.tables e below _ (T6.setTop (mkF m 38 #[iv p1, iv (2 : Int32), iv p3, iv p4, iv p5, iv p6] [(.int (2 : Int32)), (.int (2 : Int32)), (.int ((own_f2 (if p3 = p1 then (1 : Int32) else (0 : Int32))) + (own_f2 (if p4 = p1 then (1 : Int32) else (0 : Int32)))))]))
  have hk7 : ¬ ((2 : Int32) < (2 : Int32)) := (by decide)
  refine own_step (fun t k => XS.icmpYes X6.here hx rfl (pc0 := 38) (pc' := 51) rfl (hb hby d1_38) rfl ((flt hk7).2.2.2) (by decide) (by decide) k) ?_
  clear N3 N3q N6q X3 e3 hk1 hk4 hk7 st3 st6
  show own_G p.tables e below _ (T6.setTop (mkF m 51 #[iv p1, iv (2 : Int32), iv p3, iv p4, iv p5, iv p6] [(.int ((own_f2 (if p3 = p1 then (1 : Int32) else (0 : Int32))) + (own_f2 (if p4 = p1 then (1 : Int32) else (0 : Int32)))))]))
  refine own_step (fun t k => XS.iconst X6.here hx rfl (hb hby d1_51) k) ?_
  obtain ⟨_, _, ⟨T8, L8, k8, n8⟩, -, X8, ⟨Lc8, hQ8, l8, y8, z8⟩, st8⟩ := Jvm.LawKit.callS X6 hx (y := (⟨"com/example/stevedore/stevedore/MoveGraphGroupedPinLaw", "one", "(Z)I"⟩ : MethodName)) hown (mvT hZ (hw _ (List.mem_of_getElem? (i := 5) rfl))) (mvT hZ (hw _ (List.mem_of_getElem? (i := 6) rfl))) (mvT hZ (hw _ (List.mem_of_getElem? (i := 3) rfl))) (mvT hZ (hw _ (List.mem_of_getElem? (i := 7) rfl))) (by decide) (backOf (W := 1) (rm2 l Z a0 hw [] (0 : Int32) h0 n0 (Nat.le_trans Z0 (Keep.refl h0 []).1) ) hZ (hw _ (List.mem_of_getElem? (i := 7) rfl)) (hw _ (List.mem_of_getElem? (i := 3) rfl)) (by decide) (by decide)) (g := (mkF m 52 #[iv p1, iv (2 : Int32), iv p3, iv p4, iv p5, iv p6] [(.int (0 : Int32)), (.int ((own_f2 (if p3 = p1 then (1 : Int32) else (0 : Int32))) + (own_f2 (if p4 = p1 then (1 : Int32) else (0 : Int32)))))])) rfl (by rw [hml]; rfl) (argsL := [(.int (0 : Int32))]) (rest := [(.int ((own_f2 (if p3 = p1 then (1 : Int32) else (0 : Int32))) + (own_f2 (if p4 = p1 then (1 : Int32) else (0 : Int32)))))]) (lenOf pd_1_n2_0 rfl) rfl (by show 2 * 0 + _ ≤ _; exact Nat.le_of_eq rfl) (hb hby d1_52) (fun _ _ => ⟨rfl, e6, (by decide : 0 + 0 ≤ _), (by decide : 0 + 0 ≤ _)⟩)
  dsimp only [Pt.U, Pt.locs, Pt.cells, Pt.slots] at X8 l8 y8 z8 st8 hQ8
  subst y8 z8
  obtain ⟨rfl, N8q, e8⟩ := hQ8
  have N8 : Fr n0 L8 := by rw [l8]; exact Fr.app N6 N8q
  refine own_step st8 ?_
  refine own_step (fun t k => XS.iadd X8.here hx rfl (hb hby d1_55) rfl k) ?_
  refine own_step (fun t k => XS.iloadN X8.here hx rfl (hb hby d1_56) rfl k) ?_
  show own_G p.tables e below _ (T8.setTop (mkF m 57 #[iv p1, iv (2 : Int32), iv p3, iv p4, iv p5, iv p6] [(.int (2 : Int32)), (.int (((own_f2 (if p3 = p1 then (1 : Int32) else (0 : Int32))) + (own_f2 (if p4 = p1 then (1 : Int32) else (0 : Int32)))) + (own_f2 (0 : Int32))))]))
  refine own_step (fun t k => XS.iconst X8.here hx rfl (hb hby d1_57) k) ?_
  have hk9 : ¬ ((3 : Int32) < (2 : Int32)) := (by decide)
  refine own_step (fun t k => XS.icmpYes X8.here hx rfl (pc0 := 58) (pc' := 71) rfl (hb hby d1_58) rfl ((flt hk9).2.2.2) (by decide) (by decide) k) ?_
  show own_G p.tables e below _ (T8.setTop (mkF m 71 #[iv p1, iv (2 : Int32), iv p3, iv p4, iv p5, iv p6] [(.int (((own_f2 (if p3 = p1 then (1 : Int32) else (0 : Int32))) + (own_f2 (if p4 = p1 then (1 : Int32) else (0 : Int32)))) + (own_f2 (0 : Int32))))]))
  refine own_step (fun t k => XS.iconst X8.here hx rfl (hb hby d1_71) k) ?_
  obtain ⟨_, _, ⟨T10, L10, k10, n10⟩, -, X10, ⟨Lc10, hQ10, l10, y10, z10⟩, st10⟩ := Jvm.LawKit.callS X8 hx (y := (⟨"com/example/stevedore/stevedore/MoveGraphGroupedPinLaw", "one", "(Z)I"⟩ : MethodName)) hown (mvT hZ (hw _ (List.mem_of_getElem? (i := 5) rfl))) (mvT hZ (hw _ (List.mem_of_getElem? (i := 6) rfl))) (mvT hZ (hw _ (List.mem_of_getElem? (i := 3) rfl))) (mvT hZ (hw _ (List.mem_of_getElem? (i := 7) rfl))) (by decide) (backOf (W := 1) (rm2 l Z a0 hw [] (0 : Int32) h0 n0 (Nat.le_trans Z0 (Keep.refl h0 []).1) ) hZ (hw _ (List.mem_of_getElem? (i := 7) rfl)) (hw _ (List.mem_of_getElem? (i := 3) rfl)) (by decide) (by decide)) (g := (mkF m 72 #[iv p1, iv (2 : Int32), iv p3, iv p4, iv p5, iv p6] [(.int (0 : Int32)), (.int (((own_f2 (if p3 = p1 then (1 : Int32) else (0 : Int32))) + (own_f2 (if p4 = p1 then (1 : Int32) else (0 : Int32)))) + (own_f2 (0 : Int32))))])) rfl (by rw [hml]; rfl) (argsL := [(.int (0 : Int32))]) (rest := [(.int (((own_f2 (if p3 = p1 then (1 : Int32) else (0 : Int32))) + (own_f2 (if p4 = p1 then (1 : Int32) else (0 : Int32)))) + (own_f2 (0 : Int32))))]) (lenOf pd_1_n2_0 rfl) rfl (by show 2 * 0 + _ ≤ _; exact Nat.le_of_eq rfl) (hb hby d1_72) (fun _ _ => ⟨rfl, e8, (by decide : 0 + 0 ≤ _), (by decide : 0 + 0 ≤ _)⟩)
  dsimp only [Pt.U, Pt.locs, Pt.cells, Pt.slots] at X10 l10 y10 z10 st10 hQ10
  subst y10 z10
  obtain ⟨rfl, N10q, e10⟩ := hQ10
  have N10 : Fr n0 L10 := by rw [l10]; exact Fr.app N8 N10q
  refine own_step st10 ?_
  refine own_step (fun t k => XS.iadd X10.here hx rfl (hb hby d1_75) rfl k) ?_
  obtain ⟨fs, hr, hrun, hended, hW, hsame⟩ := X10.leave (v := some (.int ((((own_f2 (if p3 = p1 then (1 : Int32) else (0 : Int32))) + (own_f2 (if p4 = p1 then (1 : Int32) else (0 : Int32)))) + (own_f2 (0 : Int32))) + (own_f2 (0 : Int32))))) (fun h => by rw [Bd.returns] at h; cases h)
  refine own_done (retI X10 hx Bd.returns (hb hby d1_76) hr) hrun hended ⟨_, _, rfl, ?_, ⟨_, rfl⟩, hW, hsame.mono (by decide) (by decide)⟩
  show Q1_n2 Z p1 p3 p4 p5 p6 h0 n0 _ T10.heap _
  rw [e10]
  exact ⟨congrArg (fun z => some (Value.int z)) (show ((((own_f2 (if p3 = p1 then (1 : Int32) else (0 : Int32))) + (own_f2 (if p4 = p1 then (1 : Int32) else (0 : Int32)))) + (own_f2 (0 : Int32))) + (own_f2 (0 : Int32))) = ((((own_f2 (if p3 = p1 then (1 : Int32) else (0 : Int32))) + (own_f2 (if p4 = p1 then (1 : Int32) else (0 : Int32)))) + (own_f2 (0 : Int32))) + (own_f2 (0 : Int32))) from rfl), N10, rfl⟩
theorem pn_3_n2 : plainName "com/example/stevedore/stevedore/MoveGraph" = true := by first | (simp [plainName, overriddenIn]; done) | decide +kernel
theorem ef_3_n2 (m : MethodId) (a1 : Addr) (a2 : Addr) (a3 : Addr) : entryFrame m #[(.ref a1), (.ref a2), (.ref a3)] 9 = mkF m 0 #[rv a1, rv a2, rv a3, .unset, .unset, .unset, .unset, .unset, .unset] [] := by first | (simp [entryFrame, mkF, argsToLocals, Value.category]; done) | rfl
def Q3_n2 (Z : State) (a1 : Addr) (a2 : Addr) (a3 : Addr) (x0 : Int32) (x1 : Int32) (kv0 : Int32) (kv1 : Int32) (kv2 : Int32) (kv3 : Int32) (kk0 : Int32) (kk1 : Int32) (h0 : Heap) (n0 : Nat) (v : Option Value) (h : Heap) (L : List Loc) : Prop := ∃ (rb : Addr), v = some (.ref rb) ∧ Fr n0 L ∧ Keep h0 h [a3] ∧ own_Ari Z h a3 .int (own_s2 kk0 kk1) ∧ own_Ari Z h rb .int (([(0 : Int32), (0 : Int32)].set ((own_s2 kk0 kk1).getD kk0.toNatClampNeg 0).toNatClampNeg x0).set ((own_inc (own_s2 kk0 kk1) kk0).getD kk1.toNatClampNeg 0).toNatClampNeg x1) ∧ h0.size ≤ rb
set_option maxRecDepth 65536 in
set_option maxHeartbeats 40000000 in
theorem rm3_n2 (l : Launch) (Z : State) (a0 : Array Value) (hw : ∀ d ∈ tables_1, d.before a0 Z = true) (ws : List Jvm.Cond) (a1 : Addr) (a2 : Addr) (a3 : Addr) (x0 : Int32) (x1 : Int32) (kv0 : Int32) (kv1 : Int32) (kv2 : Int32) (kv3 : Int32) (kk0 : Int32) (kk1 : Int32) (h0 : Heap) (n0 : Nat) (Z0 : n0 ≤ h0.size) (fp0 : own_Ari Z h0 a1 .int [x0, x1]) (fp1 : own_Ari Z h0 a2 .int [kv0, kv1, kv2, kv3]) (fp2 : own_Ari Z h0 a3 .int [(0 : Int32), (0 : Int32), (0 : Int32), (0 : Int32)]) (fp3 : Exa Z h0 a3 "[I") (hx0 : own_4 x0) (hx1 : own_4 x1) (hky0 : ([kv0, kv1, kv2, kv3].getD x0.toNatClampNeg 0) = kk0) (hky1 : ([kv0, kv1, kv2, kv3].getD x1.toNatClampNeg 0) = kk1) (h30 : own_3 kk0) (h31 : own_3 kk1) (g_a3 : n0 ≤ a3) (ne_a1_a3 : a1 ≠ a3) (ne_a2_a3 : a2 ≠ a3) :
    MetFree l (⟨"com/example/stevedore/stevedore/MoveGraph", "grouped", "([I[I[I)[I"⟩ : MethodName) (head1 (Jvm.Cond.code (⟨"com/example/stevedore/stevedore/MoveGraph", "grouped", "([I[I[I)[I"⟩ : MethodName) prog_15_method_17_code 9 (some (.array .int)) :: ws) ({ frames := 1, cells := 2, slots := 6, locals := 14 } : Room)) (fun a U => a = #[(.ref a1), (.ref a2), (.ref a3)] ∧ Z.Warmed39 U.vm ∧ U.heap = h0) (fun _ _ _ _ _ => True) (fun _ U o U' => ∃ v L, o = .returned v ∧ Q3_n2 Z a1 a2 a3 x0 x1 kv0 kv1 kv2 kv3 kk0 kk1 h0 n0 v U'.heap L ∧ FrameEnd U o U' L ({ frames := 1, cells := 2, slots := 6, locals := 14 } : Room).cells ({ frames := 1, cells := 2, slots := 6, locals := 14 } : Room).slots) := by
  refine MetFree.of_bodySF (plainFor_of_name pn_3_n2) hisR ?_
  intro p e s m args below meth c s₁ Bd hml0 hP hK
  obtain ⟨rfl, hZ, hh⟩ := hP
  have hx := Bd.exec
  have hby := Bd.bytes
  have hml : c.maxLocals = 9 := hml0
  have hown : s.vm.findClass "com/example/stevedore/stevedore/MoveGraph" = some m.cls := findClass_of_methodNamed Bd.named
  have hnm := (name_of_methodNamed Bd.named Bd.method).1
  have X0 : Stand p l e ({ frames := 1, cells := 2, slots := 6, locals := 14 } : Room) s m #[(.ref a1), (.ref a2), (.ref a3)] below meth c s₁ [] 0 0 := Stand.of_body Bd
  have e0 : s₁.heap = h0 := by rw [← hh, Bd.state]; rfl
  have N0 := Fr.nil n0
  refine own_start (fun t k => castTop (ef_3_n2 m a1 a2 a3) k) ?_
  show own_G p.tables e below _ (s₁.setTop (mkF m 0 #[rv a1, rv a2, rv a3, .unset, .unset, .unset, .unset, .unset, .unset] []))
  refine own_step (fun t k => XS.aloadN X0.here hx rfl (hb hby d3_0) rfl rfl k) ?_
  refine own_step (fun t k => XS.astoreN X0.here hx rfl (hb hby d3_1) rfl rfl (l' := #[rv a1, rv a2, rv a3, rv a1, .unset, .unset, .unset, .unset, .unset]) rfl k) ?_
  refine own_step (fun t k => XS.aloadN X0.here hx rfl (hb hby d3_2) rfl rfl k) ?_
  refine own_step (own_lenI X0 hx hZ e0 fp0 (g := (mkF m 3 #[rv a1, rv a2, rv a3, rv a1, .unset, .unset, .unset, .unset, .unset] [(.ref a1)])) rfl rfl (hb hby d3_3)) ?_
  show own_G p.tables e below _ (s₁.setTop (mkF m 4 #[rv a1, rv a2, rv a3, rv a1, .unset, .unset, .unset, .unset, .unset] [(.int (2 : Int32))]))
  refine own_step (fun t k => XS.istore X0.here hx rfl (hb hby d3_4) rfl (l' := #[rv a1, rv a2, rv a3, rv a1, iv (2 : Int32), .unset, .unset, .unset, .unset]) rfl k) ?_
  refine own_step (fun t k => XS.iconst X0.here hx rfl (hb hby d3_6) k) ?_
  refine own_step (fun t k => XS.istore X0.here hx rfl (hb hby d3_7) rfl (l' := #[rv a1, rv a2, rv a3, rv a1, iv (2 : Int32), iv (0 : Int32), .unset, .unset, .unset]) rfl k) ?_
  refine own_step (fun t k => XS.iload X0.here hx rfl (hb hby d3_9) rfl k) ?_
  show own_G p.tables e below _ (s₁.setTop (mkF m 11 #[rv a1, rv a2, rv a3, rv a1, iv (2 : Int32), iv (0 : Int32), .unset, .unset, .unset] [(.int (0 : Int32))]))
  refine own_step (fun t k => XS.iload X0.here hx rfl (hb hby d3_11) rfl k) ?_
  have hk1 : (0 : Int32) < (2 : Int32) := (by decide)
  refine own_step (fun t k => XS.icmpNo X0.here hx rfl (hb hby d3_13) rfl ((tlt hk1).2.1) k) ?_
  show own_G p.tables e below _ (s₁.setTop (mkF m 16 #[rv a1, rv a2, rv a3, rv a1, iv (2 : Int32), iv (0 : Int32), .unset, .unset, .unset] []))
  refine own_step (fun t k => XS.aloadN X0.here hx rfl (hb hby d3_16) rfl rfl k) ?_
  refine own_step (fun t k => XS.iload X0.here hx rfl (hb hby d3_17) rfl k) ?_
  refine own_step (own_iaload X0 hx hZ e0 fp0 (own_inb (by decide) (Nat.le_of_ble_eq_true rfl)) (g := (mkF m 19 #[rv a1, rv a2, rv a3, rv a1, iv (2 : Int32), iv (0 : Int32), .unset, .unset, .unset] [(.int (0 : Int32)), (.ref a1)])) rfl rfl (hb hby d3_19)) ?_
  refine own_step (fun t k => XS.istore X0.here hx rfl (hb hby d3_20) rfl (l' := #[rv a1, rv a2, rv a3, rv a1, iv (2 : Int32), iv (0 : Int32), iv x0, .unset, .unset]) rfl k) ?_
  show own_G p.tables e below _ (s₁.setTop (mkF m 22 #[rv a1, rv a2, rv a3, rv a1, iv (2 : Int32), iv (0 : Int32), iv x0, .unset, .unset] []))
  refine own_step (fun t k => XS.aloadN X0.here hx rfl (hb hby d3_22) rfl rfl k) ?_
  refine own_step (fun t k => XS.aloadN X0.here hx rfl (hb hby d3_23) rfl rfl k) ?_
  refine own_step (fun t k => XS.iload X0.here hx rfl (hb hby d3_24) rfl k) ?_
  refine own_step (own_iaload X0 hx hZ e0 fp1 (own_i4 hx0 rfl) (g := (mkF m 26 #[rv a1, rv a2, rv a3, rv a1, iv (2 : Int32), iv (0 : Int32), iv x0, .unset, .unset] [(.int x0), (.ref a2), (.ref a3)])) rfl rfl (hb hby d3_26)) ?_
  show own_G p.tables e below _ (s₁.setTop (mkF m 27 #[rv a1, rv a2, rv a3, rv a1, iv (2 : Int32), iv (0 : Int32), iv x0, .unset, .unset] [(.int ([kv0, kv1, kv2, kv3].getD x0.toNatClampNeg 0)), (.ref a3)]))
  show own_G p.tables e below _ (s₁.setTop (mkF m 27 #[rv a1, rv a2, rv a3, rv a1, iv (2 : Int32), iv (0 : Int32), iv x0, .unset, .unset] [(.int ([kv0, kv1, kv2, kv3].getD x0.toNatClampNeg 0)), (.ref a3)]))
  rw [hky0]
  show own_G p.tables e below _ (s₁.setTop (mkF m 27 #[rv a1, rv a2, rv a3, rv a1, iv (2 : Int32), iv (0 : Int32), iv x0, .unset, .unset] [(.int kk0), (.ref a3)]))
  refine own_step (fun t k => XS.iconst X0.here hx rfl (hb hby d3_27) k) ?_
  refine own_step (fun t k => XS.iadd X0.here hx rfl (hb hby d3_28) rfl k) ?_
  refine own_step (B := s₁.setTop (mkF m 30 #[rv a1, rv a2, rv a3, rv a1, iv (2 : Int32), iv (0 : Int32), iv x0, .unset, .unset] [(.int (kk0 + (1 : Int32))), (.ref a3), (.int (kk0 + (1 : Int32))), (.ref a3)])) (fun t k => by
    jvm_step X0.here [X0.here.top, hx, (hb hby d3_29), Value.category]
    exact k) ?_
  refine own_step (own_iaload X0 hx hZ e0 fp2 (own_i3' h30 (by first | (simp only [own_inc_len, own_pre_len, own_s0_len, own_s1_len, own_s2_len, own_s3_len, own_s4_len]; done) | (simp only [own_inc_len, own_pre_len, own_s0_len, own_s1_len, own_s2_len, own_s3_len, own_s4_len]; rfl) | rfl)) (g := (mkF m 30 #[rv a1, rv a2, rv a3, rv a1, iv (2 : Int32), iv (0 : Int32), iv x0, .unset, .unset] [(.int (kk0 + (1 : Int32))), (.ref a3), (.int (kk0 + (1 : Int32))), (.ref a3)])) rfl rfl (hb hby d3_30)) ?_
  show own_G p.tables e below _ (s₁.setTop (mkF m 31 #[rv a1, rv a2, rv a3, rv a1, iv (2 : Int32), iv (0 : Int32), iv x0, .unset, .unset] [(.int ([(0 : Int32), (0 : Int32), (0 : Int32), (0 : Int32)].getD (kk0 + (1 : Int32)).toNatClampNeg 0)), (.int (kk0 + (1 : Int32))), (.ref a3)]))
  refine own_step (fun t k => XS.iconst X0.here hx rfl (hb hby d3_31) k) ?_
  refine own_step (fun t k => XS.iadd X0.here hx rfl (hb hby d3_32) rfl k) ?_
  obtain ⟨T2, h2, X2, e2, W2, c2, st2⟩ := own_iastore X0 hx hZ e0 fp2 (own_i3' h30 (by first | (simp only [own_inc_len, own_pre_len, own_s0_len, own_s1_len, own_s2_len, own_s3_len, own_s4_len]; done) | (simp only [own_inc_len, own_pre_len, own_s0_len, own_s1_len, own_s2_len, own_s3_len, own_s4_len]; rfl) | rfl)) (g := (mkF m 33 #[rv a1, rv a2, rv a3, rv a1, iv (2 : Int32), iv (0 : Int32), iv x0, .unset, .unset] [(.int (([(0 : Int32), (0 : Int32), (0 : Int32), (0 : Int32)].getD (kk0 + (1 : Int32)).toNatClampNeg 0) + (1 : Int32))), (.int (kk0 + (1 : Int32))), (.ref a3)])) rfl rfl (hb hby d3_33)
  have N2 := Fr.snoc X2 N0 g_a3
  have c3 : own_Ari Z h2 a3 .int ([(0 : Int32), (0 : Int32), (0 : Int32), (0 : Int32)].set (kk0 + (1 : Int32)).toNatClampNeg (([(0 : Int32), (0 : Int32), (0 : Int32), (0 : Int32)].getD (kk0 + (1 : Int32)).toNatClampNeg 0) + (1 : Int32))) := c2
  have c4 : own_Ari Z h2 a1 .int [x0, x1] := fp0.other W2 ne_a1_a3
  have c5 : own_Ari Z h2 a2 .int [kv0, kv1, kv2, kv3] := fp1.other W2 ne_a2_a3
  have c7 : Exa Z h2 a3 "[I" := fp3.wr W2
  have K2 : Keep h0 h2 [a3] := (Keep.refl h0 [a3]).wr W2 (Or.inl (List.mem_of_getElem? (i := 0) rfl))
  refine own_step st2 ?_
  have c8 : own_Ari Z h2 a3 .int (own_inc [(0 : Int32), (0 : Int32), (0 : Int32), (0 : Int32)] (kk0 + (1 : Int32))) := c3
  refine own_step (fun t k => XS.iinc X2.here hx rfl (hb hby d3_34) rfl (l' := #[rv a1, rv a2, rv a3, rv a1, iv (2 : Int32), iv (1 : Int32), iv x0, .unset, .unset]) rfl k) ?_
  show own_G p.tables e below _ (T2.setTop (mkF m 37 #[rv a1, rv a2, rv a3, rv a1, iv (2 : Int32), iv (1 : Int32), iv x0, .unset, .unset] []))
  refine own_step (fun t k => XS.goto X2.here hx rfl (pc0 := 37) (pc' := 9) rfl (hb hby d3_37) (by decide) (by decide) k) ?_
  refine own_step (fun t k => XS.iload X2.here hx rfl (hb hby d3_9) rfl k) ?_
  refine own_step (fun t k => XS.iload X2.here hx rfl (hb hby d3_11) rfl k) ?_
  have hk9 : (1 : Int32) < (2 : Int32) := (by decide)
  refine own_step (fun t k => XS.icmpNo X2.here hx rfl (hb hby d3_13) rfl ((tlt hk9).2.1) k) ?_
  show own_G p.tables e below _ (T2.setTop (mkF m 16 #[rv a1, rv a2, rv a3, rv a1, iv (2 : Int32), iv (1 : Int32), iv x0, .unset, .unset] []))
  refine own_step (fun t k => XS.aloadN X2.here hx rfl (hb hby d3_16) rfl rfl k) ?_
  refine own_step (fun t k => XS.iload X2.here hx rfl (hb hby d3_17) rfl k) ?_
  refine own_step (own_iaload X2 hx hZ e2 c4 (own_inb (by decide) (Nat.le_of_ble_eq_true rfl)) (g := (mkF m 19 #[rv a1, rv a2, rv a3, rv a1, iv (2 : Int32), iv (1 : Int32), iv x0, .unset, .unset] [(.int (1 : Int32)), (.ref a1)])) rfl rfl (hb hby d3_19)) ?_
  refine own_step (fun t k => XS.istore X2.here hx rfl (hb hby d3_20) rfl (l' := #[rv a1, rv a2, rv a3, rv a1, iv (2 : Int32), iv (1 : Int32), iv x1, .unset, .unset]) rfl k) ?_
  show own_G p.tables e below _ (T2.setTop (mkF m 22 #[rv a1, rv a2, rv a3, rv a1, iv (2 : Int32), iv (1 : Int32), iv x1, .unset, .unset] []))
  refine own_step (fun t k => XS.aloadN X2.here hx rfl (hb hby d3_22) rfl rfl k) ?_
  refine own_step (fun t k => XS.aloadN X2.here hx rfl (hb hby d3_23) rfl rfl k) ?_
  refine own_step (fun t k => XS.iload X2.here hx rfl (hb hby d3_24) rfl k) ?_
  refine own_step (own_iaload X2 hx hZ e2 c5 (own_i4 hx1 rfl) (g := (mkF m 26 #[rv a1, rv a2, rv a3, rv a1, iv (2 : Int32), iv (1 : Int32), iv x1, .unset, .unset] [(.int x1), (.ref a2), (.ref a3)])) rfl rfl (hb hby d3_26)) ?_
  show own_G p.tables e below _ (T2.setTop (mkF m 27 #[rv a1, rv a2, rv a3, rv a1, iv (2 : Int32), iv (1 : Int32), iv x1, .unset, .unset] [(.int ([kv0, kv1, kv2, kv3].getD x1.toNatClampNeg 0)), (.ref a3)]))
  show own_G p.tables e below _ (T2.setTop (mkF m 27 #[rv a1, rv a2, rv a3, rv a1, iv (2 : Int32), iv (1 : Int32), iv x1, .unset, .unset] [(.int ([kv0, kv1, kv2, kv3].getD x1.toNatClampNeg 0)), (.ref a3)]))
  rw [hky1]
  show own_G p.tables e below _ (T2.setTop (mkF m 27 #[rv a1, rv a2, rv a3, rv a1, iv (2 : Int32), iv (1 : Int32), iv x1, .unset, .unset] [(.int kk1), (.ref a3)]))
  refine own_step (fun t k => XS.iconst X2.here hx rfl (hb hby d3_27) k) ?_
  refine own_step (fun t k => XS.iadd X2.here hx rfl (hb hby d3_28) rfl k) ?_
  refine own_step (B := T2.setTop (mkF m 30 #[rv a1, rv a2, rv a3, rv a1, iv (2 : Int32), iv (1 : Int32), iv x1, .unset, .unset] [(.int (kk1 + (1 : Int32))), (.ref a3), (.int (kk1 + (1 : Int32))), (.ref a3)])) (fun t k => by
    jvm_step X2.here [X2.here.top, hx, (hb hby d3_29), Value.category]
    exact k) ?_
  refine own_step (own_iaload X2 hx hZ e2 c8 (own_i3' h31 (by first | (simp only [own_inc_len, own_pre_len, own_s0_len, own_s1_len, own_s2_len, own_s3_len, own_s4_len]; done) | (simp only [own_inc_len, own_pre_len, own_s0_len, own_s1_len, own_s2_len, own_s3_len, own_s4_len]; rfl) | rfl)) (g := (mkF m 30 #[rv a1, rv a2, rv a3, rv a1, iv (2 : Int32), iv (1 : Int32), iv x1, .unset, .unset] [(.int (kk1 + (1 : Int32))), (.ref a3), (.int (kk1 + (1 : Int32))), (.ref a3)])) rfl rfl (hb hby d3_30)) ?_
  show own_G p.tables e below _ (T2.setTop (mkF m 31 #[rv a1, rv a2, rv a3, rv a1, iv (2 : Int32), iv (1 : Int32), iv x1, .unset, .unset] [(.int ((own_inc [(0 : Int32), (0 : Int32), (0 : Int32), (0 : Int32)] (kk0 + (1 : Int32))).getD (kk1 + (1 : Int32)).toNatClampNeg 0)), (.int (kk1 + (1 : Int32))), (.ref a3)]))
  refine own_step (fun t k => XS.iconst X2.here hx rfl (hb hby d3_31) k) ?_
  refine own_step (fun t k => XS.iadd X2.here hx rfl (hb hby d3_32) rfl k) ?_
  obtain ⟨T10, h10, X10, e10, W10, c10, st10⟩ := own_iastore X2 hx hZ e2 c8 (own_i3' h31 (by first | (simp only [own_inc_len, own_pre_len, own_s0_len, own_s1_len, own_s2_len, own_s3_len, own_s4_len]; done) | (simp only [own_inc_len, own_pre_len, own_s0_len, own_s1_len, own_s2_len, own_s3_len, own_s4_len]; rfl) | rfl)) (g := (mkF m 33 #[rv a1, rv a2, rv a3, rv a1, iv (2 : Int32), iv (1 : Int32), iv x1, .unset, .unset] [(.int (((own_inc [(0 : Int32), (0 : Int32), (0 : Int32), (0 : Int32)] (kk0 + (1 : Int32))).getD (kk1 + (1 : Int32)).toNatClampNeg 0) + (1 : Int32))), (.int (kk1 + (1 : Int32))), (.ref a3)])) rfl rfl (hb hby d3_33)
  have N10 := Fr.snoc X10 N2 g_a3
  have c11 : own_Ari Z h10 a3 .int ((own_inc [(0 : Int32), (0 : Int32), (0 : Int32), (0 : Int32)] (kk0 + (1 : Int32))).set (kk1 + (1 : Int32)).toNatClampNeg (((own_inc [(0 : Int32), (0 : Int32), (0 : Int32), (0 : Int32)] (kk0 + (1 : Int32))).getD (kk1 + (1 : Int32)).toNatClampNeg 0) + (1 : Int32))) := c10
  have c12 : own_Ari Z h10 a1 .int [x0, x1] := c4.other W10 ne_a1_a3
  have c13 : own_Ari Z h10 a2 .int [kv0, kv1, kv2, kv3] := c5.other W10 ne_a2_a3
  have c15 : Exa Z h10 a3 "[I" := c7.wr W10
  have K10 : Keep h0 h10 [a3] := K2.wr W10 (Or.inl (List.mem_of_getElem? (i := 0) rfl))
  refine own_step st10 ?_
  have c16 : own_Ari Z h10 a3 .int (own_inc (own_inc [(0 : Int32), (0 : Int32), (0 : Int32), (0 : Int32)] (kk0 + (1 : Int32))) (kk1 + (1 : Int32))) := c11
  refine own_step (fun t k => XS.iinc X10.here hx rfl (hb hby d3_34) rfl (l' := #[rv a1, rv a2, rv a3, rv a1, iv (2 : Int32), iv (2 : Int32), iv x1, .unset, .unset]) rfl k) ?_
  clear K2 N2 W10 W2 X2 c10 c11 c2 c3 c4 c5 c7 c8 e2 hk1 hk9 st10 st2
  show own_G p.tables e below _ (T10.setTop (mkF m 37 #[rv a1, rv a2, rv a3, rv a1, iv (2 : Int32), iv (2 : Int32), iv x1, .unset, .unset] []))
  refine own_step (fun t k => XS.goto X10.here hx rfl (pc0 := 37) (pc' := 9) rfl (hb hby d3_37) (by decide) (by decide) k) ?_
  refine own_step (fun t k => XS.iload X10.here hx rfl (hb hby d3_9) rfl k) ?_
  refine own_step (fun t k => XS.iload X10.here hx rfl (hb hby d3_11) rfl k) ?_
  have hk17 : ¬ ((2 : Int32) < (2 : Int32)) := (by decide)
  refine own_step (fun t k => XS.icmpYes X10.here hx rfl (pc0 := 13) (pc' := 40) rfl (hb hby d3_13) rfl ((flt hk17).2.1) (by decide) (by decide) k) ?_
  show own_G p.tables e below _ (T10.setTop (mkF m 40 #[rv a1, rv a2, rv a3, rv a1, iv (2 : Int32), iv (2 : Int32), iv x1, .unset, .unset] []))
  refine own_step (fun t k => XS.iconst X10.here hx rfl (hb hby d3_40) k) ?_
  refine own_step (fun t k => XS.istoreN X10.here hx rfl (hb hby d3_41) rfl (l' := #[rv a1, rv a2, rv a3, iv (0 : Int32), iv (2 : Int32), iv (2 : Int32), iv x1, .unset, .unset]) rfl k) ?_
  refine own_step (fun t k => XS.iloadN X10.here hx rfl (hb hby d3_42) rfl k) ?_
  refine own_step (fun t k => XS.aloadN X10.here hx rfl (hb hby d3_43) rfl rfl k) ?_
  show own_G p.tables e below _ (T10.setTop (mkF m 44 #[rv a1, rv a2, rv a3, iv (0 : Int32), iv (2 : Int32), iv (2 : Int32), iv x1, .unset, .unset] [(.ref a3), (.int (0 : Int32))]))
  refine own_step (own_lenI X10 hx hZ e10 c16 (g := (mkF m 44 #[rv a1, rv a2, rv a3, iv (0 : Int32), iv (2 : Int32), iv (2 : Int32), iv x1, .unset, .unset] [(.ref a3), (.int (0 : Int32))])) rfl rfl (hb hby d3_44)) ?_
  show own_G p.tables e below _ (T10.setTop (mkF m 45 #[rv a1, rv a2, rv a3, iv (0 : Int32), iv (2 : Int32), iv (2 : Int32), iv x1, .unset, .unset] [(.int ((own_inc (own_inc [(0 : Int32), (0 : Int32), (0 : Int32), (0 : Int32)] (kk0 + (1 : Int32))) (kk1 + (1 : Int32))).length.toInt32)), (.int (0 : Int32))]))
  rw [show ((own_inc (own_inc [(0 : Int32), (0 : Int32), (0 : Int32), (0 : Int32)] (kk0 + (1 : Int32))) (kk1 + (1 : Int32))).length.toInt32) = (4 : Int32) from by simp only [own_inc_len, own_pre_len]; rfl]
  show own_G p.tables e below _ (T10.setTop (mkF m 45 #[rv a1, rv a2, rv a3, iv (0 : Int32), iv (2 : Int32), iv (2 : Int32), iv x1, .unset, .unset] [(.int (4 : Int32)), (.int (0 : Int32))]))
  refine own_step (fun t k => XS.iconst X10.here hx rfl (hb hby d3_45) k) ?_
  refine own_step (fun t k => XS.isub X10.here hx rfl (hb hby d3_46) rfl k) ?_
  have hk18 : (0 : Int32) < (3 : Int32) := (by decide)
  refine own_step (fun t k => XS.icmpNo X10.here hx rfl (hb hby d3_47) rfl ((tlt hk18).2.1) k) ?_
  show own_G p.tables e below _ (T10.setTop (mkF m 50 #[rv a1, rv a2, rv a3, iv (0 : Int32), iv (2 : Int32), iv (2 : Int32), iv x1, .unset, .unset] []))
  refine own_step (fun t k => XS.aloadN X10.here hx rfl (hb hby d3_50) rfl rfl k) ?_
  refine own_step (fun t k => XS.iloadN X10.here hx rfl (hb hby d3_51) rfl k) ?_
  refine own_step (fun t k => XS.iconst X10.here hx rfl (hb hby d3_52) k) ?_
  refine own_step (fun t k => XS.iadd X10.here hx rfl (hb hby d3_53) rfl k) ?_
  show own_G p.tables e below _ (T10.setTop (mkF m 54 #[rv a1, rv a2, rv a3, iv (0 : Int32), iv (2 : Int32), iv (2 : Int32), iv x1, .unset, .unset] [(.int (1 : Int32)), (.ref a3)]))
  refine own_step (B := T10.setTop (mkF m 55 #[rv a1, rv a2, rv a3, iv (0 : Int32), iv (2 : Int32), iv (2 : Int32), iv x1, .unset, .unset] [(.int (1 : Int32)), (.ref a3), (.int (1 : Int32)), (.ref a3)])) (fun t k => by
    jvm_step X10.here [X10.here.top, hx, (hb hby d3_54), Value.category]
    exact k) ?_
  refine own_step (own_iaload X10 hx hZ e10 c16 (own_setL (n := 4) (by first | (simp only [own_inc_len, own_pre_len, own_s0_len, own_s1_len, own_s2_len, own_s3_len, own_s4_len]; done) | (simp only [own_inc_len, own_pre_len, own_s0_len, own_s1_len, own_s2_len, own_s3_len, own_s4_len]; rfl) | rfl) (own_inb (by decide) (by decide))) (g := (mkF m 55 #[rv a1, rv a2, rv a3, iv (0 : Int32), iv (2 : Int32), iv (2 : Int32), iv x1, .unset, .unset] [(.int (1 : Int32)), (.ref a3), (.int (1 : Int32)), (.ref a3)])) rfl rfl (hb hby d3_55)) ?_
  refine own_step (fun t k => XS.aloadN X10.here hx rfl (hb hby d3_56) rfl rfl k) ?_
  refine own_step (fun t k => XS.iloadN X10.here hx rfl (hb hby d3_57) rfl k) ?_
  show own_G p.tables e below _ (T10.setTop (mkF m 58 #[rv a1, rv a2, rv a3, iv (0 : Int32), iv (2 : Int32), iv (2 : Int32), iv x1, .unset, .unset] [(.int (0 : Int32)), (.ref a3), (.int ((own_inc (own_inc [(0 : Int32), (0 : Int32), (0 : Int32), (0 : Int32)] (kk0 + (1 : Int32))) (kk1 + (1 : Int32))).getD 1 0)), (.int (1 : Int32)), (.ref a3)]))
  refine own_step (own_iaload X10 hx hZ e10 c16 (own_setL (n := 4) (by first | (simp only [own_inc_len, own_pre_len, own_s0_len, own_s1_len, own_s2_len, own_s3_len, own_s4_len]; done) | (simp only [own_inc_len, own_pre_len, own_s0_len, own_s1_len, own_s2_len, own_s3_len, own_s4_len]; rfl) | rfl) (own_inb (by decide) (by decide))) (g := (mkF m 58 #[rv a1, rv a2, rv a3, iv (0 : Int32), iv (2 : Int32), iv (2 : Int32), iv x1, .unset, .unset] [(.int (0 : Int32)), (.ref a3), (.int ((own_inc (own_inc [(0 : Int32), (0 : Int32), (0 : Int32), (0 : Int32)] (kk0 + (1 : Int32))) (kk1 + (1 : Int32))).getD 1 0)), (.int (1 : Int32)), (.ref a3)])) rfl rfl (hb hby d3_58)) ?_
  refine own_step (fun t k => XS.iadd X10.here hx rfl (hb hby d3_59) rfl k) ?_
  obtain ⟨T19, h19, X19, e19, W19, c19, st19⟩ := own_iastore X10 hx hZ e10 c16 (own_setL (n := 4) (by first | (simp only [own_inc_len, own_pre_len, own_s0_len, own_s1_len, own_s2_len, own_s3_len, own_s4_len]; done) | (simp only [own_inc_len, own_pre_len, own_s0_len, own_s1_len, own_s2_len, own_s3_len, own_s4_len]; rfl) | rfl) (own_inb (by decide) (by decide))) (g := (mkF m 60 #[rv a1, rv a2, rv a3, iv (0 : Int32), iv (2 : Int32), iv (2 : Int32), iv x1, .unset, .unset] [(.int (((own_inc (own_inc [(0 : Int32), (0 : Int32), (0 : Int32), (0 : Int32)] (kk0 + (1 : Int32))) (kk1 + (1 : Int32))).getD 1 0) + ((own_inc (own_inc [(0 : Int32), (0 : Int32), (0 : Int32), (0 : Int32)] (kk0 + (1 : Int32))) (kk1 + (1 : Int32))).getD 0 0))), (.int (1 : Int32)), (.ref a3)])) rfl rfl (hb hby d3_60)
  have N19 := Fr.snoc X19 N10 g_a3
  have c20 : own_Ari Z h19 a3 .int ((own_inc (own_inc [(0 : Int32), (0 : Int32), (0 : Int32), (0 : Int32)] (kk0 + (1 : Int32))) (kk1 + (1 : Int32))).set 1 (((own_inc (own_inc [(0 : Int32), (0 : Int32), (0 : Int32), (0 : Int32)] (kk0 + (1 : Int32))) (kk1 + (1 : Int32))).getD 1 0) + ((own_inc (own_inc [(0 : Int32), (0 : Int32), (0 : Int32), (0 : Int32)] (kk0 + (1 : Int32))) (kk1 + (1 : Int32))).getD 0 0))) := c19
  have c21 : own_Ari Z h19 a1 .int [x0, x1] := c12.other W19 ne_a1_a3
  have c22 : own_Ari Z h19 a2 .int [kv0, kv1, kv2, kv3] := c13.other W19 ne_a2_a3
  have c24 : Exa Z h19 a3 "[I" := c15.wr W19
  have K19 : Keep h0 h19 [a3] := K10.wr W19 (Or.inl (List.mem_of_getElem? (i := 0) rfl))
  refine own_step st19 ?_
  have c25 : own_Ari Z h19 a3 .int (own_pre (own_inc (own_inc [(0 : Int32), (0 : Int32), (0 : Int32), (0 : Int32)] (kk0 + (1 : Int32))) (kk1 + (1 : Int32))) 0) := c20
  refine own_step (fun t k => XS.iinc X19.here hx rfl (hb hby d3_61) rfl (l' := #[rv a1, rv a2, rv a3, iv (1 : Int32), iv (2 : Int32), iv (2 : Int32), iv x1, .unset, .unset]) rfl k) ?_
  clear K10 N10 W19 X10 c12 c13 c15 c16 c19 c20 e10 hk17 hk18 st19
  show own_G p.tables e below _ (T19.setTop (mkF m 64 #[rv a1, rv a2, rv a3, iv (1 : Int32), iv (2 : Int32), iv (2 : Int32), iv x1, .unset, .unset] []))
  refine own_step (fun t k => XS.goto X19.here hx rfl (pc0 := 64) (pc' := 42) rfl (hb hby d3_64) (by decide) (by decide) k) ?_
  refine own_step (fun t k => XS.iloadN X19.here hx rfl (hb hby d3_42) rfl k) ?_
  refine own_step (fun t k => XS.aloadN X19.here hx rfl (hb hby d3_43) rfl rfl k) ?_
  refine own_step (own_lenI X19 hx hZ e19 c25 (g := (mkF m 44 #[rv a1, rv a2, rv a3, iv (1 : Int32), iv (2 : Int32), iv (2 : Int32), iv x1, .unset, .unset] [(.ref a3), (.int (1 : Int32))])) rfl rfl (hb hby d3_44)) ?_
  show own_G p.tables e below _ (T19.setTop (mkF m 45 #[rv a1, rv a2, rv a3, iv (1 : Int32), iv (2 : Int32), iv (2 : Int32), iv x1, .unset, .unset] [(.int ((own_pre (own_inc (own_inc [(0 : Int32), (0 : Int32), (0 : Int32), (0 : Int32)] (kk0 + (1 : Int32))) (kk1 + (1 : Int32))) 0).length.toInt32)), (.int (1 : Int32))]))
  show own_G p.tables e below _ (T19.setTop (mkF m 45 #[rv a1, rv a2, rv a3, iv (1 : Int32), iv (2 : Int32), iv (2 : Int32), iv x1, .unset, .unset] [(.int ((own_pre (own_inc (own_inc [(0 : Int32), (0 : Int32), (0 : Int32), (0 : Int32)] (kk0 + (1 : Int32))) (kk1 + (1 : Int32))) 0).length.toInt32)), (.int (1 : Int32))]))
  rw [show ((own_pre (own_inc (own_inc [(0 : Int32), (0 : Int32), (0 : Int32), (0 : Int32)] (kk0 + (1 : Int32))) (kk1 + (1 : Int32))) 0).length.toInt32) = (4 : Int32) from by simp only [own_inc_len, own_pre_len]; rfl]
  show own_G p.tables e below _ (T19.setTop (mkF m 45 #[rv a1, rv a2, rv a3, iv (1 : Int32), iv (2 : Int32), iv (2 : Int32), iv x1, .unset, .unset] [(.int (4 : Int32)), (.int (1 : Int32))]))
  refine own_step (fun t k => XS.iconst X19.here hx rfl (hb hby d3_45) k) ?_
  refine own_step (fun t k => XS.isub X19.here hx rfl (hb hby d3_46) rfl k) ?_
  have hk26 : (1 : Int32) < (3 : Int32) := (by decide)
  refine own_step (fun t k => XS.icmpNo X19.here hx rfl (hb hby d3_47) rfl ((tlt hk26).2.1) k) ?_
  show own_G p.tables e below _ (T19.setTop (mkF m 50 #[rv a1, rv a2, rv a3, iv (1 : Int32), iv (2 : Int32), iv (2 : Int32), iv x1, .unset, .unset] []))
  refine own_step (fun t k => XS.aloadN X19.here hx rfl (hb hby d3_50) rfl rfl k) ?_
  refine own_step (fun t k => XS.iloadN X19.here hx rfl (hb hby d3_51) rfl k) ?_
  refine own_step (fun t k => XS.iconst X19.here hx rfl (hb hby d3_52) k) ?_
  refine own_step (fun t k => XS.iadd X19.here hx rfl (hb hby d3_53) rfl k) ?_
  show own_G p.tables e below _ (T19.setTop (mkF m 54 #[rv a1, rv a2, rv a3, iv (1 : Int32), iv (2 : Int32), iv (2 : Int32), iv x1, .unset, .unset] [(.int (2 : Int32)), (.ref a3)]))
  refine own_step (B := T19.setTop (mkF m 55 #[rv a1, rv a2, rv a3, iv (1 : Int32), iv (2 : Int32), iv (2 : Int32), iv x1, .unset, .unset] [(.int (2 : Int32)), (.ref a3), (.int (2 : Int32)), (.ref a3)])) (fun t k => by
    jvm_step X19.here [X19.here.top, hx, (hb hby d3_54), Value.category]
    exact k) ?_
  refine own_step (own_iaload X19 hx hZ e19 c25 (own_setL (n := 4) (by first | (simp only [own_inc_len, own_pre_len, own_s0_len, own_s1_len, own_s2_len, own_s3_len, own_s4_len]; done) | (simp only [own_inc_len, own_pre_len, own_s0_len, own_s1_len, own_s2_len, own_s3_len, own_s4_len]; rfl) | rfl) (own_inb (by decide) (by decide))) (g := (mkF m 55 #[rv a1, rv a2, rv a3, iv (1 : Int32), iv (2 : Int32), iv (2 : Int32), iv x1, .unset, .unset] [(.int (2 : Int32)), (.ref a3), (.int (2 : Int32)), (.ref a3)])) rfl rfl (hb hby d3_55)) ?_
  refine own_step (fun t k => XS.aloadN X19.here hx rfl (hb hby d3_56) rfl rfl k) ?_
  refine own_step (fun t k => XS.iloadN X19.here hx rfl (hb hby d3_57) rfl k) ?_
  show own_G p.tables e below _ (T19.setTop (mkF m 58 #[rv a1, rv a2, rv a3, iv (1 : Int32), iv (2 : Int32), iv (2 : Int32), iv x1, .unset, .unset] [(.int (1 : Int32)), (.ref a3), (.int ((own_pre (own_inc (own_inc [(0 : Int32), (0 : Int32), (0 : Int32), (0 : Int32)] (kk0 + (1 : Int32))) (kk1 + (1 : Int32))) 0).getD 2 0)), (.int (2 : Int32)), (.ref a3)]))
  refine own_step (own_iaload X19 hx hZ e19 c25 (own_setL (n := 4) (by first | (simp only [own_inc_len, own_pre_len, own_s0_len, own_s1_len, own_s2_len, own_s3_len, own_s4_len]; done) | (simp only [own_inc_len, own_pre_len, own_s0_len, own_s1_len, own_s2_len, own_s3_len, own_s4_len]; rfl) | rfl) (own_inb (by decide) (by decide))) (g := (mkF m 58 #[rv a1, rv a2, rv a3, iv (1 : Int32), iv (2 : Int32), iv (2 : Int32), iv x1, .unset, .unset] [(.int (1 : Int32)), (.ref a3), (.int ((own_pre (own_inc (own_inc [(0 : Int32), (0 : Int32), (0 : Int32), (0 : Int32)] (kk0 + (1 : Int32))) (kk1 + (1 : Int32))) 0).getD 2 0)), (.int (2 : Int32)), (.ref a3)])) rfl rfl (hb hby d3_58)) ?_
  refine own_step (fun t k => XS.iadd X19.here hx rfl (hb hby d3_59) rfl k) ?_
  obtain ⟨T27, h27, X27, e27, W27, c27, st27⟩ := own_iastore X19 hx hZ e19 c25 (own_setL (n := 4) (by first | (simp only [own_inc_len, own_pre_len, own_s0_len, own_s1_len, own_s2_len, own_s3_len, own_s4_len]; done) | (simp only [own_inc_len, own_pre_len, own_s0_len, own_s1_len, own_s2_len, own_s3_len, own_s4_len]; rfl) | rfl) (own_inb (by decide) (by decide))) (g := (mkF m 60 #[rv a1, rv a2, rv a3, iv (1 : Int32), iv (2 : Int32), iv (2 : Int32), iv x1, .unset, .unset] [(.int (((own_pre (own_inc (own_inc [(0 : Int32), (0 : Int32), (0 : Int32), (0 : Int32)] (kk0 + (1 : Int32))) (kk1 + (1 : Int32))) 0).getD 2 0) + ((own_pre (own_inc (own_inc [(0 : Int32), (0 : Int32), (0 : Int32), (0 : Int32)] (kk0 + (1 : Int32))) (kk1 + (1 : Int32))) 0).getD 1 0))), (.int (2 : Int32)), (.ref a3)])) rfl rfl (hb hby d3_60)
  have N27 := Fr.snoc X27 N19 g_a3
  have c28 : own_Ari Z h27 a3 .int ((own_pre (own_inc (own_inc [(0 : Int32), (0 : Int32), (0 : Int32), (0 : Int32)] (kk0 + (1 : Int32))) (kk1 + (1 : Int32))) 0).set 2 (((own_pre (own_inc (own_inc [(0 : Int32), (0 : Int32), (0 : Int32), (0 : Int32)] (kk0 + (1 : Int32))) (kk1 + (1 : Int32))) 0).getD 2 0) + ((own_pre (own_inc (own_inc [(0 : Int32), (0 : Int32), (0 : Int32), (0 : Int32)] (kk0 + (1 : Int32))) (kk1 + (1 : Int32))) 0).getD 1 0))) := c27
  have c29 : own_Ari Z h27 a1 .int [x0, x1] := c21.other W27 ne_a1_a3
  have c30 : own_Ari Z h27 a2 .int [kv0, kv1, kv2, kv3] := c22.other W27 ne_a2_a3
  have c32 : Exa Z h27 a3 "[I" := c24.wr W27
  have K27 : Keep h0 h27 [a3] := K19.wr W27 (Or.inl (List.mem_of_getElem? (i := 0) rfl))
  refine own_step st27 ?_
  have c33 : own_Ari Z h27 a3 .int (own_pre (own_pre (own_inc (own_inc [(0 : Int32), (0 : Int32), (0 : Int32), (0 : Int32)] (kk0 + (1 : Int32))) (kk1 + (1 : Int32))) 0) 1) := c28
  refine own_step (fun t k => XS.iinc X27.here hx rfl (hb hby d3_61) rfl (l' := #[rv a1, rv a2, rv a3, iv (2 : Int32), iv (2 : Int32), iv (2 : Int32), iv x1, .unset, .unset]) rfl k) ?_
  clear K19 N19 W27 X19 c21 c22 c24 c25 c27 c28 e19 hk26 st27
  show own_G p.tables e below _ (T27.setTop (mkF m 64 #[rv a1, rv a2, rv a3, iv (2 : Int32), iv (2 : Int32), iv (2 : Int32), iv x1, .unset, .unset] []))
  refine own_step (fun t k => XS.goto X27.here hx rfl (pc0 := 64) (pc' := 42) rfl (hb hby d3_64) (by decide) (by decide) k) ?_
  refine own_step (fun t k => XS.iloadN X27.here hx rfl (hb hby d3_42) rfl k) ?_
  refine own_step (fun t k => XS.aloadN X27.here hx rfl (hb hby d3_43) rfl rfl k) ?_
  refine own_step (own_lenI X27 hx hZ e27 c33 (g := (mkF m 44 #[rv a1, rv a2, rv a3, iv (2 : Int32), iv (2 : Int32), iv (2 : Int32), iv x1, .unset, .unset] [(.ref a3), (.int (2 : Int32))])) rfl rfl (hb hby d3_44)) ?_
  show own_G p.tables e below _ (T27.setTop (mkF m 45 #[rv a1, rv a2, rv a3, iv (2 : Int32), iv (2 : Int32), iv (2 : Int32), iv x1, .unset, .unset] [(.int ((own_pre (own_pre (own_inc (own_inc [(0 : Int32), (0 : Int32), (0 : Int32), (0 : Int32)] (kk0 + (1 : Int32))) (kk1 + (1 : Int32))) 0) 1).length.toInt32)), (.int (2 : Int32))]))
  show own_G p.tables e below _ (T27.setTop (mkF m 45 #[rv a1, rv a2, rv a3, iv (2 : Int32), iv (2 : Int32), iv (2 : Int32), iv x1, .unset, .unset] [(.int ((own_pre (own_pre (own_inc (own_inc [(0 : Int32), (0 : Int32), (0 : Int32), (0 : Int32)] (kk0 + (1 : Int32))) (kk1 + (1 : Int32))) 0) 1).length.toInt32)), (.int (2 : Int32))]))
  rw [show ((own_pre (own_pre (own_inc (own_inc [(0 : Int32), (0 : Int32), (0 : Int32), (0 : Int32)] (kk0 + (1 : Int32))) (kk1 + (1 : Int32))) 0) 1).length.toInt32) = (4 : Int32) from by simp only [own_inc_len, own_pre_len]; rfl]
  show own_G p.tables e below _ (T27.setTop (mkF m 45 #[rv a1, rv a2, rv a3, iv (2 : Int32), iv (2 : Int32), iv (2 : Int32), iv x1, .unset, .unset] [(.int (4 : Int32)), (.int (2 : Int32))]))
  refine own_step (fun t k => XS.iconst X27.here hx rfl (hb hby d3_45) k) ?_
  refine own_step (fun t k => XS.isub X27.here hx rfl (hb hby d3_46) rfl k) ?_
  have hk34 : (2 : Int32) < (3 : Int32) := (by decide)
  refine own_step (fun t k => XS.icmpNo X27.here hx rfl (hb hby d3_47) rfl ((tlt hk34).2.1) k) ?_
  show own_G p.tables e below _ (T27.setTop (mkF m 50 #[rv a1, rv a2, rv a3, iv (2 : Int32), iv (2 : Int32), iv (2 : Int32), iv x1, .unset, .unset] []))
  refine own_step (fun t k => XS.aloadN X27.here hx rfl (hb hby d3_50) rfl rfl k) ?_
  refine own_step (fun t k => XS.iloadN X27.here hx rfl (hb hby d3_51) rfl k) ?_
  refine own_step (fun t k => XS.iconst X27.here hx rfl (hb hby d3_52) k) ?_
  refine own_step (fun t k => XS.iadd X27.here hx rfl (hb hby d3_53) rfl k) ?_
  show own_G p.tables e below _ (T27.setTop (mkF m 54 #[rv a1, rv a2, rv a3, iv (2 : Int32), iv (2 : Int32), iv (2 : Int32), iv x1, .unset, .unset] [(.int (3 : Int32)), (.ref a3)]))
  refine own_step (B := T27.setTop (mkF m 55 #[rv a1, rv a2, rv a3, iv (2 : Int32), iv (2 : Int32), iv (2 : Int32), iv x1, .unset, .unset] [(.int (3 : Int32)), (.ref a3), (.int (3 : Int32)), (.ref a3)])) (fun t k => by
    jvm_step X27.here [X27.here.top, hx, (hb hby d3_54), Value.category]
    exact k) ?_
  refine own_step (own_iaload X27 hx hZ e27 c33 (own_setL (n := 4) (by first | (simp only [own_inc_len, own_pre_len, own_s0_len, own_s1_len, own_s2_len, own_s3_len, own_s4_len]; done) | (simp only [own_inc_len, own_pre_len, own_s0_len, own_s1_len, own_s2_len, own_s3_len, own_s4_len]; rfl) | rfl) (own_inb (by decide) (by decide))) (g := (mkF m 55 #[rv a1, rv a2, rv a3, iv (2 : Int32), iv (2 : Int32), iv (2 : Int32), iv x1, .unset, .unset] [(.int (3 : Int32)), (.ref a3), (.int (3 : Int32)), (.ref a3)])) rfl rfl (hb hby d3_55)) ?_
  refine own_step (fun t k => XS.aloadN X27.here hx rfl (hb hby d3_56) rfl rfl k) ?_
  refine own_step (fun t k => XS.iloadN X27.here hx rfl (hb hby d3_57) rfl k) ?_
  show own_G p.tables e below _ (T27.setTop (mkF m 58 #[rv a1, rv a2, rv a3, iv (2 : Int32), iv (2 : Int32), iv (2 : Int32), iv x1, .unset, .unset] [(.int (2 : Int32)), (.ref a3), (.int ((own_pre (own_pre (own_inc (own_inc [(0 : Int32), (0 : Int32), (0 : Int32), (0 : Int32)] (kk0 + (1 : Int32))) (kk1 + (1 : Int32))) 0) 1).getD 3 0)), (.int (3 : Int32)), (.ref a3)]))
  refine own_step (own_iaload X27 hx hZ e27 c33 (own_setL (n := 4) (by first | (simp only [own_inc_len, own_pre_len, own_s0_len, own_s1_len, own_s2_len, own_s3_len, own_s4_len]; done) | (simp only [own_inc_len, own_pre_len, own_s0_len, own_s1_len, own_s2_len, own_s3_len, own_s4_len]; rfl) | rfl) (own_inb (by decide) (by decide))) (g := (mkF m 58 #[rv a1, rv a2, rv a3, iv (2 : Int32), iv (2 : Int32), iv (2 : Int32), iv x1, .unset, .unset] [(.int (2 : Int32)), (.ref a3), (.int ((own_pre (own_pre (own_inc (own_inc [(0 : Int32), (0 : Int32), (0 : Int32), (0 : Int32)] (kk0 + (1 : Int32))) (kk1 + (1 : Int32))) 0) 1).getD 3 0)), (.int (3 : Int32)), (.ref a3)])) rfl rfl (hb hby d3_58)) ?_
  refine own_step (fun t k => XS.iadd X27.here hx rfl (hb hby d3_59) rfl k) ?_
  obtain ⟨T35, h35, X35, e35, W35, c35, st35⟩ := own_iastore X27 hx hZ e27 c33 (own_setL (n := 4) (by first | (simp only [own_inc_len, own_pre_len, own_s0_len, own_s1_len, own_s2_len, own_s3_len, own_s4_len]; done) | (simp only [own_inc_len, own_pre_len, own_s0_len, own_s1_len, own_s2_len, own_s3_len, own_s4_len]; rfl) | rfl) (own_inb (by decide) (by decide))) (g := (mkF m 60 #[rv a1, rv a2, rv a3, iv (2 : Int32), iv (2 : Int32), iv (2 : Int32), iv x1, .unset, .unset] [(.int (((own_pre (own_pre (own_inc (own_inc [(0 : Int32), (0 : Int32), (0 : Int32), (0 : Int32)] (kk0 + (1 : Int32))) (kk1 + (1 : Int32))) 0) 1).getD 3 0) + ((own_pre (own_pre (own_inc (own_inc [(0 : Int32), (0 : Int32), (0 : Int32), (0 : Int32)] (kk0 + (1 : Int32))) (kk1 + (1 : Int32))) 0) 1).getD 2 0))), (.int (3 : Int32)), (.ref a3)])) rfl rfl (hb hby d3_60)
  have N35 := Fr.snoc X35 N27 g_a3
  have c36 : own_Ari Z h35 a3 .int ((own_pre (own_pre (own_inc (own_inc [(0 : Int32), (0 : Int32), (0 : Int32), (0 : Int32)] (kk0 + (1 : Int32))) (kk1 + (1 : Int32))) 0) 1).set 3 (((own_pre (own_pre (own_inc (own_inc [(0 : Int32), (0 : Int32), (0 : Int32), (0 : Int32)] (kk0 + (1 : Int32))) (kk1 + (1 : Int32))) 0) 1).getD 3 0) + ((own_pre (own_pre (own_inc (own_inc [(0 : Int32), (0 : Int32), (0 : Int32), (0 : Int32)] (kk0 + (1 : Int32))) (kk1 + (1 : Int32))) 0) 1).getD 2 0))) := c35
  have c37 : own_Ari Z h35 a1 .int [x0, x1] := c29.other W35 ne_a1_a3
  have c38 : own_Ari Z h35 a2 .int [kv0, kv1, kv2, kv3] := c30.other W35 ne_a2_a3
  have c40 : Exa Z h35 a3 "[I" := c32.wr W35
  have K35 : Keep h0 h35 [a3] := K27.wr W35 (Or.inl (List.mem_of_getElem? (i := 0) rfl))
  refine own_step st35 ?_
  have c41 : own_Ari Z h35 a3 .int (own_pre (own_pre (own_pre (own_inc (own_inc [(0 : Int32), (0 : Int32), (0 : Int32), (0 : Int32)] (kk0 + (1 : Int32))) (kk1 + (1 : Int32))) 0) 1) 2) := c36
  refine own_step (fun t k => XS.iinc X35.here hx rfl (hb hby d3_61) rfl (l' := #[rv a1, rv a2, rv a3, iv (3 : Int32), iv (2 : Int32), iv (2 : Int32), iv x1, .unset, .unset]) rfl k) ?_
  clear K27 N27 W35 X27 c29 c30 c32 c33 c35 c36 e27 hk34 st35
  show own_G p.tables e below _ (T35.setTop (mkF m 64 #[rv a1, rv a2, rv a3, iv (3 : Int32), iv (2 : Int32), iv (2 : Int32), iv x1, .unset, .unset] []))
  refine own_step (fun t k => XS.goto X35.here hx rfl (pc0 := 64) (pc' := 42) rfl (hb hby d3_64) (by decide) (by decide) k) ?_
  refine own_step (fun t k => XS.iloadN X35.here hx rfl (hb hby d3_42) rfl k) ?_
  refine own_step (fun t k => XS.aloadN X35.here hx rfl (hb hby d3_43) rfl rfl k) ?_
  refine own_step (own_lenI X35 hx hZ e35 c41 (g := (mkF m 44 #[rv a1, rv a2, rv a3, iv (3 : Int32), iv (2 : Int32), iv (2 : Int32), iv x1, .unset, .unset] [(.ref a3), (.int (3 : Int32))])) rfl rfl (hb hby d3_44)) ?_
  show own_G p.tables e below _ (T35.setTop (mkF m 45 #[rv a1, rv a2, rv a3, iv (3 : Int32), iv (2 : Int32), iv (2 : Int32), iv x1, .unset, .unset] [(.int ((own_pre (own_pre (own_pre (own_inc (own_inc [(0 : Int32), (0 : Int32), (0 : Int32), (0 : Int32)] (kk0 + (1 : Int32))) (kk1 + (1 : Int32))) 0) 1) 2).length.toInt32)), (.int (3 : Int32))]))
  show own_G p.tables e below _ (T35.setTop (mkF m 45 #[rv a1, rv a2, rv a3, iv (3 : Int32), iv (2 : Int32), iv (2 : Int32), iv x1, .unset, .unset] [(.int ((own_pre (own_pre (own_pre (own_inc (own_inc [(0 : Int32), (0 : Int32), (0 : Int32), (0 : Int32)] (kk0 + (1 : Int32))) (kk1 + (1 : Int32))) 0) 1) 2).length.toInt32)), (.int (3 : Int32))]))
  rw [show ((own_pre (own_pre (own_pre (own_inc (own_inc [(0 : Int32), (0 : Int32), (0 : Int32), (0 : Int32)] (kk0 + (1 : Int32))) (kk1 + (1 : Int32))) 0) 1) 2).length.toInt32) = (4 : Int32) from by simp only [own_inc_len, own_pre_len]; rfl]
  show own_G p.tables e below _ (T35.setTop (mkF m 45 #[rv a1, rv a2, rv a3, iv (3 : Int32), iv (2 : Int32), iv (2 : Int32), iv x1, .unset, .unset] [(.int (4 : Int32)), (.int (3 : Int32))]))
  refine own_step (fun t k => XS.iconst X35.here hx rfl (hb hby d3_45) k) ?_
  refine own_step (fun t k => XS.isub X35.here hx rfl (hb hby d3_46) rfl k) ?_
  have hk42 : ¬ ((3 : Int32) < (3 : Int32)) := (by decide)
  refine own_step (fun t k => XS.icmpYes X35.here hx rfl (pc0 := 47) (pc' := 67) rfl (hb hby d3_47) rfl ((flt hk42).2.1) (by decide) (by decide) k) ?_
  show own_G p.tables e below _ (T35.setTop (mkF m 67 #[rv a1, rv a2, rv a3, iv (3 : Int32), iv (2 : Int32), iv (2 : Int32), iv x1, .unset, .unset] []))
  have c43 : own_Ari Z h35 a3 .int (own_s2 kk0 kk1) := c41
  refine own_step (fun t k => XS.aloadN X35.here hx rfl (hb hby d3_67) rfl rfl k) ?_
  refine own_step (own_lenI X35 hx hZ e35 c37 (g := (mkF m 68 #[rv a1, rv a2, rv a3, iv (3 : Int32), iv (2 : Int32), iv (2 : Int32), iv x1, .unset, .unset] [(.ref a1)])) rfl rfl (hb hby d3_68)) ?_
  obtain ⟨T44, h44, k44, X44, e44, E44, A44, st44⟩ := newP X35 hx hZ (hw _ (List.mem_of_getElem? (i := 0) rfl)) e35 (g := (mkF m 69 #[rv a1, rv a2, rv a3, iv (3 : Int32), iv (2 : Int32), iv (2 : Int32), iv x1, .unset, .unset] [(.int (2 : Int32))])) rfl (hb hby d3_69) rfl (by decide) (cap := 2) (by decide) (by decide) (by decide) (by decide)
  obtain ⟨b44, g44⟩ : ∃ z, z = h35.size := ⟨_, rfl⟩
  have ne45 : a1 ≠ b44 := Nat.ne_of_lt (Nat.lt_of_lt_of_le c37.lt (Nat.le_of_eq g44.symm))
  have ne46 : a2 ≠ b44 := Nat.ne_of_lt (Nat.lt_of_lt_of_le c38.lt (Nat.le_of_eq g44.symm))
  have ne47 : a3 ≠ b44 := Nat.ne_of_lt (Nat.lt_of_lt_of_le c43.lt (Nat.le_of_eq g44.symm))
  have sz44 : h0.size ≤ b44 := Nat.le_trans K35.1 (Nat.le_of_eq g44.symm)
  have ge44 : n0 ≤ b44 := Nat.le_trans Z0 sz44
  have c48 : own_Ari Z h44 a1 .int [x0, x1] := c37.ext E44
  have c49 : own_Ari Z h44 a2 .int [kv0, kv1, kv2, kv3] := c38.ext E44
  have c50 : own_Ari Z h44 a3 .int (own_s2 kk0 kk1) := c43.ext E44
  have c51 : Exa Z h44 a3 "[I" := c40.ext E44
  have K44 : Keep h0 h44 [a3] := K35.ext E44
  rw [← g44] at A44 st44
  have c52 : own_Ari Z h44 b44 .int [(0 : Int32), (0 : Int32)] := own_Ari_new (ty := .int) A44 (by decide) rfl
  refine own_step st44 ?_
  refine own_step (fun t k => XS.astoreN X44.here hx rfl (hb hby d3_71) rfl rfl (l' := #[rv a1, rv a2, rv a3, rv b44, iv (2 : Int32), iv (2 : Int32), iv x1, .unset, .unset]) rfl k) ?_
  clear A44 E44 K35 X35 c37 c38 c40 c41 c43 e35 g44 hk42 st44
  show own_G p.tables e below _ (T44.setTop (mkF m 72 #[rv a1, rv a2, rv a3, rv b44, iv (2 : Int32), iv (2 : Int32), iv x1, .unset, .unset] []))
  refine own_step (fun t k => XS.aloadN X44.here hx rfl (hb hby d3_72) rfl rfl k) ?_
  obtain ⟨T53, h53, X53, e53, E53, A53, B53, st53⟩ := own_cloneI X44 hx hZ hown (hw _ (List.mem_of_getElem? (i := 12) rfl)) (hw _ (List.mem_of_getElem? (i := 13) rfl)) (hw _ (List.mem_of_getElem? (i := 17) rfl)) (hw _ (List.mem_of_getElem? (i := 15) rfl)) (hw _ (List.mem_of_getElem? (i := 16) rfl)) (hw _ (List.mem_of_getElem? (i := 18) rfl)) e44 c50 c51 (g := (mkF m 73 #[rv a1, rv a2, rv a3, rv b44, iv (2 : Int32), iv (2 : Int32), iv x1, .unset, .unset] [(.ref a3)])) rfl (by rw [hml]; rfl) rfl (hb hby d3_73) (by decide) (W := 0) (cap := 4) (by show 2 * 0 + _ ≤ _; exact Nat.le_of_eq rfl) (by decide) (by rw [own_s2_len]; decide) (by decide) (by decide)
  obtain ⟨b53, g53⟩ : ∃ z, z = h44.size := ⟨_, rfl⟩
  have ne54 : a1 ≠ b53 := Nat.ne_of_lt (Nat.lt_of_lt_of_le c48.lt (Nat.le_of_eq g53.symm))
  have ne55 : a2 ≠ b53 := Nat.ne_of_lt (Nat.lt_of_lt_of_le c49.lt (Nat.le_of_eq g53.symm))
  have ne56 : a3 ≠ b53 := Nat.ne_of_lt (Nat.lt_of_lt_of_le c50.lt (Nat.le_of_eq g53.symm))
  have ne57 : b44 ≠ b53 := Nat.ne_of_lt (Nat.lt_of_lt_of_le c52.lt (Nat.le_of_eq g53.symm))
  have sz53 : h0.size ≤ b53 := Nat.le_trans K44.1 (Nat.le_of_eq g53.symm)
  have ge53 : n0 ≤ b53 := Nat.le_trans Z0 sz53
  have c58 : own_Ari Z h53 a1 .int [x0, x1] := c48.ext E53
  have c59 : own_Ari Z h53 a2 .int [kv0, kv1, kv2, kv3] := c49.ext E53
  have c60 : own_Ari Z h53 a3 .int (own_s2 kk0 kk1) := c50.ext E53
  have c61 : Exa Z h53 a3 "[I" := c51.ext E53
  have c62 : own_Ari Z h53 b44 .int [(0 : Int32), (0 : Int32)] := c52.ext E53
  have K53 : Keep h0 h53 [a3] := K44.ext E53
  rw [← g53] at A53 B53 st53
  refine own_step st53 ?_
  obtain ⟨T63, X63, e63, st63⟩ := castY X53 hx hZ hown (hw _ (List.mem_of_getElem? (i := 19) rfl)) e53 (Ins.self B53) (g := (mkF m 76 #[rv a1, rv a2, rv a3, rv b44, iv (2 : Int32), iv (2 : Int32), iv x1, .unset, .unset] [(.ref b53)])) rfl rfl (hb hby d3_76)
  refine own_step st63 ?_
  refine own_step (fun t k => XS.astore X63.here hx rfl (hb hby d3_79) rfl rfl (l' := #[rv a1, rv a2, rv a3, rv b44, rv b53, iv (2 : Int32), iv x1, .unset, .unset]) rfl k) ?_
  clear E53 K44 X44 X53 c48 c49 c50 c51 c52 e44 e53 g53 st53 st63
  show own_G p.tables e below _ (T63.setTop (mkF m 81 #[rv a1, rv a2, rv a3, rv b44, rv b53, iv (2 : Int32), iv x1, .unset, .unset] []))
  refine own_step (fun t k => XS.aloadN X63.here hx rfl (hb hby d3_81) rfl rfl k) ?_
  refine own_step (fun t k => XS.astore X63.here hx rfl (hb hby d3_82) rfl rfl (l' := #[rv a1, rv a2, rv a3, rv b44, rv b53, rv a1, iv x1, .unset, .unset]) rfl k) ?_
  refine own_step (fun t k => XS.aload X63.here hx rfl (hb hby d3_84) rfl rfl k) ?_
  refine own_step (own_lenI X63 hx hZ e63 c58 (g := (mkF m 86 #[rv a1, rv a2, rv a3, rv b44, rv b53, rv a1, iv x1, .unset, .unset] [(.ref a1)])) rfl rfl (hb hby d3_86)) ?_
  show own_G p.tables e below _ (T63.setTop (mkF m 87 #[rv a1, rv a2, rv a3, rv b44, rv b53, rv a1, iv x1, .unset, .unset] [(.int (2 : Int32))]))
  refine own_step (fun t k => XS.istore X63.here hx rfl (hb hby d3_87) rfl (l' := #[rv a1, rv a2, rv a3, rv b44, rv b53, rv a1, iv (2 : Int32), .unset, .unset]) rfl k) ?_
  refine own_step (fun t k => XS.iconst X63.here hx rfl (hb hby d3_89) k) ?_
  refine own_step (fun t k => XS.istore X63.here hx rfl (hb hby d3_90) rfl (l' := #[rv a1, rv a2, rv a3, rv b44, rv b53, rv a1, iv (2 : Int32), iv (0 : Int32), .unset]) rfl k) ?_
  refine own_step (fun t k => XS.iload X63.here hx rfl (hb hby d3_92) rfl k) ?_
  show own_G p.tables e below _ (T63.setTop (mkF m 94 #[rv a1, rv a2, rv a3, rv b44, rv b53, rv a1, iv (2 : Int32), iv (0 : Int32), .unset] [(.int (0 : Int32))]))
  refine own_step (fun t k => XS.iload X63.here hx rfl (hb hby d3_94) rfl k) ?_
  have hk64 : (0 : Int32) < (2 : Int32) := (by decide)
  refine own_step (fun t k => XS.icmpNo X63.here hx rfl (hb hby d3_96) rfl ((tlt hk64).2.1) k) ?_
  show own_G p.tables e below _ (T63.setTop (mkF m 99 #[rv a1, rv a2, rv a3, rv b44, rv b53, rv a1, iv (2 : Int32), iv (0 : Int32), .unset] []))
  refine own_step (fun t k => XS.aload X63.here hx rfl (hb hby d3_99) rfl rfl k) ?_
  refine own_step (fun t k => XS.iload X63.here hx rfl (hb hby d3_101) rfl k) ?_
  refine own_step (own_iaload X63 hx hZ e63 c58 (own_inb (by decide) (Nat.le_of_ble_eq_true rfl)) (g := (mkF m 103 #[rv a1, rv a2, rv a3, rv b44, rv b53, rv a1, iv (2 : Int32), iv (0 : Int32), .unset] [(.int (0 : Int32)), (.ref a1)])) rfl rfl (hb hby d3_103)) ?_
  refine own_step (fun t k => XS.istore X63.here hx rfl (hb hby d3_104) rfl (l' := #[rv a1, rv a2, rv a3, rv b44, rv b53, rv a1, iv (2 : Int32), iv (0 : Int32), iv x0]) rfl k) ?_
  show own_G p.tables e below _ (T63.setTop (mkF m 106 #[rv a1, rv a2, rv a3, rv b44, rv b53, rv a1, iv (2 : Int32), iv (0 : Int32), iv x0] []))
  refine own_step (fun t k => XS.aloadN X63.here hx rfl (hb hby d3_106) rfl rfl k) ?_
  refine own_step (fun t k => XS.aload X63.here hx rfl (hb hby d3_107) rfl rfl k) ?_
  refine own_step (fun t k => XS.aloadN X63.here hx rfl (hb hby d3_109) rfl rfl k) ?_
  refine own_step (fun t k => XS.iload X63.here hx rfl (hb hby d3_110) rfl k) ?_
  show own_G p.tables e below _ (T63.setTop (mkF m 112 #[rv a1, rv a2, rv a3, rv b44, rv b53, rv a1, iv (2 : Int32), iv (0 : Int32), iv x0] [(.int x0), (.ref a2), (.ref b53), (.ref b44)]))
  refine own_step (own_iaload X63 hx hZ e63 c59 (own_i4 hx0 rfl) (g := (mkF m 112 #[rv a1, rv a2, rv a3, rv b44, rv b53, rv a1, iv (2 : Int32), iv (0 : Int32), iv x0] [(.int x0), (.ref a2), (.ref b53), (.ref b44)])) rfl rfl (hb hby d3_112)) ?_
  show own_G p.tables e below _ (T63.setTop (mkF m 113 #[rv a1, rv a2, rv a3, rv b44, rv b53, rv a1, iv (2 : Int32), iv (0 : Int32), iv x0] [(.int ([kv0, kv1, kv2, kv3].getD x0.toNatClampNeg 0)), (.ref b53), (.ref b44)]))
  rw [hky0]
  show own_G p.tables e below _ (T63.setTop (mkF m 113 #[rv a1, rv a2, rv a3, rv b44, rv b53, rv a1, iv (2 : Int32), iv (0 : Int32), iv x0] [(.int kk0), (.ref b53), (.ref b44)]))
  refine own_step (B := T63.setTop (mkF m 114 #[rv a1, rv a2, rv a3, rv b44, rv b53, rv a1, iv (2 : Int32), iv (0 : Int32), iv x0] [(.int kk0), (.ref b53), (.int kk0), (.ref b53), (.ref b44)])) (fun t k => by
    jvm_step X63.here [X63.here.top, hx, (hb hby d3_113), Value.category]
    exact k) ?_
  refine own_step (own_iaload X63 hx hZ e63 A53 (own_i3 h30 (by first | (simp only [own_inc_len, own_pre_len, own_s0_len, own_s1_len, own_s2_len, own_s3_len, own_s4_len]; done) | (simp only [own_inc_len, own_pre_len, own_s0_len, own_s1_len, own_s2_len, own_s3_len, own_s4_len]; rfl) | rfl)) (g := (mkF m 114 #[rv a1, rv a2, rv a3, rv b44, rv b53, rv a1, iv (2 : Int32), iv (0 : Int32), iv x0] [(.int kk0), (.ref b53), (.int kk0), (.ref b53), (.ref b44)])) rfl rfl (hb hby d3_114)) ?_
  refine own_step (B := T63.setTop (mkF m 116 #[rv a1, rv a2, rv a3, rv b44, rv b53, rv a1, iv (2 : Int32), iv (0 : Int32), iv x0] [(.int ((own_s2 kk0 kk1).getD kk0.toNatClampNeg 0)), (.int kk0), (.ref b53), (.int ((own_s2 kk0 kk1).getD kk0.toNatClampNeg 0)), (.ref b44)])) (fun t k => by
    jvm_step X63.here [X63.here.top, hx, (hb hby d3_115), Value.category]
    exact k) ?_
  refine own_step (fun t k => XS.iconst X63.here hx rfl (hb hby d3_116) k) ?_
  show own_G p.tables e below _ (T63.setTop (mkF m 117 #[rv a1, rv a2, rv a3, rv b44, rv b53, rv a1, iv (2 : Int32), iv (0 : Int32), iv x0] [(.int (1 : Int32)), (.int ((own_s2 kk0 kk1).getD kk0.toNatClampNeg 0)), (.int kk0), (.ref b53), (.int ((own_s2 kk0 kk1).getD kk0.toNatClampNeg 0)), (.ref b44)]))
  refine own_step (fun t k => XS.iadd X63.here hx rfl (hb hby d3_117) rfl k) ?_
  obtain ⟨T65, h65, X65, e65, W65, c65, st65⟩ := own_iastore X63 hx hZ e63 A53 (own_i3 h30 (by first | (simp only [own_inc_len, own_pre_len, own_s0_len, own_s1_len, own_s2_len, own_s3_len, own_s4_len]; done) | (simp only [own_inc_len, own_pre_len, own_s0_len, own_s1_len, own_s2_len, own_s3_len, own_s4_len]; rfl) | rfl)) (g := (mkF m 118 #[rv a1, rv a2, rv a3, rv b44, rv b53, rv a1, iv (2 : Int32), iv (0 : Int32), iv x0] [(.int (((own_s2 kk0 kk1).getD kk0.toNatClampNeg 0) + (1 : Int32))), (.int kk0), (.ref b53), (.int ((own_s2 kk0 kk1).getD kk0.toNatClampNeg 0)), (.ref b44)])) rfl rfl (hb hby d3_118)
  have N65 := Fr.snoc X65 N35 ge53
  have c66 : own_Ari Z h65 b53 .int ((own_s2 kk0 kk1).set kk0.toNatClampNeg (((own_s2 kk0 kk1).getD kk0.toNatClampNeg 0) + (1 : Int32))) := c65
  have c67 : own_Ari Z h65 a1 .int [x0, x1] := c58.other W65 ne54
  have c68 : own_Ari Z h65 a2 .int [kv0, kv1, kv2, kv3] := c59.other W65 ne55
  have c69 : own_Ari Z h65 a3 .int (own_s2 kk0 kk1) := c60.other W65 ne56
  have c70 : Exa Z h65 a3 "[I" := c61.wr W65
  have c71 : own_Ari Z h65 b44 .int [(0 : Int32), (0 : Int32)] := c62.other W65 ne57
  have c73 : Exa Z h65 b53 "[I" := B53.wr W65
  have K65 : Keep h0 h65 [a3] := K53.wr W65 (Or.inr sz53)
  refine own_step st65 ?_
  have c74 : own_Ari Z h65 b53 .int (own_inc (own_s2 kk0 kk1) kk0) := c66
  refine own_step (fun t k => XS.iload X65.here hx rfl (hb hby d3_119) rfl k) ?_
  obtain ⟨T75, h75, X75, e75, W75, c75, st75⟩ := own_iastore X65 hx hZ e65 c71 (own_setL rfl (own_pos2_0 h30 h31)) (g := (mkF m 121 #[rv a1, rv a2, rv a3, rv b44, rv b53, rv a1, iv (2 : Int32), iv (0 : Int32), iv x0] [(.int x0), (.int ((own_s2 kk0 kk1).getD kk0.toNatClampNeg 0)), (.ref b44)])) rfl rfl (hb hby d3_121)
  have N75 := Fr.snoc X75 N65 ge44
  have c76 : own_Ari Z h75 b44 .int ([(0 : Int32), (0 : Int32)].set ((own_s2 kk0 kk1).getD kk0.toNatClampNeg 0).toNatClampNeg x0) := c75
  have c77 : own_Ari Z h75 a1 .int [x0, x1] := c67.other W75 ne45
  have c78 : own_Ari Z h75 a2 .int [kv0, kv1, kv2, kv3] := c68.other W75 ne46
  have c79 : own_Ari Z h75 a3 .int (own_s2 kk0 kk1) := c69.other W75 ne47
  have c80 : Exa Z h75 a3 "[I" := c70.wr W75
  have c82 : own_Ari Z h75 b53 .int (own_inc (own_s2 kk0 kk1) kk0) := c74.other W75 (Ne.symm ne57)
  have c83 : Exa Z h75 b53 "[I" := c73.wr W75
  have K75 : Keep h0 h75 [a3] := K65.wr W75 (Or.inr sz44)
  refine own_step st75 ?_
  clear A53 B53 K53 K65 N35 N65 W65 W75 X63 X65 c58 c59 c60 c61 c62 c65 c66 c67 c68 c69 c70 c71 c73 c74 c75 e63 e65 hk64 st65 st75
  show own_G p.tables e below _ (T75.setTop (mkF m 122 #[rv a1, rv a2, rv a3, rv b44, rv b53, rv a1, iv (2 : Int32), iv (0 : Int32), iv x0] []))
  refine own_step (fun t k => XS.iinc X75.here hx rfl (hb hby d3_122) rfl (l' := #[rv a1, rv a2, rv a3, rv b44, rv b53, rv a1, iv (2 : Int32), iv (1 : Int32), iv x0]) rfl k) ?_
  refine own_step (fun t k => XS.goto X75.here hx rfl (pc0 := 125) (pc' := 92) rfl (hb hby d3_125) (by decide) (by decide) k) ?_
  refine own_step (fun t k => XS.iload X75.here hx rfl (hb hby d3_92) rfl k) ?_
  refine own_step (fun t k => XS.iload X75.here hx rfl (hb hby d3_94) rfl k) ?_
  show own_G p.tables e below _ (T75.setTop (mkF m 96 #[rv a1, rv a2, rv a3, rv b44, rv b53, rv a1, iv (2 : Int32), iv (1 : Int32), iv x0] [(.int (2 : Int32)), (.int (1 : Int32))]))
  have hk84 : (1 : Int32) < (2 : Int32) := (by decide)
  refine own_step (fun t k => XS.icmpNo X75.here hx rfl (hb hby d3_96) rfl ((tlt hk84).2.1) k) ?_
  show own_G p.tables e below _ (T75.setTop (mkF m 99 #[rv a1, rv a2, rv a3, rv b44, rv b53, rv a1, iv (2 : Int32), iv (1 : Int32), iv x0] []))
  refine own_step (fun t k => XS.aload X75.here hx rfl (hb hby d3_99) rfl rfl k) ?_
  refine own_step (fun t k => XS.iload X75.here hx rfl (hb hby d3_101) rfl k) ?_
  refine own_step (own_iaload X75 hx hZ e75 c77 (own_inb (by decide) (Nat.le_of_ble_eq_true rfl)) (g := (mkF m 103 #[rv a1, rv a2, rv a3, rv b44, rv b53, rv a1, iv (2 : Int32), iv (1 : Int32), iv x0] [(.int (1 : Int32)), (.ref a1)])) rfl rfl (hb hby d3_103)) ?_
  refine own_step (fun t k => XS.istore X75.here hx rfl (hb hby d3_104) rfl (l' := #[rv a1, rv a2, rv a3, rv b44, rv b53, rv a1, iv (2 : Int32), iv (1 : Int32), iv x1]) rfl k) ?_
  show own_G p.tables e below _ (T75.setTop (mkF m 106 #[rv a1, rv a2, rv a3, rv b44, rv b53, rv a1, iv (2 : Int32), iv (1 : Int32), iv x1] []))
  refine own_step (fun t k => XS.aloadN X75.here hx rfl (hb hby d3_106) rfl rfl k) ?_
  refine own_step (fun t k => XS.aload X75.here hx rfl (hb hby d3_107) rfl rfl k) ?_
  refine own_step (fun t k => XS.aloadN X75.here hx rfl (hb hby d3_109) rfl rfl k) ?_
  refine own_step (fun t k => XS.iload X75.here hx rfl (hb hby d3_110) rfl k) ?_
  show own_G p.tables e below _ (T75.setTop (mkF m 112 #[rv a1, rv a2, rv a3, rv b44, rv b53, rv a1, iv (2 : Int32), iv (1 : Int32), iv x1] [(.int x1), (.ref a2), (.ref b53), (.ref b44)]))
  refine own_step (own_iaload X75 hx hZ e75 c78 (own_i4 hx1 rfl) (g := (mkF m 112 #[rv a1, rv a2, rv a3, rv b44, rv b53, rv a1, iv (2 : Int32), iv (1 : Int32), iv x1] [(.int x1), (.ref a2), (.ref b53), (.ref b44)])) rfl rfl (hb hby d3_112)) ?_
  show own_G p.tables e below _ (T75.setTop (mkF m 113 #[rv a1, rv a2, rv a3, rv b44, rv b53, rv a1, iv (2 : Int32), iv (1 : Int32), iv x1] [(.int ([kv0, kv1, kv2, kv3].getD x1.toNatClampNeg 0)), (.ref b53), (.ref b44)]))
  rw [hky1]
  show own_G p.tables e below _ (T75.setTop (mkF m 113 #[rv a1, rv a2, rv a3, rv b44, rv b53, rv a1, iv (2 : Int32), iv (1 : Int32), iv x1] [(.int kk1), (.ref b53), (.ref b44)]))
  refine own_step (B := T75.setTop (mkF m 114 #[rv a1, rv a2, rv a3, rv b44, rv b53, rv a1, iv (2 : Int32), iv (1 : Int32), iv x1] [(.int kk1), (.ref b53), (.int kk1), (.ref b53), (.ref b44)])) (fun t k => by
    jvm_step X75.here [X75.here.top, hx, (hb hby d3_113), Value.category]
    exact k) ?_
  refine own_step (own_iaload X75 hx hZ e75 c82 (own_i3 h31 (by first | (simp only [own_inc_len, own_pre_len, own_s0_len, own_s1_len, own_s2_len, own_s3_len, own_s4_len]; done) | (simp only [own_inc_len, own_pre_len, own_s0_len, own_s1_len, own_s2_len, own_s3_len, own_s4_len]; rfl) | rfl)) (g := (mkF m 114 #[rv a1, rv a2, rv a3, rv b44, rv b53, rv a1, iv (2 : Int32), iv (1 : Int32), iv x1] [(.int kk1), (.ref b53), (.int kk1), (.ref b53), (.ref b44)])) rfl rfl (hb hby d3_114)) ?_
  refine own_step (B := T75.setTop (mkF m 116 #[rv a1, rv a2, rv a3, rv b44, rv b53, rv a1, iv (2 : Int32), iv (1 : Int32), iv x1] [(.int ((own_inc (own_s2 kk0 kk1) kk0).getD kk1.toNatClampNeg 0)), (.int kk1), (.ref b53), (.int ((own_inc (own_s2 kk0 kk1) kk0).getD kk1.toNatClampNeg 0)), (.ref b44)])) (fun t k => by
    jvm_step X75.here [X75.here.top, hx, (hb hby d3_115), Value.category]
    exact k) ?_
  refine own_step (fun t k => XS.iconst X75.here hx rfl (hb hby d3_116) k) ?_
  show own_G p.tables e below _ (T75.setTop (mkF m 117 #[rv a1, rv a2, rv a3, rv b44, rv b53, rv a1, iv (2 : Int32), iv (1 : Int32), iv x1] [(.int (1 : Int32)), (.int ((own_inc (own_s2 kk0 kk1) kk0).getD kk1.toNatClampNeg 0)), (.int kk1), (.ref b53), (.int ((own_inc (own_s2 kk0 kk1) kk0).getD kk1.toNatClampNeg 0)), (.ref b44)]))
  refine own_step (fun t k => XS.iadd X75.here hx rfl (hb hby d3_117) rfl k) ?_
  obtain ⟨T85, h85, X85, e85, W85, c85, st85⟩ := own_iastore X75 hx hZ e75 c82 (own_i3 h31 (by first | (simp only [own_inc_len, own_pre_len, own_s0_len, own_s1_len, own_s2_len, own_s3_len, own_s4_len]; done) | (simp only [own_inc_len, own_pre_len, own_s0_len, own_s1_len, own_s2_len, own_s3_len, own_s4_len]; rfl) | rfl)) (g := (mkF m 118 #[rv a1, rv a2, rv a3, rv b44, rv b53, rv a1, iv (2 : Int32), iv (1 : Int32), iv x1] [(.int (((own_inc (own_s2 kk0 kk1) kk0).getD kk1.toNatClampNeg 0) + (1 : Int32))), (.int kk1), (.ref b53), (.int ((own_inc (own_s2 kk0 kk1) kk0).getD kk1.toNatClampNeg 0)), (.ref b44)])) rfl rfl (hb hby d3_118)
  have N85 := Fr.snoc X85 N75 ge53
  have c86 : own_Ari Z h85 b53 .int ((own_inc (own_s2 kk0 kk1) kk0).set kk1.toNatClampNeg (((own_inc (own_s2 kk0 kk1) kk0).getD kk1.toNatClampNeg 0) + (1 : Int32))) := c85
  have c87 : own_Ari Z h85 a1 .int [x0, x1] := c77.other W85 ne54
  have c88 : own_Ari Z h85 a2 .int [kv0, kv1, kv2, kv3] := c78.other W85 ne55
  have c89 : own_Ari Z h85 a3 .int (own_s2 kk0 kk1) := c79.other W85 ne56
  have c90 : Exa Z h85 a3 "[I" := c80.wr W85
  have c91 : own_Ari Z h85 b44 .int ([(0 : Int32), (0 : Int32)].set ((own_s2 kk0 kk1).getD kk0.toNatClampNeg 0).toNatClampNeg x0) := c76.other W85 ne57
  have c93 : Exa Z h85 b53 "[I" := c83.wr W85
  have K85 : Keep h0 h85 [a3] := K75.wr W85 (Or.inr sz53)
  refine own_step st85 ?_
  have c94 : own_Ari Z h85 b53 .int (own_inc (own_inc (own_s2 kk0 kk1) kk0) kk1) := c86
  refine own_step (fun t k => XS.iload X85.here hx rfl (hb hby d3_119) rfl k) ?_
  obtain ⟨T95, h95, X95, e95, W95, c95, st95⟩ := own_iastore X85 hx hZ e85 c91 (own_setL (by simp only [List.length_set]; rfl) (own_pos2_1 h30 h31)) (g := (mkF m 121 #[rv a1, rv a2, rv a3, rv b44, rv b53, rv a1, iv (2 : Int32), iv (1 : Int32), iv x1] [(.int x1), (.int ((own_inc (own_s2 kk0 kk1) kk0).getD kk1.toNatClampNeg 0)), (.ref b44)])) rfl rfl (hb hby d3_121)
  have N95 := Fr.snoc X95 N85 ge44
  have c96 : own_Ari Z h95 b44 .int (([(0 : Int32), (0 : Int32)].set ((own_s2 kk0 kk1).getD kk0.toNatClampNeg 0).toNatClampNeg x0).set ((own_inc (own_s2 kk0 kk1) kk0).getD kk1.toNatClampNeg 0).toNatClampNeg x1) := c95
  have c97 : own_Ari Z h95 a1 .int [x0, x1] := c87.other W95 ne45
  have c98 : own_Ari Z h95 a2 .int [kv0, kv1, kv2, kv3] := c88.other W95 ne46
  have c99 : own_Ari Z h95 a3 .int (own_s2 kk0 kk1) := c89.other W95 ne47
  have c100 : Exa Z h95 a3 "[I" := c90.wr W95
  have c102 : own_Ari Z h95 b53 .int (own_inc (own_inc (own_s2 kk0 kk1) kk0) kk1) := c94.other W95 (Ne.symm ne57)
  have c103 : Exa Z h95 b53 "[I" := c93.wr W95
  have K95 : Keep h0 h95 [a3] := K85.wr W95 (Or.inr sz44)
  refine own_step st95 ?_
  clear K75 K85 N75 N85 W85 W95 X75 X85 c76 c77 c78 c79 c80 c82 c83 c85 c86 c87 c88 c89 c90 c91 c93 c94 c95 e75 e85 hk84 st85 st95
  show own_G p.tables e below _ (T95.setTop (mkF m 122 #[rv a1, rv a2, rv a3, rv b44, rv b53, rv a1, iv (2 : Int32), iv (1 : Int32), iv x1] []))
  refine own_step (fun t k => XS.iinc X95.here hx rfl (hb hby d3_122) rfl (l' := #[rv a1, rv a2, rv a3, rv b44, rv b53, rv a1, iv (2 : Int32), iv (2 : Int32), iv x1]) rfl k) ?_
  refine own_step (fun t k => XS.goto X95.here hx rfl (pc0 := 125) (pc' := 92) rfl (hb hby d3_125) (by decide) (by decide) k) ?_
  refine own_step (fun t k => XS.iload X95.here hx rfl (hb hby d3_92) rfl k) ?_
  refine own_step (fun t k => XS.iload X95.here hx rfl (hb hby d3_94) rfl k) ?_
  show own_G p.tables e below _ (T95.setTop (mkF m 96 #[rv a1, rv a2, rv a3, rv b44, rv b53, rv a1, iv (2 : Int32), iv (2 : Int32), iv x1] [(.int (2 : Int32)), (.int (2 : Int32))]))
  have hk104 : ¬ ((2 : Int32) < (2 : Int32)) := (by decide)
  refine own_step (fun t k => XS.icmpYes X95.here hx rfl (pc0 := 96) (pc' := 128) rfl (hb hby d3_96) rfl ((flt hk104).2.1) (by decide) (by decide) k) ?_
  show own_G p.tables e below _ (T95.setTop (mkF m 128 #[rv a1, rv a2, rv a3, rv b44, rv b53, rv a1, iv (2 : Int32), iv (2 : Int32), iv x1] []))
  refine own_step (fun t k => XS.aloadN X95.here hx rfl (hb hby d3_128) rfl rfl k) ?_
  obtain ⟨fs, hr, hrun, hended, hW, hsame⟩ := X95.leave (v := some (.ref b44)) (fun h => by rw [Bd.returns] at h; cases h)
  refine own_done (own_retA X95 hx Bd.returns (by decide) rfl (hb hby d3_129) hr) hrun hended ⟨_, _, rfl, ?_, ⟨_, rfl⟩, hW, hsame.mono (by decide) (by decide)⟩
  show Q3_n2 Z a1 a2 a3 x0 x1 kv0 kv1 kv2 kv3 kk0 kk1 h0 n0 _ T95.heap _
  rw [e95]
  exact ⟨b44, rfl, N95, K95, c99, c96, sz44⟩
theorem d1_41 : decode method_3_code 41 = .ok (.iload 4, 2) := by decide +kernel
theorem d1_43 : decode method_3_code 43 = .ok (.iload_n 0, 1) := by decide +kernel
theorem d1_44 : decode method_3_code 44 = .ok (.if_icmp .ne 7, 3) := by decide +kernel
theorem d1_47 : decode method_3_code 47 = .ok (.iconst 1, 1) := by decide +kernel
theorem d1_48 : decode method_3_code 48 = .ok (.goto 4, 3) := by decide +kernel
theorem pn_1_n3 : plainName "com/example/stevedore/stevedore/MoveGraphGroupedPinLaw" = true := by first | (simp [plainName, overriddenIn]; done) | decide +kernel
theorem pd_1_n3_0 : parseMethodDescriptor "(Z)I" = some ⟨[.boolean], some .int⟩ := by decide +kernel
theorem ef_1_n3 (m : MethodId) (p1 : Int32) (p3 : Int32) (p4 : Int32) (p5 : Int32) (p6 : Int32) : entryFrame m #[(.int p1), (.int (3 : Int32)), (.int p3), (.int p4), (.int p5), (.int p6)] 6 = mkF m 0 #[iv p1, iv (3 : Int32), iv p3, iv p4, iv p5, iv p6] [] := by first | (simp [entryFrame, mkF, argsToLocals, Value.category]; done) | rfl
def Q1_n3 (Z : State) (p1 : Int32) (p3 : Int32) (p4 : Int32) (p5 : Int32) (p6 : Int32) (h0 : Heap) (n0 : Nat) (v : Option Value) (h : Heap) (L : List Loc) : Prop := v = some (.int ((((own_f2 (if p3 = p1 then (1 : Int32) else (0 : Int32))) + (own_f2 (if p4 = p1 then (1 : Int32) else (0 : Int32)))) + (own_f2 (if p5 = p1 then (1 : Int32) else (0 : Int32)))) + (own_f2 (0 : Int32)))) ∧ Fr n0 L ∧ h = h0
set_option maxRecDepth 65536 in
set_option maxHeartbeats 40000000 in
theorem rm1_n3 (l : Launch) (Z : State) (a0 : Array Value) (hw : ∀ d ∈ tables_1, d.before a0 Z = true) (ws : List Jvm.Cond) (p1 : Int32) (p3 : Int32) (p4 : Int32) (p5 : Int32) (p6 : Int32) (h0 : Heap) (n0 : Nat) (Z0 : n0 ≤ h0.size) :
    MetFree l (⟨"com/example/stevedore/stevedore/MoveGraphGroupedPinLaw", "cnt", "(IIIIII)I"⟩ : MethodName) (head1 (Jvm.Cond.code (⟨"com/example/stevedore/stevedore/MoveGraphGroupedPinLaw", "cnt", "(IIIIII)I"⟩ : MethodName) method_3_code 6 (some .int) :: ws) ({ frames := 1, cells := 0, slots := 0, locals := 13 } : Room)) (fun a U => a = #[(.int p1), (.int (3 : Int32)), (.int p3), (.int p4), (.int p5), (.int p6)] ∧ Z.Warmed39 U.vm ∧ U.heap = h0) (fun _ _ _ _ _ => True) (fun _ U o U' => ∃ v L, o = .returned v ∧ Q1_n3 Z p1 p3 p4 p5 p6 h0 n0 v U'.heap L ∧ FrameEnd U o U' L ({ frames := 1, cells := 0, slots := 0, locals := 13 } : Room).cells ({ frames := 1, cells := 0, slots := 0, locals := 13 } : Room).slots) := by
  refine MetFree.of_bodySF (plainFor_of_name pn_1_n3) hisR ?_
  intro p e s m args below meth c s₁ Bd hml0 hP hK
  obtain ⟨rfl, hZ, hh⟩ := hP
  have hx := Bd.exec
  have hby := Bd.bytes
  have hml : c.maxLocals = 6 := hml0
  have hown : s.vm.findClass "com/example/stevedore/stevedore/MoveGraphGroupedPinLaw" = some m.cls := findClass_of_methodNamed Bd.named
  have hnm := (name_of_methodNamed Bd.named Bd.method).1
  have X0 : Stand p l e ({ frames := 1, cells := 0, slots := 0, locals := 13 } : Room) s m #[(.int p1), (.int (3 : Int32)), (.int p3), (.int p4), (.int p5), (.int p6)] below meth c s₁ [] 0 0 := Stand.of_body Bd
  have e0 : s₁.heap = h0 := by rw [← hh, Bd.state]; rfl
  have N0 := Fr.nil n0
  refine own_start (fun t k => castTop (ef_1_n3 m p1 p3 p4 p5 p6) k) ?_
  show own_G p.tables e below _ (s₁.setTop (mkF m 0 #[iv p1, iv (3 : Int32), iv p3, iv p4, iv p5, iv p6] []))
  refine own_step (fun t k => XS.iloadN X0.here hx rfl (hb hby d1_0) rfl k) ?_
  have hk1 : (0 : Int32) < (3 : Int32) := (by decide)
  refine own_step (fun t k => XS.ifNo X0.here hx rfl (hb hby d1_1) rfl ((if0 _ _).trans (tlt hk1).2.2.2) k) ?_
  show own_G p.tables e below _ (s₁.setTop (mkF m 4 #[iv p1, iv (3 : Int32), iv p3, iv p4, iv p5, iv p6] []))
  refine own_step (fun t k => XS.iloadN X0.here hx rfl (hb hby d1_4) rfl k) ?_
  refine own_step (fun t k => XS.iloadN X0.here hx rfl (hb hby d1_5) rfl k) ?_
  refine own_imp (B := s₁.setTop (mkF m 14 #[iv p1, iv (3 : Int32), iv p3, iv p4, iv p5, iv p6] [(.int (if p3 = p1 then (1 : Int32) else (0 : Int32)))])) (fun k0 => ?_) ?_
  · by_cases hc2 : p3 = p1
    · simp only [if_pos hc2] at k0
      refine own_step (fun t k => XS.icmpNo X0.here hx rfl (hb hby d1_6) rfl ((teq hc2).2) k) ?_
      show own_G p.tables e below _ (s₁.setTop (mkF m 9 #[iv p1, iv (3 : Int32), iv p3, iv p4, iv p5, iv p6] []))
      refine own_step (fun t k => XS.iconst X0.here hx rfl (hb hby d1_9) k) ?_
      refine own_step (fun t k => XS.goto X0.here hx rfl (pc0 := 10) (pc' := 14) rfl (hb hby d1_10) (by decide) (by decide) k) ?_
      exact k0
    · simp only [if_neg hc2] at k0
      refine own_step (fun t k => XS.icmpYes X0.here hx rfl (pc0 := 6) (pc' := 13) rfl (hb hby d1_6) rfl ((feq hc2).2) (by decide) (by decide) k) ?_
      show own_G p.tables e below _ (s₁.setTop (mkF m 13 #[iv p1, iv (3 : Int32), iv p3, iv p4, iv p5, iv p6] []))
      refine own_step (fun t k => XS.iconst X0.here hx rfl (hb hby d1_13) k) ?_
      exact k0
  show own_G p.tables e below _ (s₁.setTop (mkF m 14 #[iv p1, iv (3 : Int32), iv p3, iv p4, iv p5, iv p6] [(.int (if p3 = p1 then (1 : Int32) else (0 : Int32)))]))
  obtain ⟨_, _, ⟨T3, L3, k3, n3⟩, -, X3, ⟨Lc3, hQ3, l3, y3, z3⟩, st3⟩ := Jvm.LawKit.callS X0 hx (y := (⟨"com/example/stevedore/stevedore/MoveGraphGroupedPinLaw", "one", "(Z)I"⟩ : MethodName)) hown (mvT hZ (hw _ (List.mem_of_getElem? (i := 5) rfl))) (mvT hZ (hw _ (List.mem_of_getElem? (i := 6) rfl))) (mvT hZ (hw _ (List.mem_of_getElem? (i := 3) rfl))) (mvT hZ (hw _ (List.mem_of_getElem? (i := 7) rfl))) (by decide) (backOf (W := 0) (rm2 l Z a0 hw [] (if p3 = p1 then (1 : Int32) else (0 : Int32)) h0 n0 (Nat.le_trans Z0 (Keep.refl h0 []).1) ) hZ (hw _ (List.mem_of_getElem? (i := 7) rfl)) (hw _ (List.mem_of_getElem? (i := 3) rfl)) (by decide) (by decide)) (g := (mkF m 14 #[iv p1, iv (3 : Int32), iv p3, iv p4, iv p5, iv p6] [(.int (if p3 = p1 then (1 : Int32) else (0 : Int32)))])) rfl (by rw [hml]; rfl) (argsL := [(.int (if p3 = p1 then (1 : Int32) else (0 : Int32)))]) (rest := []) (lenOf pd_1_n3_0 rfl) rfl (by show 2 * 0 + _ ≤ _; exact Nat.le_of_eq rfl) (hb hby d1_14) (fun _ _ => ⟨rfl, e0, (by decide : 0 + 0 ≤ _), (by decide : 0 + 0 ≤ _)⟩)
  dsimp only [Pt.U, Pt.locs, Pt.cells, Pt.slots] at X3 l3 y3 z3 st3 hQ3
  subst y3 z3
  obtain ⟨rfl, N3q, e3⟩ := hQ3
  have N3 : Fr n0 L3 := by rw [l3]; exact Fr.app N0 N3q
  refine own_step st3 ?_
  refine own_step (fun t k => XS.iloadN X3.here hx rfl (hb hby d1_17) rfl k) ?_
  refine own_step (fun t k => XS.iconst X3.here hx rfl (hb hby d1_18) k) ?_
  have hk4 : (1 : Int32) < (3 : Int32) := (by decide)
  refine own_step (fun t k => XS.icmpNo X3.here hx rfl (hb hby d1_19) rfl ((tlt hk4).2.2.2) k) ?_
  show own_G p.tables e below _ (T3.setTop (mkF m 22 #[iv p1, iv (3 : Int32), iv p3, iv p4, iv p5, iv p6] [(.int (own_f2 (if p3 = p1 then (1 : Int32) else (0 : Int32))))]))
  refine own_step (fun t k => XS.iloadN X3.here hx rfl (hb hby d1_22) rfl k) ?_
  refine own_step (fun t k => XS.iloadN X3.here hx rfl (hb hby d1_23) rfl k) ?_
  refine own_imp (B := T3.setTop (mkF m 32 #[iv p1, iv (3 : Int32), iv p3, iv p4, iv p5, iv p6] [(.int (if p4 = p1 then (1 : Int32) else (0 : Int32))), (.int (own_f2 (if p3 = p1 then (1 : Int32) else (0 : Int32))))])) (fun k0 => ?_) ?_
  · by_cases hc5 : p4 = p1
    · simp only [if_pos hc5] at k0
      refine own_step (fun t k => XS.icmpNo X3.here hx rfl (hb hby d1_24) rfl ((teq hc5).2) k) ?_
      show own_G p.tables e below _ (T3.setTop (mkF m 27 #[iv p1, iv (3 : Int32), iv p3, iv p4, iv p5, iv p6] [(.int (own_f2 (if p3 = p1 then (1 : Int32) else (0 : Int32))))]))
      refine own_step (fun t k => XS.iconst X3.here hx rfl (hb hby d1_27) k) ?_
      refine own_step (fun t k => XS.goto X3.here hx rfl (pc0 := 28) (pc' := 32) rfl (hb hby d1_28) (by decide) (by decide) k) ?_
      exact k0
    · simp only [if_neg hc5] at k0
      refine own_step (fun t k => XS.icmpYes X3.here hx rfl (pc0 := 24) (pc' := 31) rfl (hb hby d1_24) rfl ((feq hc5).2) (by decide) (by decide) k) ?_
      show own_G p.tables e below _ (T3.setTop (mkF m 31 #[iv p1, iv (3 : Int32), iv p3, iv p4, iv p5, iv p6] [(.int (own_f2 (if p3 = p1 then (1 : Int32) else (0 : Int32))))]))
      refine own_step (fun t k => XS.iconst X3.here hx rfl (hb hby d1_31) k) ?_
      exact k0
  show own_G p.tables e below _ (T3.setTop (mkF m 32 #[iv p1, iv (3 : Int32), iv p3, iv p4, iv p5, iv p6] [(.int (if p4 = p1 then (1 : Int32) else (0 : Int32))), (.int (own_f2 (if p3 = p1 then (1 : Int32) else (0 : Int32))))]))
  obtain ⟨_, _, ⟨T6, L6, k6, n6⟩, -, X6, ⟨Lc6, hQ6, l6, y6, z6⟩, st6⟩ := Jvm.LawKit.callS X3 hx (y := (⟨"com/example/stevedore/stevedore/MoveGraphGroupedPinLaw", "one", "(Z)I"⟩ : MethodName)) hown (mvT hZ (hw _ (List.mem_of_getElem? (i := 5) rfl))) (mvT hZ (hw _ (List.mem_of_getElem? (i := 6) rfl))) (mvT hZ (hw _ (List.mem_of_getElem? (i := 3) rfl))) (mvT hZ (hw _ (List.mem_of_getElem? (i := 7) rfl))) (by decide) (backOf (W := 1) (rm2 l Z a0 hw [] (if p4 = p1 then (1 : Int32) else (0 : Int32)) h0 n0 (Nat.le_trans Z0 (Keep.refl h0 []).1) ) hZ (hw _ (List.mem_of_getElem? (i := 7) rfl)) (hw _ (List.mem_of_getElem? (i := 3) rfl)) (by decide) (by decide)) (g := (mkF m 32 #[iv p1, iv (3 : Int32), iv p3, iv p4, iv p5, iv p6] [(.int (if p4 = p1 then (1 : Int32) else (0 : Int32))), (.int (own_f2 (if p3 = p1 then (1 : Int32) else (0 : Int32))))])) rfl (by rw [hml]; rfl) (argsL := [(.int (if p4 = p1 then (1 : Int32) else (0 : Int32)))]) (rest := [(.int (own_f2 (if p3 = p1 then (1 : Int32) else (0 : Int32))))]) (lenOf pd_1_n3_0 rfl) rfl (by show 2 * 0 + _ ≤ _; exact Nat.le_of_eq rfl) (hb hby d1_32) (fun _ _ => ⟨rfl, e3, (by decide : 0 + 0 ≤ _), (by decide : 0 + 0 ≤ _)⟩)
  dsimp only [Pt.U, Pt.locs, Pt.cells, Pt.slots] at X6 l6 y6 z6 st6 hQ6
  subst y6 z6
  obtain ⟨rfl, N6q, e6⟩ := hQ6
  have N6 : Fr n0 L6 := by rw [l6]; exact Fr.app N3 N6q
  refine own_step st6 ?_
  refine own_step (fun t k => XS.iadd X6.here hx rfl (hb hby d1_35) rfl k) ?_
  refine own_step (fun t k => XS.iloadN X6.here hx rfl (hb hby d1_36) rfl k) ?_
  refine own_step (fun t k => XS.iconst X6.here hx rfl (hb hby d1_37) k) ?_
  show own_G p.tables e below _ (T6.setTop (mkF m 38 #[iv p1, iv (3 : Int32), iv p3, iv p4, iv p5, iv p6] [(.int (2 : Int32)), (.int (3 : Int32)), (.int ((own_f2 (if p3 = p1 then (1 : Int32) else (0 : Int32))) + (own_f2 (if p4 = p1 then (1 : Int32) else (0 : Int32)))))]))
  have hk7 : (2 : Int32) < (3 : Int32) := (by decide)
  refine own_step (fun t k => XS.icmpNo X6.here hx rfl (hb hby d1_38) rfl ((tlt hk7).2.2.2) k) ?_
  clear N3 N3q N6q X3 e3 hk1 hk4 hk7 st3 st6
  show own_G p.tables e below _ (T6.setTop (mkF m 41 #[iv p1, iv (3 : Int32), iv p3, iv p4, iv p5, iv p6] [(.int ((own_f2 (if p3 = p1 then (1 : Int32) else (0 : Int32))) + (own_f2 (if p4 = p1 then (1 : Int32) else (0 : Int32)))))]))
  refine own_step (fun t k => XS.iload X6.here hx rfl (hb hby d1_41) rfl k) ?_
  refine own_step (fun t k => XS.iloadN X6.here hx rfl (hb hby d1_43) rfl k) ?_
  refine own_imp (B := T6.setTop (mkF m 52 #[iv p1, iv (3 : Int32), iv p3, iv p4, iv p5, iv p6] [(.int (if p5 = p1 then (1 : Int32) else (0 : Int32))), (.int ((own_f2 (if p3 = p1 then (1 : Int32) else (0 : Int32))) + (own_f2 (if p4 = p1 then (1 : Int32) else (0 : Int32)))))])) (fun k0 => ?_) ?_
  · by_cases hc8 : p5 = p1
    · simp only [if_pos hc8] at k0
      refine own_step (fun t k => XS.icmpNo X6.here hx rfl (hb hby d1_44) rfl ((teq hc8).2) k) ?_
      show own_G p.tables e below _ (T6.setTop (mkF m 47 #[iv p1, iv (3 : Int32), iv p3, iv p4, iv p5, iv p6] [(.int ((own_f2 (if p3 = p1 then (1 : Int32) else (0 : Int32))) + (own_f2 (if p4 = p1 then (1 : Int32) else (0 : Int32)))))]))
      refine own_step (fun t k => XS.iconst X6.here hx rfl (hb hby d1_47) k) ?_
      refine own_step (fun t k => XS.goto X6.here hx rfl (pc0 := 48) (pc' := 52) rfl (hb hby d1_48) (by decide) (by decide) k) ?_
      exact k0
    · simp only [if_neg hc8] at k0
      refine own_step (fun t k => XS.icmpYes X6.here hx rfl (pc0 := 44) (pc' := 51) rfl (hb hby d1_44) rfl ((feq hc8).2) (by decide) (by decide) k) ?_
      show own_G p.tables e below _ (T6.setTop (mkF m 51 #[iv p1, iv (3 : Int32), iv p3, iv p4, iv p5, iv p6] [(.int ((own_f2 (if p3 = p1 then (1 : Int32) else (0 : Int32))) + (own_f2 (if p4 = p1 then (1 : Int32) else (0 : Int32)))))]))
      refine own_step (fun t k => XS.iconst X6.here hx rfl (hb hby d1_51) k) ?_
      exact k0
  show own_G p.tables e below _ (T6.setTop (mkF m 52 #[iv p1, iv (3 : Int32), iv p3, iv p4, iv p5, iv p6] [(.int (if p5 = p1 then (1 : Int32) else (0 : Int32))), (.int ((own_f2 (if p3 = p1 then (1 : Int32) else (0 : Int32))) + (own_f2 (if p4 = p1 then (1 : Int32) else (0 : Int32)))))]))
  obtain ⟨_, _, ⟨T9, L9, k9, n9⟩, -, X9, ⟨Lc9, hQ9, l9, y9, z9⟩, st9⟩ := Jvm.LawKit.callS X6 hx (y := (⟨"com/example/stevedore/stevedore/MoveGraphGroupedPinLaw", "one", "(Z)I"⟩ : MethodName)) hown (mvT hZ (hw _ (List.mem_of_getElem? (i := 5) rfl))) (mvT hZ (hw _ (List.mem_of_getElem? (i := 6) rfl))) (mvT hZ (hw _ (List.mem_of_getElem? (i := 3) rfl))) (mvT hZ (hw _ (List.mem_of_getElem? (i := 7) rfl))) (by decide) (backOf (W := 1) (rm2 l Z a0 hw [] (if p5 = p1 then (1 : Int32) else (0 : Int32)) h0 n0 (Nat.le_trans Z0 (Keep.refl h0 []).1) ) hZ (hw _ (List.mem_of_getElem? (i := 7) rfl)) (hw _ (List.mem_of_getElem? (i := 3) rfl)) (by decide) (by decide)) (g := (mkF m 52 #[iv p1, iv (3 : Int32), iv p3, iv p4, iv p5, iv p6] [(.int (if p5 = p1 then (1 : Int32) else (0 : Int32))), (.int ((own_f2 (if p3 = p1 then (1 : Int32) else (0 : Int32))) + (own_f2 (if p4 = p1 then (1 : Int32) else (0 : Int32)))))])) rfl (by rw [hml]; rfl) (argsL := [(.int (if p5 = p1 then (1 : Int32) else (0 : Int32)))]) (rest := [(.int ((own_f2 (if p3 = p1 then (1 : Int32) else (0 : Int32))) + (own_f2 (if p4 = p1 then (1 : Int32) else (0 : Int32)))))]) (lenOf pd_1_n3_0 rfl) rfl (by show 2 * 0 + _ ≤ _; exact Nat.le_of_eq rfl) (hb hby d1_52) (fun _ _ => ⟨rfl, e6, (by decide : 0 + 0 ≤ _), (by decide : 0 + 0 ≤ _)⟩)
  dsimp only [Pt.U, Pt.locs, Pt.cells, Pt.slots] at X9 l9 y9 z9 st9 hQ9
  subst y9 z9
  obtain ⟨rfl, N9q, e9⟩ := hQ9
  have N9 : Fr n0 L9 := by rw [l9]; exact Fr.app N6 N9q
  refine own_step st9 ?_
  refine own_step (fun t k => XS.iadd X9.here hx rfl (hb hby d1_55) rfl k) ?_
  refine own_step (fun t k => XS.iloadN X9.here hx rfl (hb hby d1_56) rfl k) ?_
  refine own_step (fun t k => XS.iconst X9.here hx rfl (hb hby d1_57) k) ?_
  show own_G p.tables e below _ (T9.setTop (mkF m 58 #[iv p1, iv (3 : Int32), iv p3, iv p4, iv p5, iv p6] [(.int (3 : Int32)), (.int (3 : Int32)), (.int (((own_f2 (if p3 = p1 then (1 : Int32) else (0 : Int32))) + (own_f2 (if p4 = p1 then (1 : Int32) else (0 : Int32)))) + (own_f2 (if p5 = p1 then (1 : Int32) else (0 : Int32)))))]))
  have hk10 : ¬ ((3 : Int32) < (3 : Int32)) := (by decide)
  refine own_step (fun t k => XS.icmpYes X9.here hx rfl (pc0 := 58) (pc' := 71) rfl (hb hby d1_58) rfl ((flt hk10).2.2.2) (by decide) (by decide) k) ?_
  show own_G p.tables e below _ (T9.setTop (mkF m 71 #[iv p1, iv (3 : Int32), iv p3, iv p4, iv p5, iv p6] [(.int (((own_f2 (if p3 = p1 then (1 : Int32) else (0 : Int32))) + (own_f2 (if p4 = p1 then (1 : Int32) else (0 : Int32)))) + (own_f2 (if p5 = p1 then (1 : Int32) else (0 : Int32)))))]))
  refine own_step (fun t k => XS.iconst X9.here hx rfl (hb hby d1_71) k) ?_
  obtain ⟨_, _, ⟨T11, L11, k11, n11⟩, -, X11, ⟨Lc11, hQ11, l11, y11, z11⟩, st11⟩ := Jvm.LawKit.callS X9 hx (y := (⟨"com/example/stevedore/stevedore/MoveGraphGroupedPinLaw", "one", "(Z)I"⟩ : MethodName)) hown (mvT hZ (hw _ (List.mem_of_getElem? (i := 5) rfl))) (mvT hZ (hw _ (List.mem_of_getElem? (i := 6) rfl))) (mvT hZ (hw _ (List.mem_of_getElem? (i := 3) rfl))) (mvT hZ (hw _ (List.mem_of_getElem? (i := 7) rfl))) (by decide) (backOf (W := 1) (rm2 l Z a0 hw [] (0 : Int32) h0 n0 (Nat.le_trans Z0 (Keep.refl h0 []).1) ) hZ (hw _ (List.mem_of_getElem? (i := 7) rfl)) (hw _ (List.mem_of_getElem? (i := 3) rfl)) (by decide) (by decide)) (g := (mkF m 72 #[iv p1, iv (3 : Int32), iv p3, iv p4, iv p5, iv p6] [(.int (0 : Int32)), (.int (((own_f2 (if p3 = p1 then (1 : Int32) else (0 : Int32))) + (own_f2 (if p4 = p1 then (1 : Int32) else (0 : Int32)))) + (own_f2 (if p5 = p1 then (1 : Int32) else (0 : Int32)))))])) rfl (by rw [hml]; rfl) (argsL := [(.int (0 : Int32))]) (rest := [(.int (((own_f2 (if p3 = p1 then (1 : Int32) else (0 : Int32))) + (own_f2 (if p4 = p1 then (1 : Int32) else (0 : Int32)))) + (own_f2 (if p5 = p1 then (1 : Int32) else (0 : Int32)))))]) (lenOf pd_1_n3_0 rfl) rfl (by show 2 * 0 + _ ≤ _; exact Nat.le_of_eq rfl) (hb hby d1_72) (fun _ _ => ⟨rfl, e9, (by decide : 0 + 0 ≤ _), (by decide : 0 + 0 ≤ _)⟩)
  dsimp only [Pt.U, Pt.locs, Pt.cells, Pt.slots] at X11 l11 y11 z11 st11 hQ11
  subst y11 z11
  obtain ⟨rfl, N11q, e11⟩ := hQ11
  have N11 : Fr n0 L11 := by rw [l11]; exact Fr.app N9 N11q
  refine own_step st11 ?_
  refine own_step (fun t k => XS.iadd X11.here hx rfl (hb hby d1_75) rfl k) ?_
  obtain ⟨fs, hr, hrun, hended, hW, hsame⟩ := X11.leave (v := some (.int ((((own_f2 (if p3 = p1 then (1 : Int32) else (0 : Int32))) + (own_f2 (if p4 = p1 then (1 : Int32) else (0 : Int32)))) + (own_f2 (if p5 = p1 then (1 : Int32) else (0 : Int32)))) + (own_f2 (0 : Int32))))) (fun h => by rw [Bd.returns] at h; cases h)
  refine own_done (retI X11 hx Bd.returns (hb hby d1_76) hr) hrun hended ⟨_, _, rfl, ?_, ⟨_, rfl⟩, hW, hsame.mono (by decide) (by decide)⟩
  show Q1_n3 Z p1 p3 p4 p5 p6 h0 n0 _ T11.heap _
  rw [e11]
  exact ⟨congrArg (fun z => some (Value.int z)) (show ((((own_f2 (if p3 = p1 then (1 : Int32) else (0 : Int32))) + (own_f2 (if p4 = p1 then (1 : Int32) else (0 : Int32)))) + (own_f2 (if p5 = p1 then (1 : Int32) else (0 : Int32)))) + (own_f2 (0 : Int32))) = ((((own_f2 (if p3 = p1 then (1 : Int32) else (0 : Int32))) + (own_f2 (if p4 = p1 then (1 : Int32) else (0 : Int32)))) + (own_f2 (if p5 = p1 then (1 : Int32) else (0 : Int32)))) + (own_f2 (0 : Int32))) from rfl), N11, rfl⟩
theorem pn_3_n3 : plainName "com/example/stevedore/stevedore/MoveGraph" = true := by first | (simp [plainName, overriddenIn]; done) | decide +kernel
theorem ef_3_n3 (m : MethodId) (a1 : Addr) (a2 : Addr) (a3 : Addr) : entryFrame m #[(.ref a1), (.ref a2), (.ref a3)] 9 = mkF m 0 #[rv a1, rv a2, rv a3, .unset, .unset, .unset, .unset, .unset, .unset] [] := by first | (simp [entryFrame, mkF, argsToLocals, Value.category]; done) | rfl
def Q3_n3 (Z : State) (a1 : Addr) (a2 : Addr) (a3 : Addr) (x0 : Int32) (x1 : Int32) (x2 : Int32) (kv0 : Int32) (kv1 : Int32) (kv2 : Int32) (kv3 : Int32) (kk0 : Int32) (kk1 : Int32) (kk2 : Int32) (h0 : Heap) (n0 : Nat) (v : Option Value) (h : Heap) (L : List Loc) : Prop := ∃ (rb : Addr), v = some (.ref rb) ∧ Fr n0 L ∧ Keep h0 h [a3] ∧ own_Ari Z h a3 .int (own_s3 kk0 kk1 kk2) ∧ own_Ari Z h rb .int ((([(0 : Int32), (0 : Int32), (0 : Int32)].set ((own_s3 kk0 kk1 kk2).getD kk0.toNatClampNeg 0).toNatClampNeg x0).set ((own_inc (own_s3 kk0 kk1 kk2) kk0).getD kk1.toNatClampNeg 0).toNatClampNeg x1).set ((own_inc (own_inc (own_s3 kk0 kk1 kk2) kk0) kk1).getD kk2.toNatClampNeg 0).toNatClampNeg x2) ∧ h0.size ≤ rb
set_option maxRecDepth 65536 in
set_option maxHeartbeats 40000000 in
theorem rm3_n3 (l : Launch) (Z : State) (a0 : Array Value) (hw : ∀ d ∈ tables_1, d.before a0 Z = true) (ws : List Jvm.Cond) (a1 : Addr) (a2 : Addr) (a3 : Addr) (x0 : Int32) (x1 : Int32) (x2 : Int32) (kv0 : Int32) (kv1 : Int32) (kv2 : Int32) (kv3 : Int32) (kk0 : Int32) (kk1 : Int32) (kk2 : Int32) (h0 : Heap) (n0 : Nat) (Z0 : n0 ≤ h0.size) (fp0 : own_Ari Z h0 a1 .int [x0, x1, x2]) (fp1 : own_Ari Z h0 a2 .int [kv0, kv1, kv2, kv3]) (fp2 : own_Ari Z h0 a3 .int [(0 : Int32), (0 : Int32), (0 : Int32), (0 : Int32)]) (fp3 : Exa Z h0 a3 "[I") (hx0 : own_4 x0) (hx1 : own_4 x1) (hx2 : own_4 x2) (hky0 : ([kv0, kv1, kv2, kv3].getD x0.toNatClampNeg 0) = kk0) (hky1 : ([kv0, kv1, kv2, kv3].getD x1.toNatClampNeg 0) = kk1) (hky2 : ([kv0, kv1, kv2, kv3].getD x2.toNatClampNeg 0) = kk2) (h30 : own_3 kk0) (h31 : own_3 kk1) (h32 : own_3 kk2) (g_a3 : n0 ≤ a3) (ne_a1_a3 : a1 ≠ a3) (ne_a2_a3 : a2 ≠ a3) :
    MetFree l (⟨"com/example/stevedore/stevedore/MoveGraph", "grouped", "([I[I[I)[I"⟩ : MethodName) (head1 (Jvm.Cond.code (⟨"com/example/stevedore/stevedore/MoveGraph", "grouped", "([I[I[I)[I"⟩ : MethodName) prog_15_method_17_code 9 (some (.array .int)) :: ws) ({ frames := 1, cells := 2, slots := 7, locals := 14 } : Room)) (fun a U => a = #[(.ref a1), (.ref a2), (.ref a3)] ∧ Z.Warmed39 U.vm ∧ U.heap = h0) (fun _ _ _ _ _ => True) (fun _ U o U' => ∃ v L, o = .returned v ∧ Q3_n3 Z a1 a2 a3 x0 x1 x2 kv0 kv1 kv2 kv3 kk0 kk1 kk2 h0 n0 v U'.heap L ∧ FrameEnd U o U' L ({ frames := 1, cells := 2, slots := 7, locals := 14 } : Room).cells ({ frames := 1, cells := 2, slots := 7, locals := 14 } : Room).slots) := by
  refine MetFree.of_bodySF (plainFor_of_name pn_3_n3) hisR ?_
  intro p e s m args below meth c s₁ Bd hml0 hP hK
  obtain ⟨rfl, hZ, hh⟩ := hP
  have hx := Bd.exec
  have hby := Bd.bytes
  have hml : c.maxLocals = 9 := hml0
  have hown : s.vm.findClass "com/example/stevedore/stevedore/MoveGraph" = some m.cls := findClass_of_methodNamed Bd.named
  have hnm := (name_of_methodNamed Bd.named Bd.method).1
  have X0 : Stand p l e ({ frames := 1, cells := 2, slots := 7, locals := 14 } : Room) s m #[(.ref a1), (.ref a2), (.ref a3)] below meth c s₁ [] 0 0 := Stand.of_body Bd
  have e0 : s₁.heap = h0 := by rw [← hh, Bd.state]; rfl
  have N0 := Fr.nil n0
  refine own_start (fun t k => castTop (ef_3_n3 m a1 a2 a3) k) ?_
  show own_G p.tables e below _ (s₁.setTop (mkF m 0 #[rv a1, rv a2, rv a3, .unset, .unset, .unset, .unset, .unset, .unset] []))
  refine own_step (fun t k => XS.aloadN X0.here hx rfl (hb hby d3_0) rfl rfl k) ?_
  refine own_step (fun t k => XS.astoreN X0.here hx rfl (hb hby d3_1) rfl rfl (l' := #[rv a1, rv a2, rv a3, rv a1, .unset, .unset, .unset, .unset, .unset]) rfl k) ?_
  refine own_step (fun t k => XS.aloadN X0.here hx rfl (hb hby d3_2) rfl rfl k) ?_
  refine own_step (own_lenI X0 hx hZ e0 fp0 (g := (mkF m 3 #[rv a1, rv a2, rv a3, rv a1, .unset, .unset, .unset, .unset, .unset] [(.ref a1)])) rfl rfl (hb hby d3_3)) ?_
  show own_G p.tables e below _ (s₁.setTop (mkF m 4 #[rv a1, rv a2, rv a3, rv a1, .unset, .unset, .unset, .unset, .unset] [(.int (3 : Int32))]))
  refine own_step (fun t k => XS.istore X0.here hx rfl (hb hby d3_4) rfl (l' := #[rv a1, rv a2, rv a3, rv a1, iv (3 : Int32), .unset, .unset, .unset, .unset]) rfl k) ?_
  refine own_step (fun t k => XS.iconst X0.here hx rfl (hb hby d3_6) k) ?_
  refine own_step (fun t k => XS.istore X0.here hx rfl (hb hby d3_7) rfl (l' := #[rv a1, rv a2, rv a3, rv a1, iv (3 : Int32), iv (0 : Int32), .unset, .unset, .unset]) rfl k) ?_
  refine own_step (fun t k => XS.iload X0.here hx rfl (hb hby d3_9) rfl k) ?_
  show own_G p.tables e below _ (s₁.setTop (mkF m 11 #[rv a1, rv a2, rv a3, rv a1, iv (3 : Int32), iv (0 : Int32), .unset, .unset, .unset] [(.int (0 : Int32))]))
  refine own_step (fun t k => XS.iload X0.here hx rfl (hb hby d3_11) rfl k) ?_
  have hk1 : (0 : Int32) < (3 : Int32) := (by decide)
  refine own_step (fun t k => XS.icmpNo X0.here hx rfl (hb hby d3_13) rfl ((tlt hk1).2.1) k) ?_
  show own_G p.tables e below _ (s₁.setTop (mkF m 16 #[rv a1, rv a2, rv a3, rv a1, iv (3 : Int32), iv (0 : Int32), .unset, .unset, .unset] []))
  refine own_step (fun t k => XS.aloadN X0.here hx rfl (hb hby d3_16) rfl rfl k) ?_
  refine own_step (fun t k => XS.iload X0.here hx rfl (hb hby d3_17) rfl k) ?_
  refine own_step (own_iaload X0 hx hZ e0 fp0 (own_inb (by decide) (Nat.le_of_ble_eq_true rfl)) (g := (mkF m 19 #[rv a1, rv a2, rv a3, rv a1, iv (3 : Int32), iv (0 : Int32), .unset, .unset, .unset] [(.int (0 : Int32)), (.ref a1)])) rfl rfl (hb hby d3_19)) ?_
  refine own_step (fun t k => XS.istore X0.here hx rfl (hb hby d3_20) rfl (l' := #[rv a1, rv a2, rv a3, rv a1, iv (3 : Int32), iv (0 : Int32), iv x0, .unset, .unset]) rfl k) ?_
  show own_G p.tables e below _ (s₁.setTop (mkF m 22 #[rv a1, rv a2, rv a3, rv a1, iv (3 : Int32), iv (0 : Int32), iv x0, .unset, .unset] []))
  refine own_step (fun t k => XS.aloadN X0.here hx rfl (hb hby d3_22) rfl rfl k) ?_
  refine own_step (fun t k => XS.aloadN X0.here hx rfl (hb hby d3_23) rfl rfl k) ?_
  refine own_step (fun t k => XS.iload X0.here hx rfl (hb hby d3_24) rfl k) ?_
  refine own_step (own_iaload X0 hx hZ e0 fp1 (own_i4 hx0 rfl) (g := (mkF m 26 #[rv a1, rv a2, rv a3, rv a1, iv (3 : Int32), iv (0 : Int32), iv x0, .unset, .unset] [(.int x0), (.ref a2), (.ref a3)])) rfl rfl (hb hby d3_26)) ?_
  show own_G p.tables e below _ (s₁.setTop (mkF m 27 #[rv a1, rv a2, rv a3, rv a1, iv (3 : Int32), iv (0 : Int32), iv x0, .unset, .unset] [(.int ([kv0, kv1, kv2, kv3].getD x0.toNatClampNeg 0)), (.ref a3)]))
  show own_G p.tables e below _ (s₁.setTop (mkF m 27 #[rv a1, rv a2, rv a3, rv a1, iv (3 : Int32), iv (0 : Int32), iv x0, .unset, .unset] [(.int ([kv0, kv1, kv2, kv3].getD x0.toNatClampNeg 0)), (.ref a3)]))
  rw [hky0]
  show own_G p.tables e below _ (s₁.setTop (mkF m 27 #[rv a1, rv a2, rv a3, rv a1, iv (3 : Int32), iv (0 : Int32), iv x0, .unset, .unset] [(.int kk0), (.ref a3)]))
  refine own_step (fun t k => XS.iconst X0.here hx rfl (hb hby d3_27) k) ?_
  refine own_step (fun t k => XS.iadd X0.here hx rfl (hb hby d3_28) rfl k) ?_
  refine own_step (B := s₁.setTop (mkF m 30 #[rv a1, rv a2, rv a3, rv a1, iv (3 : Int32), iv (0 : Int32), iv x0, .unset, .unset] [(.int (kk0 + (1 : Int32))), (.ref a3), (.int (kk0 + (1 : Int32))), (.ref a3)])) (fun t k => by
    jvm_step X0.here [X0.here.top, hx, (hb hby d3_29), Value.category]
    exact k) ?_
  refine own_step (own_iaload X0 hx hZ e0 fp2 (own_i3' h30 (by first | (simp only [own_inc_len, own_pre_len, own_s0_len, own_s1_len, own_s2_len, own_s3_len, own_s4_len]; done) | (simp only [own_inc_len, own_pre_len, own_s0_len, own_s1_len, own_s2_len, own_s3_len, own_s4_len]; rfl) | rfl)) (g := (mkF m 30 #[rv a1, rv a2, rv a3, rv a1, iv (3 : Int32), iv (0 : Int32), iv x0, .unset, .unset] [(.int (kk0 + (1 : Int32))), (.ref a3), (.int (kk0 + (1 : Int32))), (.ref a3)])) rfl rfl (hb hby d3_30)) ?_
  show own_G p.tables e below _ (s₁.setTop (mkF m 31 #[rv a1, rv a2, rv a3, rv a1, iv (3 : Int32), iv (0 : Int32), iv x0, .unset, .unset] [(.int ([(0 : Int32), (0 : Int32), (0 : Int32), (0 : Int32)].getD (kk0 + (1 : Int32)).toNatClampNeg 0)), (.int (kk0 + (1 : Int32))), (.ref a3)]))
  refine own_step (fun t k => XS.iconst X0.here hx rfl (hb hby d3_31) k) ?_
  refine own_step (fun t k => XS.iadd X0.here hx rfl (hb hby d3_32) rfl k) ?_
  obtain ⟨T2, h2, X2, e2, W2, c2, st2⟩ := own_iastore X0 hx hZ e0 fp2 (own_i3' h30 (by first | (simp only [own_inc_len, own_pre_len, own_s0_len, own_s1_len, own_s2_len, own_s3_len, own_s4_len]; done) | (simp only [own_inc_len, own_pre_len, own_s0_len, own_s1_len, own_s2_len, own_s3_len, own_s4_len]; rfl) | rfl)) (g := (mkF m 33 #[rv a1, rv a2, rv a3, rv a1, iv (3 : Int32), iv (0 : Int32), iv x0, .unset, .unset] [(.int (([(0 : Int32), (0 : Int32), (0 : Int32), (0 : Int32)].getD (kk0 + (1 : Int32)).toNatClampNeg 0) + (1 : Int32))), (.int (kk0 + (1 : Int32))), (.ref a3)])) rfl rfl (hb hby d3_33)
  have N2 := Fr.snoc X2 N0 g_a3
  have c3 : own_Ari Z h2 a3 .int ([(0 : Int32), (0 : Int32), (0 : Int32), (0 : Int32)].set (kk0 + (1 : Int32)).toNatClampNeg (([(0 : Int32), (0 : Int32), (0 : Int32), (0 : Int32)].getD (kk0 + (1 : Int32)).toNatClampNeg 0) + (1 : Int32))) := c2
  have c4 : own_Ari Z h2 a1 .int [x0, x1, x2] := fp0.other W2 ne_a1_a3
  have c5 : own_Ari Z h2 a2 .int [kv0, kv1, kv2, kv3] := fp1.other W2 ne_a2_a3
  have c7 : Exa Z h2 a3 "[I" := fp3.wr W2
  have K2 : Keep h0 h2 [a3] := (Keep.refl h0 [a3]).wr W2 (Or.inl (List.mem_of_getElem? (i := 0) rfl))
  refine own_step st2 ?_
  have c8 : own_Ari Z h2 a3 .int (own_inc [(0 : Int32), (0 : Int32), (0 : Int32), (0 : Int32)] (kk0 + (1 : Int32))) := c3
  refine own_step (fun t k => XS.iinc X2.here hx rfl (hb hby d3_34) rfl (l' := #[rv a1, rv a2, rv a3, rv a1, iv (3 : Int32), iv (1 : Int32), iv x0, .unset, .unset]) rfl k) ?_
  show own_G p.tables e below _ (T2.setTop (mkF m 37 #[rv a1, rv a2, rv a3, rv a1, iv (3 : Int32), iv (1 : Int32), iv x0, .unset, .unset] []))
  refine own_step (fun t k => XS.goto X2.here hx rfl (pc0 := 37) (pc' := 9) rfl (hb hby d3_37) (by decide) (by decide) k) ?_
  refine own_step (fun t k => XS.iload X2.here hx rfl (hb hby d3_9) rfl k) ?_
  refine own_step (fun t k => XS.iload X2.here hx rfl (hb hby d3_11) rfl k) ?_
  have hk9 : (1 : Int32) < (3 : Int32) := (by decide)
  refine own_step (fun t k => XS.icmpNo X2.here hx rfl (hb hby d3_13) rfl ((tlt hk9).2.1) k) ?_
  show own_G p.tables e below _ (T2.setTop (mkF m 16 #[rv a1, rv a2, rv a3, rv a1, iv (3 : Int32), iv (1 : Int32), iv x0, .unset, .unset] []))
  refine own_step (fun t k => XS.aloadN X2.here hx rfl (hb hby d3_16) rfl rfl k) ?_
  refine own_step (fun t k => XS.iload X2.here hx rfl (hb hby d3_17) rfl k) ?_
  refine own_step (own_iaload X2 hx hZ e2 c4 (own_inb (by decide) (Nat.le_of_ble_eq_true rfl)) (g := (mkF m 19 #[rv a1, rv a2, rv a3, rv a1, iv (3 : Int32), iv (1 : Int32), iv x0, .unset, .unset] [(.int (1 : Int32)), (.ref a1)])) rfl rfl (hb hby d3_19)) ?_
  refine own_step (fun t k => XS.istore X2.here hx rfl (hb hby d3_20) rfl (l' := #[rv a1, rv a2, rv a3, rv a1, iv (3 : Int32), iv (1 : Int32), iv x1, .unset, .unset]) rfl k) ?_
  show own_G p.tables e below _ (T2.setTop (mkF m 22 #[rv a1, rv a2, rv a3, rv a1, iv (3 : Int32), iv (1 : Int32), iv x1, .unset, .unset] []))
  refine own_step (fun t k => XS.aloadN X2.here hx rfl (hb hby d3_22) rfl rfl k) ?_
  refine own_step (fun t k => XS.aloadN X2.here hx rfl (hb hby d3_23) rfl rfl k) ?_
  refine own_step (fun t k => XS.iload X2.here hx rfl (hb hby d3_24) rfl k) ?_
  refine own_step (own_iaload X2 hx hZ e2 c5 (own_i4 hx1 rfl) (g := (mkF m 26 #[rv a1, rv a2, rv a3, rv a1, iv (3 : Int32), iv (1 : Int32), iv x1, .unset, .unset] [(.int x1), (.ref a2), (.ref a3)])) rfl rfl (hb hby d3_26)) ?_
  show own_G p.tables e below _ (T2.setTop (mkF m 27 #[rv a1, rv a2, rv a3, rv a1, iv (3 : Int32), iv (1 : Int32), iv x1, .unset, .unset] [(.int ([kv0, kv1, kv2, kv3].getD x1.toNatClampNeg 0)), (.ref a3)]))
  show own_G p.tables e below _ (T2.setTop (mkF m 27 #[rv a1, rv a2, rv a3, rv a1, iv (3 : Int32), iv (1 : Int32), iv x1, .unset, .unset] [(.int ([kv0, kv1, kv2, kv3].getD x1.toNatClampNeg 0)), (.ref a3)]))
  rw [hky1]
  show own_G p.tables e below _ (T2.setTop (mkF m 27 #[rv a1, rv a2, rv a3, rv a1, iv (3 : Int32), iv (1 : Int32), iv x1, .unset, .unset] [(.int kk1), (.ref a3)]))
  refine own_step (fun t k => XS.iconst X2.here hx rfl (hb hby d3_27) k) ?_
  refine own_step (fun t k => XS.iadd X2.here hx rfl (hb hby d3_28) rfl k) ?_
  refine own_step (B := T2.setTop (mkF m 30 #[rv a1, rv a2, rv a3, rv a1, iv (3 : Int32), iv (1 : Int32), iv x1, .unset, .unset] [(.int (kk1 + (1 : Int32))), (.ref a3), (.int (kk1 + (1 : Int32))), (.ref a3)])) (fun t k => by
    jvm_step X2.here [X2.here.top, hx, (hb hby d3_29), Value.category]
    exact k) ?_
  refine own_step (own_iaload X2 hx hZ e2 c8 (own_i3' h31 (by first | (simp only [own_inc_len, own_pre_len, own_s0_len, own_s1_len, own_s2_len, own_s3_len, own_s4_len]; done) | (simp only [own_inc_len, own_pre_len, own_s0_len, own_s1_len, own_s2_len, own_s3_len, own_s4_len]; rfl) | rfl)) (g := (mkF m 30 #[rv a1, rv a2, rv a3, rv a1, iv (3 : Int32), iv (1 : Int32), iv x1, .unset, .unset] [(.int (kk1 + (1 : Int32))), (.ref a3), (.int (kk1 + (1 : Int32))), (.ref a3)])) rfl rfl (hb hby d3_30)) ?_
  show own_G p.tables e below _ (T2.setTop (mkF m 31 #[rv a1, rv a2, rv a3, rv a1, iv (3 : Int32), iv (1 : Int32), iv x1, .unset, .unset] [(.int ((own_inc [(0 : Int32), (0 : Int32), (0 : Int32), (0 : Int32)] (kk0 + (1 : Int32))).getD (kk1 + (1 : Int32)).toNatClampNeg 0)), (.int (kk1 + (1 : Int32))), (.ref a3)]))
  refine own_step (fun t k => XS.iconst X2.here hx rfl (hb hby d3_31) k) ?_
  refine own_step (fun t k => XS.iadd X2.here hx rfl (hb hby d3_32) rfl k) ?_
  obtain ⟨T10, h10, X10, e10, W10, c10, st10⟩ := own_iastore X2 hx hZ e2 c8 (own_i3' h31 (by first | (simp only [own_inc_len, own_pre_len, own_s0_len, own_s1_len, own_s2_len, own_s3_len, own_s4_len]; done) | (simp only [own_inc_len, own_pre_len, own_s0_len, own_s1_len, own_s2_len, own_s3_len, own_s4_len]; rfl) | rfl)) (g := (mkF m 33 #[rv a1, rv a2, rv a3, rv a1, iv (3 : Int32), iv (1 : Int32), iv x1, .unset, .unset] [(.int (((own_inc [(0 : Int32), (0 : Int32), (0 : Int32), (0 : Int32)] (kk0 + (1 : Int32))).getD (kk1 + (1 : Int32)).toNatClampNeg 0) + (1 : Int32))), (.int (kk1 + (1 : Int32))), (.ref a3)])) rfl rfl (hb hby d3_33)
  have N10 := Fr.snoc X10 N2 g_a3
  have c11 : own_Ari Z h10 a3 .int ((own_inc [(0 : Int32), (0 : Int32), (0 : Int32), (0 : Int32)] (kk0 + (1 : Int32))).set (kk1 + (1 : Int32)).toNatClampNeg (((own_inc [(0 : Int32), (0 : Int32), (0 : Int32), (0 : Int32)] (kk0 + (1 : Int32))).getD (kk1 + (1 : Int32)).toNatClampNeg 0) + (1 : Int32))) := c10
  have c12 : own_Ari Z h10 a1 .int [x0, x1, x2] := c4.other W10 ne_a1_a3
  have c13 : own_Ari Z h10 a2 .int [kv0, kv1, kv2, kv3] := c5.other W10 ne_a2_a3
  have c15 : Exa Z h10 a3 "[I" := c7.wr W10
  have K10 : Keep h0 h10 [a3] := K2.wr W10 (Or.inl (List.mem_of_getElem? (i := 0) rfl))
  refine own_step st10 ?_
  have c16 : own_Ari Z h10 a3 .int (own_inc (own_inc [(0 : Int32), (0 : Int32), (0 : Int32), (0 : Int32)] (kk0 + (1 : Int32))) (kk1 + (1 : Int32))) := c11
  refine own_step (fun t k => XS.iinc X10.here hx rfl (hb hby d3_34) rfl (l' := #[rv a1, rv a2, rv a3, rv a1, iv (3 : Int32), iv (2 : Int32), iv x1, .unset, .unset]) rfl k) ?_
  clear K2 N2 W10 W2 X2 c10 c11 c2 c3 c4 c5 c7 c8 e2 hk1 hk9 st10 st2
  show own_G p.tables e below _ (T10.setTop (mkF m 37 #[rv a1, rv a2, rv a3, rv a1, iv (3 : Int32), iv (2 : Int32), iv x1, .unset, .unset] []))
  refine own_step (fun t k => XS.goto X10.here hx rfl (pc0 := 37) (pc' := 9) rfl (hb hby d3_37) (by decide) (by decide) k) ?_
  refine own_step (fun t k => XS.iload X10.here hx rfl (hb hby d3_9) rfl k) ?_
  refine own_step (fun t k => XS.iload X10.here hx rfl (hb hby d3_11) rfl k) ?_
  have hk17 : (2 : Int32) < (3 : Int32) := (by decide)
  refine own_step (fun t k => XS.icmpNo X10.here hx rfl (hb hby d3_13) rfl ((tlt hk17).2.1) k) ?_
  show own_G p.tables e below _ (T10.setTop (mkF m 16 #[rv a1, rv a2, rv a3, rv a1, iv (3 : Int32), iv (2 : Int32), iv x1, .unset, .unset] []))
  refine own_step (fun t k => XS.aloadN X10.here hx rfl (hb hby d3_16) rfl rfl k) ?_
  refine own_step (fun t k => XS.iload X10.here hx rfl (hb hby d3_17) rfl k) ?_
  refine own_step (own_iaload X10 hx hZ e10 c12 (own_inb (by decide) (Nat.le_of_ble_eq_true rfl)) (g := (mkF m 19 #[rv a1, rv a2, rv a3, rv a1, iv (3 : Int32), iv (2 : Int32), iv x1, .unset, .unset] [(.int (2 : Int32)), (.ref a1)])) rfl rfl (hb hby d3_19)) ?_
  refine own_step (fun t k => XS.istore X10.here hx rfl (hb hby d3_20) rfl (l' := #[rv a1, rv a2, rv a3, rv a1, iv (3 : Int32), iv (2 : Int32), iv x2, .unset, .unset]) rfl k) ?_
  show own_G p.tables e below _ (T10.setTop (mkF m 22 #[rv a1, rv a2, rv a3, rv a1, iv (3 : Int32), iv (2 : Int32), iv x2, .unset, .unset] []))
  refine own_step (fun t k => XS.aloadN X10.here hx rfl (hb hby d3_22) rfl rfl k) ?_
  refine own_step (fun t k => XS.aloadN X10.here hx rfl (hb hby d3_23) rfl rfl k) ?_
  refine own_step (fun t k => XS.iload X10.here hx rfl (hb hby d3_24) rfl k) ?_
  refine own_step (own_iaload X10 hx hZ e10 c13 (own_i4 hx2 rfl) (g := (mkF m 26 #[rv a1, rv a2, rv a3, rv a1, iv (3 : Int32), iv (2 : Int32), iv x2, .unset, .unset] [(.int x2), (.ref a2), (.ref a3)])) rfl rfl (hb hby d3_26)) ?_
  show own_G p.tables e below _ (T10.setTop (mkF m 27 #[rv a1, rv a2, rv a3, rv a1, iv (3 : Int32), iv (2 : Int32), iv x2, .unset, .unset] [(.int ([kv0, kv1, kv2, kv3].getD x2.toNatClampNeg 0)), (.ref a3)]))
  show own_G p.tables e below _ (T10.setTop (mkF m 27 #[rv a1, rv a2, rv a3, rv a1, iv (3 : Int32), iv (2 : Int32), iv x2, .unset, .unset] [(.int ([kv0, kv1, kv2, kv3].getD x2.toNatClampNeg 0)), (.ref a3)]))
  rw [hky2]
  show own_G p.tables e below _ (T10.setTop (mkF m 27 #[rv a1, rv a2, rv a3, rv a1, iv (3 : Int32), iv (2 : Int32), iv x2, .unset, .unset] [(.int kk2), (.ref a3)]))
  refine own_step (fun t k => XS.iconst X10.here hx rfl (hb hby d3_27) k) ?_
  refine own_step (fun t k => XS.iadd X10.here hx rfl (hb hby d3_28) rfl k) ?_
  refine own_step (B := T10.setTop (mkF m 30 #[rv a1, rv a2, rv a3, rv a1, iv (3 : Int32), iv (2 : Int32), iv x2, .unset, .unset] [(.int (kk2 + (1 : Int32))), (.ref a3), (.int (kk2 + (1 : Int32))), (.ref a3)])) (fun t k => by
    jvm_step X10.here [X10.here.top, hx, (hb hby d3_29), Value.category]
    exact k) ?_
  refine own_step (own_iaload X10 hx hZ e10 c16 (own_i3' h32 (by first | (simp only [own_inc_len, own_pre_len, own_s0_len, own_s1_len, own_s2_len, own_s3_len, own_s4_len]; done) | (simp only [own_inc_len, own_pre_len, own_s0_len, own_s1_len, own_s2_len, own_s3_len, own_s4_len]; rfl) | rfl)) (g := (mkF m 30 #[rv a1, rv a2, rv a3, rv a1, iv (3 : Int32), iv (2 : Int32), iv x2, .unset, .unset] [(.int (kk2 + (1 : Int32))), (.ref a3), (.int (kk2 + (1 : Int32))), (.ref a3)])) rfl rfl (hb hby d3_30)) ?_
  show own_G p.tables e below _ (T10.setTop (mkF m 31 #[rv a1, rv a2, rv a3, rv a1, iv (3 : Int32), iv (2 : Int32), iv x2, .unset, .unset] [(.int ((own_inc (own_inc [(0 : Int32), (0 : Int32), (0 : Int32), (0 : Int32)] (kk0 + (1 : Int32))) (kk1 + (1 : Int32))).getD (kk2 + (1 : Int32)).toNatClampNeg 0)), (.int (kk2 + (1 : Int32))), (.ref a3)]))
  refine own_step (fun t k => XS.iconst X10.here hx rfl (hb hby d3_31) k) ?_
  refine own_step (fun t k => XS.iadd X10.here hx rfl (hb hby d3_32) rfl k) ?_
  obtain ⟨T18, h18, X18, e18, W18, c18, st18⟩ := own_iastore X10 hx hZ e10 c16 (own_i3' h32 (by first | (simp only [own_inc_len, own_pre_len, own_s0_len, own_s1_len, own_s2_len, own_s3_len, own_s4_len]; done) | (simp only [own_inc_len, own_pre_len, own_s0_len, own_s1_len, own_s2_len, own_s3_len, own_s4_len]; rfl) | rfl)) (g := (mkF m 33 #[rv a1, rv a2, rv a3, rv a1, iv (3 : Int32), iv (2 : Int32), iv x2, .unset, .unset] [(.int (((own_inc (own_inc [(0 : Int32), (0 : Int32), (0 : Int32), (0 : Int32)] (kk0 + (1 : Int32))) (kk1 + (1 : Int32))).getD (kk2 + (1 : Int32)).toNatClampNeg 0) + (1 : Int32))), (.int (kk2 + (1 : Int32))), (.ref a3)])) rfl rfl (hb hby d3_33)
  have N18 := Fr.snoc X18 N10 g_a3
  have c19 : own_Ari Z h18 a3 .int ((own_inc (own_inc [(0 : Int32), (0 : Int32), (0 : Int32), (0 : Int32)] (kk0 + (1 : Int32))) (kk1 + (1 : Int32))).set (kk2 + (1 : Int32)).toNatClampNeg (((own_inc (own_inc [(0 : Int32), (0 : Int32), (0 : Int32), (0 : Int32)] (kk0 + (1 : Int32))) (kk1 + (1 : Int32))).getD (kk2 + (1 : Int32)).toNatClampNeg 0) + (1 : Int32))) := c18
  have c20 : own_Ari Z h18 a1 .int [x0, x1, x2] := c12.other W18 ne_a1_a3
  have c21 : own_Ari Z h18 a2 .int [kv0, kv1, kv2, kv3] := c13.other W18 ne_a2_a3
  have c23 : Exa Z h18 a3 "[I" := c15.wr W18
  have K18 : Keep h0 h18 [a3] := K10.wr W18 (Or.inl (List.mem_of_getElem? (i := 0) rfl))
  refine own_step st18 ?_
  have c24 : own_Ari Z h18 a3 .int (own_inc (own_inc (own_inc [(0 : Int32), (0 : Int32), (0 : Int32), (0 : Int32)] (kk0 + (1 : Int32))) (kk1 + (1 : Int32))) (kk2 + (1 : Int32))) := c19
  refine own_step (fun t k => XS.iinc X18.here hx rfl (hb hby d3_34) rfl (l' := #[rv a1, rv a2, rv a3, rv a1, iv (3 : Int32), iv (3 : Int32), iv x2, .unset, .unset]) rfl k) ?_
  clear K10 N10 W18 X10 c12 c13 c15 c16 c18 c19 e10 hk17 st18
  show own_G p.tables e below _ (T18.setTop (mkF m 37 #[rv a1, rv a2, rv a3, rv a1, iv (3 : Int32), iv (3 : Int32), iv x2, .unset, .unset] []))
  refine own_step (fun t k => XS.goto X18.here hx rfl (pc0 := 37) (pc' := 9) rfl (hb hby d3_37) (by decide) (by decide) k) ?_
  refine own_step (fun t k => XS.iload X18.here hx rfl (hb hby d3_9) rfl k) ?_
  refine own_step (fun t k => XS.iload X18.here hx rfl (hb hby d3_11) rfl k) ?_
  have hk25 : ¬ ((3 : Int32) < (3 : Int32)) := (by decide)
  refine own_step (fun t k => XS.icmpYes X18.here hx rfl (pc0 := 13) (pc' := 40) rfl (hb hby d3_13) rfl ((flt hk25).2.1) (by decide) (by decide) k) ?_
  show own_G p.tables e below _ (T18.setTop (mkF m 40 #[rv a1, rv a2, rv a3, rv a1, iv (3 : Int32), iv (3 : Int32), iv x2, .unset, .unset] []))
  refine own_step (fun t k => XS.iconst X18.here hx rfl (hb hby d3_40) k) ?_
  refine own_step (fun t k => XS.istoreN X18.here hx rfl (hb hby d3_41) rfl (l' := #[rv a1, rv a2, rv a3, iv (0 : Int32), iv (3 : Int32), iv (3 : Int32), iv x2, .unset, .unset]) rfl k) ?_
  refine own_step (fun t k => XS.iloadN X18.here hx rfl (hb hby d3_42) rfl k) ?_
  refine own_step (fun t k => XS.aloadN X18.here hx rfl (hb hby d3_43) rfl rfl k) ?_
  show own_G p.tables e below _ (T18.setTop (mkF m 44 #[rv a1, rv a2, rv a3, iv (0 : Int32), iv (3 : Int32), iv (3 : Int32), iv x2, .unset, .unset] [(.ref a3), (.int (0 : Int32))]))
  refine own_step (own_lenI X18 hx hZ e18 c24 (g := (mkF m 44 #[rv a1, rv a2, rv a3, iv (0 : Int32), iv (3 : Int32), iv (3 : Int32), iv x2, .unset, .unset] [(.ref a3), (.int (0 : Int32))])) rfl rfl (hb hby d3_44)) ?_
  show own_G p.tables e below _ (T18.setTop (mkF m 45 #[rv a1, rv a2, rv a3, iv (0 : Int32), iv (3 : Int32), iv (3 : Int32), iv x2, .unset, .unset] [(.int ((own_inc (own_inc (own_inc [(0 : Int32), (0 : Int32), (0 : Int32), (0 : Int32)] (kk0 + (1 : Int32))) (kk1 + (1 : Int32))) (kk2 + (1 : Int32))).length.toInt32)), (.int (0 : Int32))]))
  rw [show ((own_inc (own_inc (own_inc [(0 : Int32), (0 : Int32), (0 : Int32), (0 : Int32)] (kk0 + (1 : Int32))) (kk1 + (1 : Int32))) (kk2 + (1 : Int32))).length.toInt32) = (4 : Int32) from by simp only [own_inc_len, own_pre_len]; rfl]
  show own_G p.tables e below _ (T18.setTop (mkF m 45 #[rv a1, rv a2, rv a3, iv (0 : Int32), iv (3 : Int32), iv (3 : Int32), iv x2, .unset, .unset] [(.int (4 : Int32)), (.int (0 : Int32))]))
  refine own_step (fun t k => XS.iconst X18.here hx rfl (hb hby d3_45) k) ?_
  refine own_step (fun t k => XS.isub X18.here hx rfl (hb hby d3_46) rfl k) ?_
  have hk26 : (0 : Int32) < (3 : Int32) := (by decide)
  refine own_step (fun t k => XS.icmpNo X18.here hx rfl (hb hby d3_47) rfl ((tlt hk26).2.1) k) ?_
  show own_G p.tables e below _ (T18.setTop (mkF m 50 #[rv a1, rv a2, rv a3, iv (0 : Int32), iv (3 : Int32), iv (3 : Int32), iv x2, .unset, .unset] []))
  refine own_step (fun t k => XS.aloadN X18.here hx rfl (hb hby d3_50) rfl rfl k) ?_
  refine own_step (fun t k => XS.iloadN X18.here hx rfl (hb hby d3_51) rfl k) ?_
  refine own_step (fun t k => XS.iconst X18.here hx rfl (hb hby d3_52) k) ?_
  refine own_step (fun t k => XS.iadd X18.here hx rfl (hb hby d3_53) rfl k) ?_
  show own_G p.tables e below _ (T18.setTop (mkF m 54 #[rv a1, rv a2, rv a3, iv (0 : Int32), iv (3 : Int32), iv (3 : Int32), iv x2, .unset, .unset] [(.int (1 : Int32)), (.ref a3)]))
  refine own_step (B := T18.setTop (mkF m 55 #[rv a1, rv a2, rv a3, iv (0 : Int32), iv (3 : Int32), iv (3 : Int32), iv x2, .unset, .unset] [(.int (1 : Int32)), (.ref a3), (.int (1 : Int32)), (.ref a3)])) (fun t k => by
    jvm_step X18.here [X18.here.top, hx, (hb hby d3_54), Value.category]
    exact k) ?_
  refine own_step (own_iaload X18 hx hZ e18 c24 (own_setL (n := 4) (by first | (simp only [own_inc_len, own_pre_len, own_s0_len, own_s1_len, own_s2_len, own_s3_len, own_s4_len]; done) | (simp only [own_inc_len, own_pre_len, own_s0_len, own_s1_len, own_s2_len, own_s3_len, own_s4_len]; rfl) | rfl) (own_inb (by decide) (by decide))) (g := (mkF m 55 #[rv a1, rv a2, rv a3, iv (0 : Int32), iv (3 : Int32), iv (3 : Int32), iv x2, .unset, .unset] [(.int (1 : Int32)), (.ref a3), (.int (1 : Int32)), (.ref a3)])) rfl rfl (hb hby d3_55)) ?_
  refine own_step (fun t k => XS.aloadN X18.here hx rfl (hb hby d3_56) rfl rfl k) ?_
  refine own_step (fun t k => XS.iloadN X18.here hx rfl (hb hby d3_57) rfl k) ?_
  show own_G p.tables e below _ (T18.setTop (mkF m 58 #[rv a1, rv a2, rv a3, iv (0 : Int32), iv (3 : Int32), iv (3 : Int32), iv x2, .unset, .unset] [(.int (0 : Int32)), (.ref a3), (.int ((own_inc (own_inc (own_inc [(0 : Int32), (0 : Int32), (0 : Int32), (0 : Int32)] (kk0 + (1 : Int32))) (kk1 + (1 : Int32))) (kk2 + (1 : Int32))).getD 1 0)), (.int (1 : Int32)), (.ref a3)]))
  refine own_step (own_iaload X18 hx hZ e18 c24 (own_setL (n := 4) (by first | (simp only [own_inc_len, own_pre_len, own_s0_len, own_s1_len, own_s2_len, own_s3_len, own_s4_len]; done) | (simp only [own_inc_len, own_pre_len, own_s0_len, own_s1_len, own_s2_len, own_s3_len, own_s4_len]; rfl) | rfl) (own_inb (by decide) (by decide))) (g := (mkF m 58 #[rv a1, rv a2, rv a3, iv (0 : Int32), iv (3 : Int32), iv (3 : Int32), iv x2, .unset, .unset] [(.int (0 : Int32)), (.ref a3), (.int ((own_inc (own_inc (own_inc [(0 : Int32), (0 : Int32), (0 : Int32), (0 : Int32)] (kk0 + (1 : Int32))) (kk1 + (1 : Int32))) (kk2 + (1 : Int32))).getD 1 0)), (.int (1 : Int32)), (.ref a3)])) rfl rfl (hb hby d3_58)) ?_
  refine own_step (fun t k => XS.iadd X18.here hx rfl (hb hby d3_59) rfl k) ?_
  obtain ⟨T27, h27, X27, e27, W27, c27, st27⟩ := own_iastore X18 hx hZ e18 c24 (own_setL (n := 4) (by first | (simp only [own_inc_len, own_pre_len, own_s0_len, own_s1_len, own_s2_len, own_s3_len, own_s4_len]; done) | (simp only [own_inc_len, own_pre_len, own_s0_len, own_s1_len, own_s2_len, own_s3_len, own_s4_len]; rfl) | rfl) (own_inb (by decide) (by decide))) (g := (mkF m 60 #[rv a1, rv a2, rv a3, iv (0 : Int32), iv (3 : Int32), iv (3 : Int32), iv x2, .unset, .unset] [(.int (((own_inc (own_inc (own_inc [(0 : Int32), (0 : Int32), (0 : Int32), (0 : Int32)] (kk0 + (1 : Int32))) (kk1 + (1 : Int32))) (kk2 + (1 : Int32))).getD 1 0) + ((own_inc (own_inc (own_inc [(0 : Int32), (0 : Int32), (0 : Int32), (0 : Int32)] (kk0 + (1 : Int32))) (kk1 + (1 : Int32))) (kk2 + (1 : Int32))).getD 0 0))), (.int (1 : Int32)), (.ref a3)])) rfl rfl (hb hby d3_60)
  have N27 := Fr.snoc X27 N18 g_a3
  have c28 : own_Ari Z h27 a3 .int ((own_inc (own_inc (own_inc [(0 : Int32), (0 : Int32), (0 : Int32), (0 : Int32)] (kk0 + (1 : Int32))) (kk1 + (1 : Int32))) (kk2 + (1 : Int32))).set 1 (((own_inc (own_inc (own_inc [(0 : Int32), (0 : Int32), (0 : Int32), (0 : Int32)] (kk0 + (1 : Int32))) (kk1 + (1 : Int32))) (kk2 + (1 : Int32))).getD 1 0) + ((own_inc (own_inc (own_inc [(0 : Int32), (0 : Int32), (0 : Int32), (0 : Int32)] (kk0 + (1 : Int32))) (kk1 + (1 : Int32))) (kk2 + (1 : Int32))).getD 0 0))) := c27
  have c29 : own_Ari Z h27 a1 .int [x0, x1, x2] := c20.other W27 ne_a1_a3
  have c30 : own_Ari Z h27 a2 .int [kv0, kv1, kv2, kv3] := c21.other W27 ne_a2_a3
  have c32 : Exa Z h27 a3 "[I" := c23.wr W27
  have K27 : Keep h0 h27 [a3] := K18.wr W27 (Or.inl (List.mem_of_getElem? (i := 0) rfl))
  refine own_step st27 ?_
  have c33 : own_Ari Z h27 a3 .int (own_pre (own_inc (own_inc (own_inc [(0 : Int32), (0 : Int32), (0 : Int32), (0 : Int32)] (kk0 + (1 : Int32))) (kk1 + (1 : Int32))) (kk2 + (1 : Int32))) 0) := c28
  refine own_step (fun t k => XS.iinc X27.here hx rfl (hb hby d3_61) rfl (l' := #[rv a1, rv a2, rv a3, iv (1 : Int32), iv (3 : Int32), iv (3 : Int32), iv x2, .unset, .unset]) rfl k) ?_
  clear K18 N18 W27 X18 c20 c21 c23 c24 c27 c28 e18 hk25 hk26 st27
  show own_G p.tables e below _ (T27.setTop (mkF m 64 #[rv a1, rv a2, rv a3, iv (1 : Int32), iv (3 : Int32), iv (3 : Int32), iv x2, .unset, .unset] []))
  refine own_step (fun t k => XS.goto X27.here hx rfl (pc0 := 64) (pc' := 42) rfl (hb hby d3_64) (by decide) (by decide) k) ?_
  refine own_step (fun t k => XS.iloadN X27.here hx rfl (hb hby d3_42) rfl k) ?_
  refine own_step (fun t k => XS.aloadN X27.here hx rfl (hb hby d3_43) rfl rfl k) ?_
  refine own_step (own_lenI X27 hx hZ e27 c33 (g := (mkF m 44 #[rv a1, rv a2, rv a3, iv (1 : Int32), iv (3 : Int32), iv (3 : Int32), iv x2, .unset, .unset] [(.ref a3), (.int (1 : Int32))])) rfl rfl (hb hby d3_44)) ?_
  show own_G p.tables e below _ (T27.setTop (mkF m 45 #[rv a1, rv a2, rv a3, iv (1 : Int32), iv (3 : Int32), iv (3 : Int32), iv x2, .unset, .unset] [(.int ((own_pre (own_inc (own_inc (own_inc [(0 : Int32), (0 : Int32), (0 : Int32), (0 : Int32)] (kk0 + (1 : Int32))) (kk1 + (1 : Int32))) (kk2 + (1 : Int32))) 0).length.toInt32)), (.int (1 : Int32))]))
  show own_G p.tables e below _ (T27.setTop (mkF m 45 #[rv a1, rv a2, rv a3, iv (1 : Int32), iv (3 : Int32), iv (3 : Int32), iv x2, .unset, .unset] [(.int ((own_pre (own_inc (own_inc (own_inc [(0 : Int32), (0 : Int32), (0 : Int32), (0 : Int32)] (kk0 + (1 : Int32))) (kk1 + (1 : Int32))) (kk2 + (1 : Int32))) 0).length.toInt32)), (.int (1 : Int32))]))
  rw [show ((own_pre (own_inc (own_inc (own_inc [(0 : Int32), (0 : Int32), (0 : Int32), (0 : Int32)] (kk0 + (1 : Int32))) (kk1 + (1 : Int32))) (kk2 + (1 : Int32))) 0).length.toInt32) = (4 : Int32) from by simp only [own_inc_len, own_pre_len]; rfl]
  show own_G p.tables e below _ (T27.setTop (mkF m 45 #[rv a1, rv a2, rv a3, iv (1 : Int32), iv (3 : Int32), iv (3 : Int32), iv x2, .unset, .unset] [(.int (4 : Int32)), (.int (1 : Int32))]))
  refine own_step (fun t k => XS.iconst X27.here hx rfl (hb hby d3_45) k) ?_
  refine own_step (fun t k => XS.isub X27.here hx rfl (hb hby d3_46) rfl k) ?_
  have hk34 : (1 : Int32) < (3 : Int32) := (by decide)
  refine own_step (fun t k => XS.icmpNo X27.here hx rfl (hb hby d3_47) rfl ((tlt hk34).2.1) k) ?_
  show own_G p.tables e below _ (T27.setTop (mkF m 50 #[rv a1, rv a2, rv a3, iv (1 : Int32), iv (3 : Int32), iv (3 : Int32), iv x2, .unset, .unset] []))
  refine own_step (fun t k => XS.aloadN X27.here hx rfl (hb hby d3_50) rfl rfl k) ?_
  refine own_step (fun t k => XS.iloadN X27.here hx rfl (hb hby d3_51) rfl k) ?_
  refine own_step (fun t k => XS.iconst X27.here hx rfl (hb hby d3_52) k) ?_
  refine own_step (fun t k => XS.iadd X27.here hx rfl (hb hby d3_53) rfl k) ?_
  show own_G p.tables e below _ (T27.setTop (mkF m 54 #[rv a1, rv a2, rv a3, iv (1 : Int32), iv (3 : Int32), iv (3 : Int32), iv x2, .unset, .unset] [(.int (2 : Int32)), (.ref a3)]))
  refine own_step (B := T27.setTop (mkF m 55 #[rv a1, rv a2, rv a3, iv (1 : Int32), iv (3 : Int32), iv (3 : Int32), iv x2, .unset, .unset] [(.int (2 : Int32)), (.ref a3), (.int (2 : Int32)), (.ref a3)])) (fun t k => by
    jvm_step X27.here [X27.here.top, hx, (hb hby d3_54), Value.category]
    exact k) ?_
  refine own_step (own_iaload X27 hx hZ e27 c33 (own_setL (n := 4) (by first | (simp only [own_inc_len, own_pre_len, own_s0_len, own_s1_len, own_s2_len, own_s3_len, own_s4_len]; done) | (simp only [own_inc_len, own_pre_len, own_s0_len, own_s1_len, own_s2_len, own_s3_len, own_s4_len]; rfl) | rfl) (own_inb (by decide) (by decide))) (g := (mkF m 55 #[rv a1, rv a2, rv a3, iv (1 : Int32), iv (3 : Int32), iv (3 : Int32), iv x2, .unset, .unset] [(.int (2 : Int32)), (.ref a3), (.int (2 : Int32)), (.ref a3)])) rfl rfl (hb hby d3_55)) ?_
  refine own_step (fun t k => XS.aloadN X27.here hx rfl (hb hby d3_56) rfl rfl k) ?_
  refine own_step (fun t k => XS.iloadN X27.here hx rfl (hb hby d3_57) rfl k) ?_
  show own_G p.tables e below _ (T27.setTop (mkF m 58 #[rv a1, rv a2, rv a3, iv (1 : Int32), iv (3 : Int32), iv (3 : Int32), iv x2, .unset, .unset] [(.int (1 : Int32)), (.ref a3), (.int ((own_pre (own_inc (own_inc (own_inc [(0 : Int32), (0 : Int32), (0 : Int32), (0 : Int32)] (kk0 + (1 : Int32))) (kk1 + (1 : Int32))) (kk2 + (1 : Int32))) 0).getD 2 0)), (.int (2 : Int32)), (.ref a3)]))
  refine own_step (own_iaload X27 hx hZ e27 c33 (own_setL (n := 4) (by first | (simp only [own_inc_len, own_pre_len, own_s0_len, own_s1_len, own_s2_len, own_s3_len, own_s4_len]; done) | (simp only [own_inc_len, own_pre_len, own_s0_len, own_s1_len, own_s2_len, own_s3_len, own_s4_len]; rfl) | rfl) (own_inb (by decide) (by decide))) (g := (mkF m 58 #[rv a1, rv a2, rv a3, iv (1 : Int32), iv (3 : Int32), iv (3 : Int32), iv x2, .unset, .unset] [(.int (1 : Int32)), (.ref a3), (.int ((own_pre (own_inc (own_inc (own_inc [(0 : Int32), (0 : Int32), (0 : Int32), (0 : Int32)] (kk0 + (1 : Int32))) (kk1 + (1 : Int32))) (kk2 + (1 : Int32))) 0).getD 2 0)), (.int (2 : Int32)), (.ref a3)])) rfl rfl (hb hby d3_58)) ?_
  refine own_step (fun t k => XS.iadd X27.here hx rfl (hb hby d3_59) rfl k) ?_
  obtain ⟨T35, h35, X35, e35, W35, c35, st35⟩ := own_iastore X27 hx hZ e27 c33 (own_setL (n := 4) (by first | (simp only [own_inc_len, own_pre_len, own_s0_len, own_s1_len, own_s2_len, own_s3_len, own_s4_len]; done) | (simp only [own_inc_len, own_pre_len, own_s0_len, own_s1_len, own_s2_len, own_s3_len, own_s4_len]; rfl) | rfl) (own_inb (by decide) (by decide))) (g := (mkF m 60 #[rv a1, rv a2, rv a3, iv (1 : Int32), iv (3 : Int32), iv (3 : Int32), iv x2, .unset, .unset] [(.int (((own_pre (own_inc (own_inc (own_inc [(0 : Int32), (0 : Int32), (0 : Int32), (0 : Int32)] (kk0 + (1 : Int32))) (kk1 + (1 : Int32))) (kk2 + (1 : Int32))) 0).getD 2 0) + ((own_pre (own_inc (own_inc (own_inc [(0 : Int32), (0 : Int32), (0 : Int32), (0 : Int32)] (kk0 + (1 : Int32))) (kk1 + (1 : Int32))) (kk2 + (1 : Int32))) 0).getD 1 0))), (.int (2 : Int32)), (.ref a3)])) rfl rfl (hb hby d3_60)
  have N35 := Fr.snoc X35 N27 g_a3
  have c36 : own_Ari Z h35 a3 .int ((own_pre (own_inc (own_inc (own_inc [(0 : Int32), (0 : Int32), (0 : Int32), (0 : Int32)] (kk0 + (1 : Int32))) (kk1 + (1 : Int32))) (kk2 + (1 : Int32))) 0).set 2 (((own_pre (own_inc (own_inc (own_inc [(0 : Int32), (0 : Int32), (0 : Int32), (0 : Int32)] (kk0 + (1 : Int32))) (kk1 + (1 : Int32))) (kk2 + (1 : Int32))) 0).getD 2 0) + ((own_pre (own_inc (own_inc (own_inc [(0 : Int32), (0 : Int32), (0 : Int32), (0 : Int32)] (kk0 + (1 : Int32))) (kk1 + (1 : Int32))) (kk2 + (1 : Int32))) 0).getD 1 0))) := c35
  have c37 : own_Ari Z h35 a1 .int [x0, x1, x2] := c29.other W35 ne_a1_a3
  have c38 : own_Ari Z h35 a2 .int [kv0, kv1, kv2, kv3] := c30.other W35 ne_a2_a3
  have c40 : Exa Z h35 a3 "[I" := c32.wr W35
  have K35 : Keep h0 h35 [a3] := K27.wr W35 (Or.inl (List.mem_of_getElem? (i := 0) rfl))
  refine own_step st35 ?_
  have c41 : own_Ari Z h35 a3 .int (own_pre (own_pre (own_inc (own_inc (own_inc [(0 : Int32), (0 : Int32), (0 : Int32), (0 : Int32)] (kk0 + (1 : Int32))) (kk1 + (1 : Int32))) (kk2 + (1 : Int32))) 0) 1) := c36
  refine own_step (fun t k => XS.iinc X35.here hx rfl (hb hby d3_61) rfl (l' := #[rv a1, rv a2, rv a3, iv (2 : Int32), iv (3 : Int32), iv (3 : Int32), iv x2, .unset, .unset]) rfl k) ?_
  clear K27 N27 W35 X27 c29 c30 c32 c33 c35 c36 e27 hk34 st35
  show own_G p.tables e below _ (T35.setTop (mkF m 64 #[rv a1, rv a2, rv a3, iv (2 : Int32), iv (3 : Int32), iv (3 : Int32), iv x2, .unset, .unset] []))
  refine own_step (fun t k => XS.goto X35.here hx rfl (pc0 := 64) (pc' := 42) rfl (hb hby d3_64) (by decide) (by decide) k) ?_
  refine own_step (fun t k => XS.iloadN X35.here hx rfl (hb hby d3_42) rfl k) ?_
  refine own_step (fun t k => XS.aloadN X35.here hx rfl (hb hby d3_43) rfl rfl k) ?_
  refine own_step (own_lenI X35 hx hZ e35 c41 (g := (mkF m 44 #[rv a1, rv a2, rv a3, iv (2 : Int32), iv (3 : Int32), iv (3 : Int32), iv x2, .unset, .unset] [(.ref a3), (.int (2 : Int32))])) rfl rfl (hb hby d3_44)) ?_
  show own_G p.tables e below _ (T35.setTop (mkF m 45 #[rv a1, rv a2, rv a3, iv (2 : Int32), iv (3 : Int32), iv (3 : Int32), iv x2, .unset, .unset] [(.int ((own_pre (own_pre (own_inc (own_inc (own_inc [(0 : Int32), (0 : Int32), (0 : Int32), (0 : Int32)] (kk0 + (1 : Int32))) (kk1 + (1 : Int32))) (kk2 + (1 : Int32))) 0) 1).length.toInt32)), (.int (2 : Int32))]))
  show own_G p.tables e below _ (T35.setTop (mkF m 45 #[rv a1, rv a2, rv a3, iv (2 : Int32), iv (3 : Int32), iv (3 : Int32), iv x2, .unset, .unset] [(.int ((own_pre (own_pre (own_inc (own_inc (own_inc [(0 : Int32), (0 : Int32), (0 : Int32), (0 : Int32)] (kk0 + (1 : Int32))) (kk1 + (1 : Int32))) (kk2 + (1 : Int32))) 0) 1).length.toInt32)), (.int (2 : Int32))]))
  rw [show ((own_pre (own_pre (own_inc (own_inc (own_inc [(0 : Int32), (0 : Int32), (0 : Int32), (0 : Int32)] (kk0 + (1 : Int32))) (kk1 + (1 : Int32))) (kk2 + (1 : Int32))) 0) 1).length.toInt32) = (4 : Int32) from by simp only [own_inc_len, own_pre_len]; rfl]
  show own_G p.tables e below _ (T35.setTop (mkF m 45 #[rv a1, rv a2, rv a3, iv (2 : Int32), iv (3 : Int32), iv (3 : Int32), iv x2, .unset, .unset] [(.int (4 : Int32)), (.int (2 : Int32))]))
  refine own_step (fun t k => XS.iconst X35.here hx rfl (hb hby d3_45) k) ?_
  refine own_step (fun t k => XS.isub X35.here hx rfl (hb hby d3_46) rfl k) ?_
  have hk42 : (2 : Int32) < (3 : Int32) := (by decide)
  refine own_step (fun t k => XS.icmpNo X35.here hx rfl (hb hby d3_47) rfl ((tlt hk42).2.1) k) ?_
  show own_G p.tables e below _ (T35.setTop (mkF m 50 #[rv a1, rv a2, rv a3, iv (2 : Int32), iv (3 : Int32), iv (3 : Int32), iv x2, .unset, .unset] []))
  refine own_step (fun t k => XS.aloadN X35.here hx rfl (hb hby d3_50) rfl rfl k) ?_
  refine own_step (fun t k => XS.iloadN X35.here hx rfl (hb hby d3_51) rfl k) ?_
  refine own_step (fun t k => XS.iconst X35.here hx rfl (hb hby d3_52) k) ?_
  refine own_step (fun t k => XS.iadd X35.here hx rfl (hb hby d3_53) rfl k) ?_
  show own_G p.tables e below _ (T35.setTop (mkF m 54 #[rv a1, rv a2, rv a3, iv (2 : Int32), iv (3 : Int32), iv (3 : Int32), iv x2, .unset, .unset] [(.int (3 : Int32)), (.ref a3)]))
  refine own_step (B := T35.setTop (mkF m 55 #[rv a1, rv a2, rv a3, iv (2 : Int32), iv (3 : Int32), iv (3 : Int32), iv x2, .unset, .unset] [(.int (3 : Int32)), (.ref a3), (.int (3 : Int32)), (.ref a3)])) (fun t k => by
    jvm_step X35.here [X35.here.top, hx, (hb hby d3_54), Value.category]
    exact k) ?_
  refine own_step (own_iaload X35 hx hZ e35 c41 (own_setL (n := 4) (by first | (simp only [own_inc_len, own_pre_len, own_s0_len, own_s1_len, own_s2_len, own_s3_len, own_s4_len]; done) | (simp only [own_inc_len, own_pre_len, own_s0_len, own_s1_len, own_s2_len, own_s3_len, own_s4_len]; rfl) | rfl) (own_inb (by decide) (by decide))) (g := (mkF m 55 #[rv a1, rv a2, rv a3, iv (2 : Int32), iv (3 : Int32), iv (3 : Int32), iv x2, .unset, .unset] [(.int (3 : Int32)), (.ref a3), (.int (3 : Int32)), (.ref a3)])) rfl rfl (hb hby d3_55)) ?_
  refine own_step (fun t k => XS.aloadN X35.here hx rfl (hb hby d3_56) rfl rfl k) ?_
  refine own_step (fun t k => XS.iloadN X35.here hx rfl (hb hby d3_57) rfl k) ?_
  show own_G p.tables e below _ (T35.setTop (mkF m 58 #[rv a1, rv a2, rv a3, iv (2 : Int32), iv (3 : Int32), iv (3 : Int32), iv x2, .unset, .unset] [(.int (2 : Int32)), (.ref a3), (.int ((own_pre (own_pre (own_inc (own_inc (own_inc [(0 : Int32), (0 : Int32), (0 : Int32), (0 : Int32)] (kk0 + (1 : Int32))) (kk1 + (1 : Int32))) (kk2 + (1 : Int32))) 0) 1).getD 3 0)), (.int (3 : Int32)), (.ref a3)]))
  refine own_step (own_iaload X35 hx hZ e35 c41 (own_setL (n := 4) (by first | (simp only [own_inc_len, own_pre_len, own_s0_len, own_s1_len, own_s2_len, own_s3_len, own_s4_len]; done) | (simp only [own_inc_len, own_pre_len, own_s0_len, own_s1_len, own_s2_len, own_s3_len, own_s4_len]; rfl) | rfl) (own_inb (by decide) (by decide))) (g := (mkF m 58 #[rv a1, rv a2, rv a3, iv (2 : Int32), iv (3 : Int32), iv (3 : Int32), iv x2, .unset, .unset] [(.int (2 : Int32)), (.ref a3), (.int ((own_pre (own_pre (own_inc (own_inc (own_inc [(0 : Int32), (0 : Int32), (0 : Int32), (0 : Int32)] (kk0 + (1 : Int32))) (kk1 + (1 : Int32))) (kk2 + (1 : Int32))) 0) 1).getD 3 0)), (.int (3 : Int32)), (.ref a3)])) rfl rfl (hb hby d3_58)) ?_
  refine own_step (fun t k => XS.iadd X35.here hx rfl (hb hby d3_59) rfl k) ?_
  obtain ⟨T43, h43, X43, e43, W43, c43, st43⟩ := own_iastore X35 hx hZ e35 c41 (own_setL (n := 4) (by first | (simp only [own_inc_len, own_pre_len, own_s0_len, own_s1_len, own_s2_len, own_s3_len, own_s4_len]; done) | (simp only [own_inc_len, own_pre_len, own_s0_len, own_s1_len, own_s2_len, own_s3_len, own_s4_len]; rfl) | rfl) (own_inb (by decide) (by decide))) (g := (mkF m 60 #[rv a1, rv a2, rv a3, iv (2 : Int32), iv (3 : Int32), iv (3 : Int32), iv x2, .unset, .unset] [(.int (((own_pre (own_pre (own_inc (own_inc (own_inc [(0 : Int32), (0 : Int32), (0 : Int32), (0 : Int32)] (kk0 + (1 : Int32))) (kk1 + (1 : Int32))) (kk2 + (1 : Int32))) 0) 1).getD 3 0) + ((own_pre (own_pre (own_inc (own_inc (own_inc [(0 : Int32), (0 : Int32), (0 : Int32), (0 : Int32)] (kk0 + (1 : Int32))) (kk1 + (1 : Int32))) (kk2 + (1 : Int32))) 0) 1).getD 2 0))), (.int (3 : Int32)), (.ref a3)])) rfl rfl (hb hby d3_60)
  have N43 := Fr.snoc X43 N35 g_a3
  have c44 : own_Ari Z h43 a3 .int ((own_pre (own_pre (own_inc (own_inc (own_inc [(0 : Int32), (0 : Int32), (0 : Int32), (0 : Int32)] (kk0 + (1 : Int32))) (kk1 + (1 : Int32))) (kk2 + (1 : Int32))) 0) 1).set 3 (((own_pre (own_pre (own_inc (own_inc (own_inc [(0 : Int32), (0 : Int32), (0 : Int32), (0 : Int32)] (kk0 + (1 : Int32))) (kk1 + (1 : Int32))) (kk2 + (1 : Int32))) 0) 1).getD 3 0) + ((own_pre (own_pre (own_inc (own_inc (own_inc [(0 : Int32), (0 : Int32), (0 : Int32), (0 : Int32)] (kk0 + (1 : Int32))) (kk1 + (1 : Int32))) (kk2 + (1 : Int32))) 0) 1).getD 2 0))) := c43
  have c45 : own_Ari Z h43 a1 .int [x0, x1, x2] := c37.other W43 ne_a1_a3
  have c46 : own_Ari Z h43 a2 .int [kv0, kv1, kv2, kv3] := c38.other W43 ne_a2_a3
  have c48 : Exa Z h43 a3 "[I" := c40.wr W43
  have K43 : Keep h0 h43 [a3] := K35.wr W43 (Or.inl (List.mem_of_getElem? (i := 0) rfl))
  refine own_step st43 ?_
  have c49 : own_Ari Z h43 a3 .int (own_pre (own_pre (own_pre (own_inc (own_inc (own_inc [(0 : Int32), (0 : Int32), (0 : Int32), (0 : Int32)] (kk0 + (1 : Int32))) (kk1 + (1 : Int32))) (kk2 + (1 : Int32))) 0) 1) 2) := c44
  refine own_step (fun t k => XS.iinc X43.here hx rfl (hb hby d3_61) rfl (l' := #[rv a1, rv a2, rv a3, iv (3 : Int32), iv (3 : Int32), iv (3 : Int32), iv x2, .unset, .unset]) rfl k) ?_
  clear K35 N35 W43 X35 c37 c38 c40 c41 c43 c44 e35 hk42 st43
  show own_G p.tables e below _ (T43.setTop (mkF m 64 #[rv a1, rv a2, rv a3, iv (3 : Int32), iv (3 : Int32), iv (3 : Int32), iv x2, .unset, .unset] []))
  refine own_step (fun t k => XS.goto X43.here hx rfl (pc0 := 64) (pc' := 42) rfl (hb hby d3_64) (by decide) (by decide) k) ?_
  refine own_step (fun t k => XS.iloadN X43.here hx rfl (hb hby d3_42) rfl k) ?_
  refine own_step (fun t k => XS.aloadN X43.here hx rfl (hb hby d3_43) rfl rfl k) ?_
  refine own_step (own_lenI X43 hx hZ e43 c49 (g := (mkF m 44 #[rv a1, rv a2, rv a3, iv (3 : Int32), iv (3 : Int32), iv (3 : Int32), iv x2, .unset, .unset] [(.ref a3), (.int (3 : Int32))])) rfl rfl (hb hby d3_44)) ?_
  show own_G p.tables e below _ (T43.setTop (mkF m 45 #[rv a1, rv a2, rv a3, iv (3 : Int32), iv (3 : Int32), iv (3 : Int32), iv x2, .unset, .unset] [(.int ((own_pre (own_pre (own_pre (own_inc (own_inc (own_inc [(0 : Int32), (0 : Int32), (0 : Int32), (0 : Int32)] (kk0 + (1 : Int32))) (kk1 + (1 : Int32))) (kk2 + (1 : Int32))) 0) 1) 2).length.toInt32)), (.int (3 : Int32))]))
  show own_G p.tables e below _ (T43.setTop (mkF m 45 #[rv a1, rv a2, rv a3, iv (3 : Int32), iv (3 : Int32), iv (3 : Int32), iv x2, .unset, .unset] [(.int ((own_pre (own_pre (own_pre (own_inc (own_inc (own_inc [(0 : Int32), (0 : Int32), (0 : Int32), (0 : Int32)] (kk0 + (1 : Int32))) (kk1 + (1 : Int32))) (kk2 + (1 : Int32))) 0) 1) 2).length.toInt32)), (.int (3 : Int32))]))
  rw [show ((own_pre (own_pre (own_pre (own_inc (own_inc (own_inc [(0 : Int32), (0 : Int32), (0 : Int32), (0 : Int32)] (kk0 + (1 : Int32))) (kk1 + (1 : Int32))) (kk2 + (1 : Int32))) 0) 1) 2).length.toInt32) = (4 : Int32) from by simp only [own_inc_len, own_pre_len]; rfl]
  show own_G p.tables e below _ (T43.setTop (mkF m 45 #[rv a1, rv a2, rv a3, iv (3 : Int32), iv (3 : Int32), iv (3 : Int32), iv x2, .unset, .unset] [(.int (4 : Int32)), (.int (3 : Int32))]))
  refine own_step (fun t k => XS.iconst X43.here hx rfl (hb hby d3_45) k) ?_
  refine own_step (fun t k => XS.isub X43.here hx rfl (hb hby d3_46) rfl k) ?_
  have hk50 : ¬ ((3 : Int32) < (3 : Int32)) := (by decide)
  refine own_step (fun t k => XS.icmpYes X43.here hx rfl (pc0 := 47) (pc' := 67) rfl (hb hby d3_47) rfl ((flt hk50).2.1) (by decide) (by decide) k) ?_
  show own_G p.tables e below _ (T43.setTop (mkF m 67 #[rv a1, rv a2, rv a3, iv (3 : Int32), iv (3 : Int32), iv (3 : Int32), iv x2, .unset, .unset] []))
  have c51 : own_Ari Z h43 a3 .int (own_s3 kk0 kk1 kk2) := c49
  refine own_step (fun t k => XS.aloadN X43.here hx rfl (hb hby d3_67) rfl rfl k) ?_
  refine own_step (own_lenI X43 hx hZ e43 c45 (g := (mkF m 68 #[rv a1, rv a2, rv a3, iv (3 : Int32), iv (3 : Int32), iv (3 : Int32), iv x2, .unset, .unset] [(.ref a1)])) rfl rfl (hb hby d3_68)) ?_
  obtain ⟨T52, h52, k52, X52, e52, E52, A52, st52⟩ := newP X43 hx hZ (hw _ (List.mem_of_getElem? (i := 0) rfl)) e43 (g := (mkF m 69 #[rv a1, rv a2, rv a3, iv (3 : Int32), iv (3 : Int32), iv (3 : Int32), iv x2, .unset, .unset] [(.int (3 : Int32))])) rfl (hb hby d3_69) rfl (by decide) (cap := 3) (by decide) (by decide) (by decide) (by decide)
  obtain ⟨b52, g52⟩ : ∃ z, z = h43.size := ⟨_, rfl⟩
  have ne53 : a1 ≠ b52 := Nat.ne_of_lt (Nat.lt_of_lt_of_le c45.lt (Nat.le_of_eq g52.symm))
  have ne54 : a2 ≠ b52 := Nat.ne_of_lt (Nat.lt_of_lt_of_le c46.lt (Nat.le_of_eq g52.symm))
  have ne55 : a3 ≠ b52 := Nat.ne_of_lt (Nat.lt_of_lt_of_le c51.lt (Nat.le_of_eq g52.symm))
  have sz52 : h0.size ≤ b52 := Nat.le_trans K43.1 (Nat.le_of_eq g52.symm)
  have ge52 : n0 ≤ b52 := Nat.le_trans Z0 sz52
  have c56 : own_Ari Z h52 a1 .int [x0, x1, x2] := c45.ext E52
  have c57 : own_Ari Z h52 a2 .int [kv0, kv1, kv2, kv3] := c46.ext E52
  have c58 : own_Ari Z h52 a3 .int (own_s3 kk0 kk1 kk2) := c51.ext E52
  have c59 : Exa Z h52 a3 "[I" := c48.ext E52
  have K52 : Keep h0 h52 [a3] := K43.ext E52
  rw [← g52] at A52 st52
  have c60 : own_Ari Z h52 b52 .int [(0 : Int32), (0 : Int32), (0 : Int32)] := own_Ari_new (ty := .int) A52 (by decide) rfl
  refine own_step st52 ?_
  refine own_step (fun t k => XS.astoreN X52.here hx rfl (hb hby d3_71) rfl rfl (l' := #[rv a1, rv a2, rv a3, rv b52, iv (3 : Int32), iv (3 : Int32), iv x2, .unset, .unset]) rfl k) ?_
  clear A52 E52 K43 X43 c45 c46 c48 c49 c51 e43 g52 hk50 st52
  show own_G p.tables e below _ (T52.setTop (mkF m 72 #[rv a1, rv a2, rv a3, rv b52, iv (3 : Int32), iv (3 : Int32), iv x2, .unset, .unset] []))
  refine own_step (fun t k => XS.aloadN X52.here hx rfl (hb hby d3_72) rfl rfl k) ?_
  obtain ⟨T61, h61, X61, e61, E61, A61, B61, st61⟩ := own_cloneI X52 hx hZ hown (hw _ (List.mem_of_getElem? (i := 12) rfl)) (hw _ (List.mem_of_getElem? (i := 13) rfl)) (hw _ (List.mem_of_getElem? (i := 17) rfl)) (hw _ (List.mem_of_getElem? (i := 15) rfl)) (hw _ (List.mem_of_getElem? (i := 16) rfl)) (hw _ (List.mem_of_getElem? (i := 18) rfl)) e52 c58 c59 (g := (mkF m 73 #[rv a1, rv a2, rv a3, rv b52, iv (3 : Int32), iv (3 : Int32), iv x2, .unset, .unset] [(.ref a3)])) rfl (by rw [hml]; rfl) rfl (hb hby d3_73) (by decide) (W := 0) (cap := 4) (by show 2 * 0 + _ ≤ _; exact Nat.le_of_eq rfl) (by decide) (by rw [own_s3_len]; decide) (by decide) (by decide)
  obtain ⟨b61, g61⟩ : ∃ z, z = h52.size := ⟨_, rfl⟩
  have ne62 : a1 ≠ b61 := Nat.ne_of_lt (Nat.lt_of_lt_of_le c56.lt (Nat.le_of_eq g61.symm))
  have ne63 : a2 ≠ b61 := Nat.ne_of_lt (Nat.lt_of_lt_of_le c57.lt (Nat.le_of_eq g61.symm))
  have ne64 : a3 ≠ b61 := Nat.ne_of_lt (Nat.lt_of_lt_of_le c58.lt (Nat.le_of_eq g61.symm))
  have ne65 : b52 ≠ b61 := Nat.ne_of_lt (Nat.lt_of_lt_of_le c60.lt (Nat.le_of_eq g61.symm))
  have sz61 : h0.size ≤ b61 := Nat.le_trans K52.1 (Nat.le_of_eq g61.symm)
  have ge61 : n0 ≤ b61 := Nat.le_trans Z0 sz61
  have c66 : own_Ari Z h61 a1 .int [x0, x1, x2] := c56.ext E61
  have c67 : own_Ari Z h61 a2 .int [kv0, kv1, kv2, kv3] := c57.ext E61
  have c68 : own_Ari Z h61 a3 .int (own_s3 kk0 kk1 kk2) := c58.ext E61
  have c69 : Exa Z h61 a3 "[I" := c59.ext E61
  have c70 : own_Ari Z h61 b52 .int [(0 : Int32), (0 : Int32), (0 : Int32)] := c60.ext E61
  have K61 : Keep h0 h61 [a3] := K52.ext E61
  rw [← g61] at A61 B61 st61
  refine own_step st61 ?_
  obtain ⟨T71, X71, e71, st71⟩ := castY X61 hx hZ hown (hw _ (List.mem_of_getElem? (i := 19) rfl)) e61 (Ins.self B61) (g := (mkF m 76 #[rv a1, rv a2, rv a3, rv b52, iv (3 : Int32), iv (3 : Int32), iv x2, .unset, .unset] [(.ref b61)])) rfl rfl (hb hby d3_76)
  refine own_step st71 ?_
  refine own_step (fun t k => XS.astore X71.here hx rfl (hb hby d3_79) rfl rfl (l' := #[rv a1, rv a2, rv a3, rv b52, rv b61, iv (3 : Int32), iv x2, .unset, .unset]) rfl k) ?_
  clear E61 K52 X52 X61 c56 c57 c58 c59 c60 e52 e61 g61 st61 st71
  show own_G p.tables e below _ (T71.setTop (mkF m 81 #[rv a1, rv a2, rv a3, rv b52, rv b61, iv (3 : Int32), iv x2, .unset, .unset] []))
  refine own_step (fun t k => XS.aloadN X71.here hx rfl (hb hby d3_81) rfl rfl k) ?_
  refine own_step (fun t k => XS.astore X71.here hx rfl (hb hby d3_82) rfl rfl (l' := #[rv a1, rv a2, rv a3, rv b52, rv b61, rv a1, iv x2, .unset, .unset]) rfl k) ?_
  refine own_step (fun t k => XS.aload X71.here hx rfl (hb hby d3_84) rfl rfl k) ?_
  refine own_step (own_lenI X71 hx hZ e71 c66 (g := (mkF m 86 #[rv a1, rv a2, rv a3, rv b52, rv b61, rv a1, iv x2, .unset, .unset] [(.ref a1)])) rfl rfl (hb hby d3_86)) ?_
  show own_G p.tables e below _ (T71.setTop (mkF m 87 #[rv a1, rv a2, rv a3, rv b52, rv b61, rv a1, iv x2, .unset, .unset] [(.int (3 : Int32))]))
  refine own_step (fun t k => XS.istore X71.here hx rfl (hb hby d3_87) rfl (l' := #[rv a1, rv a2, rv a3, rv b52, rv b61, rv a1, iv (3 : Int32), .unset, .unset]) rfl k) ?_
  refine own_step (fun t k => XS.iconst X71.here hx rfl (hb hby d3_89) k) ?_
  refine own_step (fun t k => XS.istore X71.here hx rfl (hb hby d3_90) rfl (l' := #[rv a1, rv a2, rv a3, rv b52, rv b61, rv a1, iv (3 : Int32), iv (0 : Int32), .unset]) rfl k) ?_
  refine own_step (fun t k => XS.iload X71.here hx rfl (hb hby d3_92) rfl k) ?_
  show own_G p.tables e below _ (T71.setTop (mkF m 94 #[rv a1, rv a2, rv a3, rv b52, rv b61, rv a1, iv (3 : Int32), iv (0 : Int32), .unset] [(.int (0 : Int32))]))
  refine own_step (fun t k => XS.iload X71.here hx rfl (hb hby d3_94) rfl k) ?_
  have hk72 : (0 : Int32) < (3 : Int32) := (by decide)
  refine own_step (fun t k => XS.icmpNo X71.here hx rfl (hb hby d3_96) rfl ((tlt hk72).2.1) k) ?_
  show own_G p.tables e below _ (T71.setTop (mkF m 99 #[rv a1, rv a2, rv a3, rv b52, rv b61, rv a1, iv (3 : Int32), iv (0 : Int32), .unset] []))
  refine own_step (fun t k => XS.aload X71.here hx rfl (hb hby d3_99) rfl rfl k) ?_
  refine own_step (fun t k => XS.iload X71.here hx rfl (hb hby d3_101) rfl k) ?_
  refine own_step (own_iaload X71 hx hZ e71 c66 (own_inb (by decide) (Nat.le_of_ble_eq_true rfl)) (g := (mkF m 103 #[rv a1, rv a2, rv a3, rv b52, rv b61, rv a1, iv (3 : Int32), iv (0 : Int32), .unset] [(.int (0 : Int32)), (.ref a1)])) rfl rfl (hb hby d3_103)) ?_
  refine own_step (fun t k => XS.istore X71.here hx rfl (hb hby d3_104) rfl (l' := #[rv a1, rv a2, rv a3, rv b52, rv b61, rv a1, iv (3 : Int32), iv (0 : Int32), iv x0]) rfl k) ?_
  show own_G p.tables e below _ (T71.setTop (mkF m 106 #[rv a1, rv a2, rv a3, rv b52, rv b61, rv a1, iv (3 : Int32), iv (0 : Int32), iv x0] []))
  refine own_step (fun t k => XS.aloadN X71.here hx rfl (hb hby d3_106) rfl rfl k) ?_
  refine own_step (fun t k => XS.aload X71.here hx rfl (hb hby d3_107) rfl rfl k) ?_
  refine own_step (fun t k => XS.aloadN X71.here hx rfl (hb hby d3_109) rfl rfl k) ?_
  refine own_step (fun t k => XS.iload X71.here hx rfl (hb hby d3_110) rfl k) ?_
  show own_G p.tables e below _ (T71.setTop (mkF m 112 #[rv a1, rv a2, rv a3, rv b52, rv b61, rv a1, iv (3 : Int32), iv (0 : Int32), iv x0] [(.int x0), (.ref a2), (.ref b61), (.ref b52)]))
  refine own_step (own_iaload X71 hx hZ e71 c67 (own_i4 hx0 rfl) (g := (mkF m 112 #[rv a1, rv a2, rv a3, rv b52, rv b61, rv a1, iv (3 : Int32), iv (0 : Int32), iv x0] [(.int x0), (.ref a2), (.ref b61), (.ref b52)])) rfl rfl (hb hby d3_112)) ?_
  show own_G p.tables e below _ (T71.setTop (mkF m 113 #[rv a1, rv a2, rv a3, rv b52, rv b61, rv a1, iv (3 : Int32), iv (0 : Int32), iv x0] [(.int ([kv0, kv1, kv2, kv3].getD x0.toNatClampNeg 0)), (.ref b61), (.ref b52)]))
  rw [hky0]
  show own_G p.tables e below _ (T71.setTop (mkF m 113 #[rv a1, rv a2, rv a3, rv b52, rv b61, rv a1, iv (3 : Int32), iv (0 : Int32), iv x0] [(.int kk0), (.ref b61), (.ref b52)]))
  refine own_step (B := T71.setTop (mkF m 114 #[rv a1, rv a2, rv a3, rv b52, rv b61, rv a1, iv (3 : Int32), iv (0 : Int32), iv x0] [(.int kk0), (.ref b61), (.int kk0), (.ref b61), (.ref b52)])) (fun t k => by
    jvm_step X71.here [X71.here.top, hx, (hb hby d3_113), Value.category]
    exact k) ?_
  refine own_step (own_iaload X71 hx hZ e71 A61 (own_i3 h30 (by first | (simp only [own_inc_len, own_pre_len, own_s0_len, own_s1_len, own_s2_len, own_s3_len, own_s4_len]; done) | (simp only [own_inc_len, own_pre_len, own_s0_len, own_s1_len, own_s2_len, own_s3_len, own_s4_len]; rfl) | rfl)) (g := (mkF m 114 #[rv a1, rv a2, rv a3, rv b52, rv b61, rv a1, iv (3 : Int32), iv (0 : Int32), iv x0] [(.int kk0), (.ref b61), (.int kk0), (.ref b61), (.ref b52)])) rfl rfl (hb hby d3_114)) ?_
  refine own_step (B := T71.setTop (mkF m 116 #[rv a1, rv a2, rv a3, rv b52, rv b61, rv a1, iv (3 : Int32), iv (0 : Int32), iv x0] [(.int ((own_s3 kk0 kk1 kk2).getD kk0.toNatClampNeg 0)), (.int kk0), (.ref b61), (.int ((own_s3 kk0 kk1 kk2).getD kk0.toNatClampNeg 0)), (.ref b52)])) (fun t k => by
    jvm_step X71.here [X71.here.top, hx, (hb hby d3_115), Value.category]
    exact k) ?_
  refine own_step (fun t k => XS.iconst X71.here hx rfl (hb hby d3_116) k) ?_
  show own_G p.tables e below _ (T71.setTop (mkF m 117 #[rv a1, rv a2, rv a3, rv b52, rv b61, rv a1, iv (3 : Int32), iv (0 : Int32), iv x0] [(.int (1 : Int32)), (.int ((own_s3 kk0 kk1 kk2).getD kk0.toNatClampNeg 0)), (.int kk0), (.ref b61), (.int ((own_s3 kk0 kk1 kk2).getD kk0.toNatClampNeg 0)), (.ref b52)]))
  refine own_step (fun t k => XS.iadd X71.here hx rfl (hb hby d3_117) rfl k) ?_
  obtain ⟨T73, h73, X73, e73, W73, c73, st73⟩ := own_iastore X71 hx hZ e71 A61 (own_i3 h30 (by first | (simp only [own_inc_len, own_pre_len, own_s0_len, own_s1_len, own_s2_len, own_s3_len, own_s4_len]; done) | (simp only [own_inc_len, own_pre_len, own_s0_len, own_s1_len, own_s2_len, own_s3_len, own_s4_len]; rfl) | rfl)) (g := (mkF m 118 #[rv a1, rv a2, rv a3, rv b52, rv b61, rv a1, iv (3 : Int32), iv (0 : Int32), iv x0] [(.int (((own_s3 kk0 kk1 kk2).getD kk0.toNatClampNeg 0) + (1 : Int32))), (.int kk0), (.ref b61), (.int ((own_s3 kk0 kk1 kk2).getD kk0.toNatClampNeg 0)), (.ref b52)])) rfl rfl (hb hby d3_118)
  have N73 := Fr.snoc X73 N43 ge61
  have c74 : own_Ari Z h73 b61 .int ((own_s3 kk0 kk1 kk2).set kk0.toNatClampNeg (((own_s3 kk0 kk1 kk2).getD kk0.toNatClampNeg 0) + (1 : Int32))) := c73
  have c75 : own_Ari Z h73 a1 .int [x0, x1, x2] := c66.other W73 ne62
  have c76 : own_Ari Z h73 a2 .int [kv0, kv1, kv2, kv3] := c67.other W73 ne63
  have c77 : own_Ari Z h73 a3 .int (own_s3 kk0 kk1 kk2) := c68.other W73 ne64
  have c78 : Exa Z h73 a3 "[I" := c69.wr W73
  have c79 : own_Ari Z h73 b52 .int [(0 : Int32), (0 : Int32), (0 : Int32)] := c70.other W73 ne65
  have c81 : Exa Z h73 b61 "[I" := B61.wr W73
  have K73 : Keep h0 h73 [a3] := K61.wr W73 (Or.inr sz61)
  refine own_step st73 ?_
  have c82 : own_Ari Z h73 b61 .int (own_inc (own_s3 kk0 kk1 kk2) kk0) := c74
  refine own_step (fun t k => XS.iload X73.here hx rfl (hb hby d3_119) rfl k) ?_
  obtain ⟨T83, h83, X83, e83, W83, c83, st83⟩ := own_iastore X73 hx hZ e73 c79 (own_setL rfl (own_pos3_0 h30 h31 h32)) (g := (mkF m 121 #[rv a1, rv a2, rv a3, rv b52, rv b61, rv a1, iv (3 : Int32), iv (0 : Int32), iv x0] [(.int x0), (.int ((own_s3 kk0 kk1 kk2).getD kk0.toNatClampNeg 0)), (.ref b52)])) rfl rfl (hb hby d3_121)
  have N83 := Fr.snoc X83 N73 ge52
  have c84 : own_Ari Z h83 b52 .int ([(0 : Int32), (0 : Int32), (0 : Int32)].set ((own_s3 kk0 kk1 kk2).getD kk0.toNatClampNeg 0).toNatClampNeg x0) := c83
  have c85 : own_Ari Z h83 a1 .int [x0, x1, x2] := c75.other W83 ne53
  have c86 : own_Ari Z h83 a2 .int [kv0, kv1, kv2, kv3] := c76.other W83 ne54
  have c87 : own_Ari Z h83 a3 .int (own_s3 kk0 kk1 kk2) := c77.other W83 ne55
  have c88 : Exa Z h83 a3 "[I" := c78.wr W83
  have c90 : own_Ari Z h83 b61 .int (own_inc (own_s3 kk0 kk1 kk2) kk0) := c82.other W83 (Ne.symm ne65)
  have c91 : Exa Z h83 b61 "[I" := c81.wr W83
  have K83 : Keep h0 h83 [a3] := K73.wr W83 (Or.inr sz52)
  refine own_step st83 ?_
  clear A61 B61 K61 K73 N43 N73 W73 W83 X71 X73 c66 c67 c68 c69 c70 c73 c74 c75 c76 c77 c78 c79 c81 c82 c83 e71 e73 hk72 st73 st83
  show own_G p.tables e below _ (T83.setTop (mkF m 122 #[rv a1, rv a2, rv a3, rv b52, rv b61, rv a1, iv (3 : Int32), iv (0 : Int32), iv x0] []))
  refine own_step (fun t k => XS.iinc X83.here hx rfl (hb hby d3_122) rfl (l' := #[rv a1, rv a2, rv a3, rv b52, rv b61, rv a1, iv (3 : Int32), iv (1 : Int32), iv x0]) rfl k) ?_
  refine own_step (fun t k => XS.goto X83.here hx rfl (pc0 := 125) (pc' := 92) rfl (hb hby d3_125) (by decide) (by decide) k) ?_
  refine own_step (fun t k => XS.iload X83.here hx rfl (hb hby d3_92) rfl k) ?_
  refine own_step (fun t k => XS.iload X83.here hx rfl (hb hby d3_94) rfl k) ?_
  show own_G p.tables e below _ (T83.setTop (mkF m 96 #[rv a1, rv a2, rv a3, rv b52, rv b61, rv a1, iv (3 : Int32), iv (1 : Int32), iv x0] [(.int (3 : Int32)), (.int (1 : Int32))]))
  have hk92 : (1 : Int32) < (3 : Int32) := (by decide)
  refine own_step (fun t k => XS.icmpNo X83.here hx rfl (hb hby d3_96) rfl ((tlt hk92).2.1) k) ?_
  show own_G p.tables e below _ (T83.setTop (mkF m 99 #[rv a1, rv a2, rv a3, rv b52, rv b61, rv a1, iv (3 : Int32), iv (1 : Int32), iv x0] []))
  refine own_step (fun t k => XS.aload X83.here hx rfl (hb hby d3_99) rfl rfl k) ?_
  refine own_step (fun t k => XS.iload X83.here hx rfl (hb hby d3_101) rfl k) ?_
  refine own_step (own_iaload X83 hx hZ e83 c85 (own_inb (by decide) (Nat.le_of_ble_eq_true rfl)) (g := (mkF m 103 #[rv a1, rv a2, rv a3, rv b52, rv b61, rv a1, iv (3 : Int32), iv (1 : Int32), iv x0] [(.int (1 : Int32)), (.ref a1)])) rfl rfl (hb hby d3_103)) ?_
  refine own_step (fun t k => XS.istore X83.here hx rfl (hb hby d3_104) rfl (l' := #[rv a1, rv a2, rv a3, rv b52, rv b61, rv a1, iv (3 : Int32), iv (1 : Int32), iv x1]) rfl k) ?_
  show own_G p.tables e below _ (T83.setTop (mkF m 106 #[rv a1, rv a2, rv a3, rv b52, rv b61, rv a1, iv (3 : Int32), iv (1 : Int32), iv x1] []))
  refine own_step (fun t k => XS.aloadN X83.here hx rfl (hb hby d3_106) rfl rfl k) ?_
  refine own_step (fun t k => XS.aload X83.here hx rfl (hb hby d3_107) rfl rfl k) ?_
  refine own_step (fun t k => XS.aloadN X83.here hx rfl (hb hby d3_109) rfl rfl k) ?_
  refine own_step (fun t k => XS.iload X83.here hx rfl (hb hby d3_110) rfl k) ?_
  show own_G p.tables e below _ (T83.setTop (mkF m 112 #[rv a1, rv a2, rv a3, rv b52, rv b61, rv a1, iv (3 : Int32), iv (1 : Int32), iv x1] [(.int x1), (.ref a2), (.ref b61), (.ref b52)]))
  refine own_step (own_iaload X83 hx hZ e83 c86 (own_i4 hx1 rfl) (g := (mkF m 112 #[rv a1, rv a2, rv a3, rv b52, rv b61, rv a1, iv (3 : Int32), iv (1 : Int32), iv x1] [(.int x1), (.ref a2), (.ref b61), (.ref b52)])) rfl rfl (hb hby d3_112)) ?_
  show own_G p.tables e below _ (T83.setTop (mkF m 113 #[rv a1, rv a2, rv a3, rv b52, rv b61, rv a1, iv (3 : Int32), iv (1 : Int32), iv x1] [(.int ([kv0, kv1, kv2, kv3].getD x1.toNatClampNeg 0)), (.ref b61), (.ref b52)]))
  rw [hky1]
  show own_G p.tables e below _ (T83.setTop (mkF m 113 #[rv a1, rv a2, rv a3, rv b52, rv b61, rv a1, iv (3 : Int32), iv (1 : Int32), iv x1] [(.int kk1), (.ref b61), (.ref b52)]))
  refine own_step (B := T83.setTop (mkF m 114 #[rv a1, rv a2, rv a3, rv b52, rv b61, rv a1, iv (3 : Int32), iv (1 : Int32), iv x1] [(.int kk1), (.ref b61), (.int kk1), (.ref b61), (.ref b52)])) (fun t k => by
    jvm_step X83.here [X83.here.top, hx, (hb hby d3_113), Value.category]
    exact k) ?_
  refine own_step (own_iaload X83 hx hZ e83 c90 (own_i3 h31 (by first | (simp only [own_inc_len, own_pre_len, own_s0_len, own_s1_len, own_s2_len, own_s3_len, own_s4_len]; done) | (simp only [own_inc_len, own_pre_len, own_s0_len, own_s1_len, own_s2_len, own_s3_len, own_s4_len]; rfl) | rfl)) (g := (mkF m 114 #[rv a1, rv a2, rv a3, rv b52, rv b61, rv a1, iv (3 : Int32), iv (1 : Int32), iv x1] [(.int kk1), (.ref b61), (.int kk1), (.ref b61), (.ref b52)])) rfl rfl (hb hby d3_114)) ?_
  refine own_step (B := T83.setTop (mkF m 116 #[rv a1, rv a2, rv a3, rv b52, rv b61, rv a1, iv (3 : Int32), iv (1 : Int32), iv x1] [(.int ((own_inc (own_s3 kk0 kk1 kk2) kk0).getD kk1.toNatClampNeg 0)), (.int kk1), (.ref b61), (.int ((own_inc (own_s3 kk0 kk1 kk2) kk0).getD kk1.toNatClampNeg 0)), (.ref b52)])) (fun t k => by
    jvm_step X83.here [X83.here.top, hx, (hb hby d3_115), Value.category]
    exact k) ?_
  refine own_step (fun t k => XS.iconst X83.here hx rfl (hb hby d3_116) k) ?_
  show own_G p.tables e below _ (T83.setTop (mkF m 117 #[rv a1, rv a2, rv a3, rv b52, rv b61, rv a1, iv (3 : Int32), iv (1 : Int32), iv x1] [(.int (1 : Int32)), (.int ((own_inc (own_s3 kk0 kk1 kk2) kk0).getD kk1.toNatClampNeg 0)), (.int kk1), (.ref b61), (.int ((own_inc (own_s3 kk0 kk1 kk2) kk0).getD kk1.toNatClampNeg 0)), (.ref b52)]))
  refine own_step (fun t k => XS.iadd X83.here hx rfl (hb hby d3_117) rfl k) ?_
  obtain ⟨T93, h93, X93, e93, W93, c93, st93⟩ := own_iastore X83 hx hZ e83 c90 (own_i3 h31 (by first | (simp only [own_inc_len, own_pre_len, own_s0_len, own_s1_len, own_s2_len, own_s3_len, own_s4_len]; done) | (simp only [own_inc_len, own_pre_len, own_s0_len, own_s1_len, own_s2_len, own_s3_len, own_s4_len]; rfl) | rfl)) (g := (mkF m 118 #[rv a1, rv a2, rv a3, rv b52, rv b61, rv a1, iv (3 : Int32), iv (1 : Int32), iv x1] [(.int (((own_inc (own_s3 kk0 kk1 kk2) kk0).getD kk1.toNatClampNeg 0) + (1 : Int32))), (.int kk1), (.ref b61), (.int ((own_inc (own_s3 kk0 kk1 kk2) kk0).getD kk1.toNatClampNeg 0)), (.ref b52)])) rfl rfl (hb hby d3_118)
  have N93 := Fr.snoc X93 N83 ge61
  have c94 : own_Ari Z h93 b61 .int ((own_inc (own_s3 kk0 kk1 kk2) kk0).set kk1.toNatClampNeg (((own_inc (own_s3 kk0 kk1 kk2) kk0).getD kk1.toNatClampNeg 0) + (1 : Int32))) := c93
  have c95 : own_Ari Z h93 a1 .int [x0, x1, x2] := c85.other W93 ne62
  have c96 : own_Ari Z h93 a2 .int [kv0, kv1, kv2, kv3] := c86.other W93 ne63
  have c97 : own_Ari Z h93 a3 .int (own_s3 kk0 kk1 kk2) := c87.other W93 ne64
  have c98 : Exa Z h93 a3 "[I" := c88.wr W93
  have c99 : own_Ari Z h93 b52 .int ([(0 : Int32), (0 : Int32), (0 : Int32)].set ((own_s3 kk0 kk1 kk2).getD kk0.toNatClampNeg 0).toNatClampNeg x0) := c84.other W93 ne65
  have c101 : Exa Z h93 b61 "[I" := c91.wr W93
  have K93 : Keep h0 h93 [a3] := K83.wr W93 (Or.inr sz61)
  refine own_step st93 ?_
  have c102 : own_Ari Z h93 b61 .int (own_inc (own_inc (own_s3 kk0 kk1 kk2) kk0) kk1) := c94
  refine own_step (fun t k => XS.iload X93.here hx rfl (hb hby d3_119) rfl k) ?_
  obtain ⟨T103, h103, X103, e103, W103, c103, st103⟩ := own_iastore X93 hx hZ e93 c99 (own_setL (by simp only [List.length_set]; rfl) (own_pos3_1 h30 h31 h32)) (g := (mkF m 121 #[rv a1, rv a2, rv a3, rv b52, rv b61, rv a1, iv (3 : Int32), iv (1 : Int32), iv x1] [(.int x1), (.int ((own_inc (own_s3 kk0 kk1 kk2) kk0).getD kk1.toNatClampNeg 0)), (.ref b52)])) rfl rfl (hb hby d3_121)
  have N103 := Fr.snoc X103 N93 ge52
  have c104 : own_Ari Z h103 b52 .int (([(0 : Int32), (0 : Int32), (0 : Int32)].set ((own_s3 kk0 kk1 kk2).getD kk0.toNatClampNeg 0).toNatClampNeg x0).set ((own_inc (own_s3 kk0 kk1 kk2) kk0).getD kk1.toNatClampNeg 0).toNatClampNeg x1) := c103
  have c105 : own_Ari Z h103 a1 .int [x0, x1, x2] := c95.other W103 ne53
  have c106 : own_Ari Z h103 a2 .int [kv0, kv1, kv2, kv3] := c96.other W103 ne54
  have c107 : own_Ari Z h103 a3 .int (own_s3 kk0 kk1 kk2) := c97.other W103 ne55
  have c108 : Exa Z h103 a3 "[I" := c98.wr W103
  have c110 : own_Ari Z h103 b61 .int (own_inc (own_inc (own_s3 kk0 kk1 kk2) kk0) kk1) := c102.other W103 (Ne.symm ne65)
  have c111 : Exa Z h103 b61 "[I" := c101.wr W103
  have K103 : Keep h0 h103 [a3] := K93.wr W103 (Or.inr sz52)
  refine own_step st103 ?_
  clear K83 K93 N83 N93 W103 W93 X83 X93 c101 c102 c103 c84 c85 c86 c87 c88 c90 c91 c93 c94 c95 c96 c97 c98 c99 e83 e93 hk92 st103 st93
  show own_G p.tables e below _ (T103.setTop (mkF m 122 #[rv a1, rv a2, rv a3, rv b52, rv b61, rv a1, iv (3 : Int32), iv (1 : Int32), iv x1] []))
  refine own_step (fun t k => XS.iinc X103.here hx rfl (hb hby d3_122) rfl (l' := #[rv a1, rv a2, rv a3, rv b52, rv b61, rv a1, iv (3 : Int32), iv (2 : Int32), iv x1]) rfl k) ?_
  refine own_step (fun t k => XS.goto X103.here hx rfl (pc0 := 125) (pc' := 92) rfl (hb hby d3_125) (by decide) (by decide) k) ?_
  refine own_step (fun t k => XS.iload X103.here hx rfl (hb hby d3_92) rfl k) ?_
  refine own_step (fun t k => XS.iload X103.here hx rfl (hb hby d3_94) rfl k) ?_
  show own_G p.tables e below _ (T103.setTop (mkF m 96 #[rv a1, rv a2, rv a3, rv b52, rv b61, rv a1, iv (3 : Int32), iv (2 : Int32), iv x1] [(.int (3 : Int32)), (.int (2 : Int32))]))
  have hk112 : (2 : Int32) < (3 : Int32) := (by decide)
  refine own_step (fun t k => XS.icmpNo X103.here hx rfl (hb hby d3_96) rfl ((tlt hk112).2.1) k) ?_
  show own_G p.tables e below _ (T103.setTop (mkF m 99 #[rv a1, rv a2, rv a3, rv b52, rv b61, rv a1, iv (3 : Int32), iv (2 : Int32), iv x1] []))
  refine own_step (fun t k => XS.aload X103.here hx rfl (hb hby d3_99) rfl rfl k) ?_
  refine own_step (fun t k => XS.iload X103.here hx rfl (hb hby d3_101) rfl k) ?_
  refine own_step (own_iaload X103 hx hZ e103 c105 (own_inb (by decide) (Nat.le_of_ble_eq_true rfl)) (g := (mkF m 103 #[rv a1, rv a2, rv a3, rv b52, rv b61, rv a1, iv (3 : Int32), iv (2 : Int32), iv x1] [(.int (2 : Int32)), (.ref a1)])) rfl rfl (hb hby d3_103)) ?_
  refine own_step (fun t k => XS.istore X103.here hx rfl (hb hby d3_104) rfl (l' := #[rv a1, rv a2, rv a3, rv b52, rv b61, rv a1, iv (3 : Int32), iv (2 : Int32), iv x2]) rfl k) ?_
  show own_G p.tables e below _ (T103.setTop (mkF m 106 #[rv a1, rv a2, rv a3, rv b52, rv b61, rv a1, iv (3 : Int32), iv (2 : Int32), iv x2] []))
  refine own_step (fun t k => XS.aloadN X103.here hx rfl (hb hby d3_106) rfl rfl k) ?_
  refine own_step (fun t k => XS.aload X103.here hx rfl (hb hby d3_107) rfl rfl k) ?_
  refine own_step (fun t k => XS.aloadN X103.here hx rfl (hb hby d3_109) rfl rfl k) ?_
  refine own_step (fun t k => XS.iload X103.here hx rfl (hb hby d3_110) rfl k) ?_
  show own_G p.tables e below _ (T103.setTop (mkF m 112 #[rv a1, rv a2, rv a3, rv b52, rv b61, rv a1, iv (3 : Int32), iv (2 : Int32), iv x2] [(.int x2), (.ref a2), (.ref b61), (.ref b52)]))
  refine own_step (own_iaload X103 hx hZ e103 c106 (own_i4 hx2 rfl) (g := (mkF m 112 #[rv a1, rv a2, rv a3, rv b52, rv b61, rv a1, iv (3 : Int32), iv (2 : Int32), iv x2] [(.int x2), (.ref a2), (.ref b61), (.ref b52)])) rfl rfl (hb hby d3_112)) ?_
  show own_G p.tables e below _ (T103.setTop (mkF m 113 #[rv a1, rv a2, rv a3, rv b52, rv b61, rv a1, iv (3 : Int32), iv (2 : Int32), iv x2] [(.int ([kv0, kv1, kv2, kv3].getD x2.toNatClampNeg 0)), (.ref b61), (.ref b52)]))
  rw [hky2]
  show own_G p.tables e below _ (T103.setTop (mkF m 113 #[rv a1, rv a2, rv a3, rv b52, rv b61, rv a1, iv (3 : Int32), iv (2 : Int32), iv x2] [(.int kk2), (.ref b61), (.ref b52)]))
  refine own_step (B := T103.setTop (mkF m 114 #[rv a1, rv a2, rv a3, rv b52, rv b61, rv a1, iv (3 : Int32), iv (2 : Int32), iv x2] [(.int kk2), (.ref b61), (.int kk2), (.ref b61), (.ref b52)])) (fun t k => by
    jvm_step X103.here [X103.here.top, hx, (hb hby d3_113), Value.category]
    exact k) ?_
  refine own_step (own_iaload X103 hx hZ e103 c110 (own_i3 h32 (by first | (simp only [own_inc_len, own_pre_len, own_s0_len, own_s1_len, own_s2_len, own_s3_len, own_s4_len]; done) | (simp only [own_inc_len, own_pre_len, own_s0_len, own_s1_len, own_s2_len, own_s3_len, own_s4_len]; rfl) | rfl)) (g := (mkF m 114 #[rv a1, rv a2, rv a3, rv b52, rv b61, rv a1, iv (3 : Int32), iv (2 : Int32), iv x2] [(.int kk2), (.ref b61), (.int kk2), (.ref b61), (.ref b52)])) rfl rfl (hb hby d3_114)) ?_
  refine own_step (B := T103.setTop (mkF m 116 #[rv a1, rv a2, rv a3, rv b52, rv b61, rv a1, iv (3 : Int32), iv (2 : Int32), iv x2] [(.int ((own_inc (own_inc (own_s3 kk0 kk1 kk2) kk0) kk1).getD kk2.toNatClampNeg 0)), (.int kk2), (.ref b61), (.int ((own_inc (own_inc (own_s3 kk0 kk1 kk2) kk0) kk1).getD kk2.toNatClampNeg 0)), (.ref b52)])) (fun t k => by
    jvm_step X103.here [X103.here.top, hx, (hb hby d3_115), Value.category]
    exact k) ?_
  refine own_step (fun t k => XS.iconst X103.here hx rfl (hb hby d3_116) k) ?_
  show own_G p.tables e below _ (T103.setTop (mkF m 117 #[rv a1, rv a2, rv a3, rv b52, rv b61, rv a1, iv (3 : Int32), iv (2 : Int32), iv x2] [(.int (1 : Int32)), (.int ((own_inc (own_inc (own_s3 kk0 kk1 kk2) kk0) kk1).getD kk2.toNatClampNeg 0)), (.int kk2), (.ref b61), (.int ((own_inc (own_inc (own_s3 kk0 kk1 kk2) kk0) kk1).getD kk2.toNatClampNeg 0)), (.ref b52)]))
  refine own_step (fun t k => XS.iadd X103.here hx rfl (hb hby d3_117) rfl k) ?_
  obtain ⟨T113, h113, X113, e113, W113, c113, st113⟩ := own_iastore X103 hx hZ e103 c110 (own_i3 h32 (by first | (simp only [own_inc_len, own_pre_len, own_s0_len, own_s1_len, own_s2_len, own_s3_len, own_s4_len]; done) | (simp only [own_inc_len, own_pre_len, own_s0_len, own_s1_len, own_s2_len, own_s3_len, own_s4_len]; rfl) | rfl)) (g := (mkF m 118 #[rv a1, rv a2, rv a3, rv b52, rv b61, rv a1, iv (3 : Int32), iv (2 : Int32), iv x2] [(.int (((own_inc (own_inc (own_s3 kk0 kk1 kk2) kk0) kk1).getD kk2.toNatClampNeg 0) + (1 : Int32))), (.int kk2), (.ref b61), (.int ((own_inc (own_inc (own_s3 kk0 kk1 kk2) kk0) kk1).getD kk2.toNatClampNeg 0)), (.ref b52)])) rfl rfl (hb hby d3_118)
  have N113 := Fr.snoc X113 N103 ge61
  have c114 : own_Ari Z h113 b61 .int ((own_inc (own_inc (own_s3 kk0 kk1 kk2) kk0) kk1).set kk2.toNatClampNeg (((own_inc (own_inc (own_s3 kk0 kk1 kk2) kk0) kk1).getD kk2.toNatClampNeg 0) + (1 : Int32))) := c113
  have c115 : own_Ari Z h113 a1 .int [x0, x1, x2] := c105.other W113 ne62
  have c116 : own_Ari Z h113 a2 .int [kv0, kv1, kv2, kv3] := c106.other W113 ne63
  have c117 : own_Ari Z h113 a3 .int (own_s3 kk0 kk1 kk2) := c107.other W113 ne64
  have c118 : Exa Z h113 a3 "[I" := c108.wr W113
  have c119 : own_Ari Z h113 b52 .int (([(0 : Int32), (0 : Int32), (0 : Int32)].set ((own_s3 kk0 kk1 kk2).getD kk0.toNatClampNeg 0).toNatClampNeg x0).set ((own_inc (own_s3 kk0 kk1 kk2) kk0).getD kk1.toNatClampNeg 0).toNatClampNeg x1) := c104.other W113 ne65
  have c121 : Exa Z h113 b61 "[I" := c111.wr W113
  have K113 : Keep h0 h113 [a3] := K103.wr W113 (Or.inr sz61)
  refine own_step st113 ?_
  have c122 : own_Ari Z h113 b61 .int (own_inc (own_inc (own_inc (own_s3 kk0 kk1 kk2) kk0) kk1) kk2) := c114
  refine own_step (fun t k => XS.iload X113.here hx rfl (hb hby d3_119) rfl k) ?_
  obtain ⟨T123, h123, X123, e123, W123, c123, st123⟩ := own_iastore X113 hx hZ e113 c119 (own_setL (by simp only [List.length_set]; rfl) (own_pos3_2 h30 h31 h32)) (g := (mkF m 121 #[rv a1, rv a2, rv a3, rv b52, rv b61, rv a1, iv (3 : Int32), iv (2 : Int32), iv x2] [(.int x2), (.int ((own_inc (own_inc (own_s3 kk0 kk1 kk2) kk0) kk1).getD kk2.toNatClampNeg 0)), (.ref b52)])) rfl rfl (hb hby d3_121)
  have N123 := Fr.snoc X123 N113 ge52
  have c124 : own_Ari Z h123 b52 .int ((([(0 : Int32), (0 : Int32), (0 : Int32)].set ((own_s3 kk0 kk1 kk2).getD kk0.toNatClampNeg 0).toNatClampNeg x0).set ((own_inc (own_s3 kk0 kk1 kk2) kk0).getD kk1.toNatClampNeg 0).toNatClampNeg x1).set ((own_inc (own_inc (own_s3 kk0 kk1 kk2) kk0) kk1).getD kk2.toNatClampNeg 0).toNatClampNeg x2) := c123
  have c125 : own_Ari Z h123 a1 .int [x0, x1, x2] := c115.other W123 ne53
  have c126 : own_Ari Z h123 a2 .int [kv0, kv1, kv2, kv3] := c116.other W123 ne54
  have c127 : own_Ari Z h123 a3 .int (own_s3 kk0 kk1 kk2) := c117.other W123 ne55
  have c128 : Exa Z h123 a3 "[I" := c118.wr W123
  have c130 : own_Ari Z h123 b61 .int (own_inc (own_inc (own_inc (own_s3 kk0 kk1 kk2) kk0) kk1) kk2) := c122.other W123 (Ne.symm ne65)
  have c131 : Exa Z h123 b61 "[I" := c121.wr W123
  have K123 : Keep h0 h123 [a3] := K113.wr W123 (Or.inr sz52)
  refine own_step st123 ?_
  clear K103 K113 N103 N113 W113 W123 X103 X113 c104 c105 c106 c107 c108 c110 c111 c113 c114 c115 c116 c117 c118 c119 c121 c122 c123 e103 e113 hk112 st113 st123
  show own_G p.tables e below _ (T123.setTop (mkF m 122 #[rv a1, rv a2, rv a3, rv b52, rv b61, rv a1, iv (3 : Int32), iv (2 : Int32), iv x2] []))
  refine own_step (fun t k => XS.iinc X123.here hx rfl (hb hby d3_122) rfl (l' := #[rv a1, rv a2, rv a3, rv b52, rv b61, rv a1, iv (3 : Int32), iv (3 : Int32), iv x2]) rfl k) ?_
  refine own_step (fun t k => XS.goto X123.here hx rfl (pc0 := 125) (pc' := 92) rfl (hb hby d3_125) (by decide) (by decide) k) ?_
  refine own_step (fun t k => XS.iload X123.here hx rfl (hb hby d3_92) rfl k) ?_
  refine own_step (fun t k => XS.iload X123.here hx rfl (hb hby d3_94) rfl k) ?_
  show own_G p.tables e below _ (T123.setTop (mkF m 96 #[rv a1, rv a2, rv a3, rv b52, rv b61, rv a1, iv (3 : Int32), iv (3 : Int32), iv x2] [(.int (3 : Int32)), (.int (3 : Int32))]))
  have hk132 : ¬ ((3 : Int32) < (3 : Int32)) := (by decide)
  refine own_step (fun t k => XS.icmpYes X123.here hx rfl (pc0 := 96) (pc' := 128) rfl (hb hby d3_96) rfl ((flt hk132).2.1) (by decide) (by decide) k) ?_
  show own_G p.tables e below _ (T123.setTop (mkF m 128 #[rv a1, rv a2, rv a3, rv b52, rv b61, rv a1, iv (3 : Int32), iv (3 : Int32), iv x2] []))
  refine own_step (fun t k => XS.aloadN X123.here hx rfl (hb hby d3_128) rfl rfl k) ?_
  obtain ⟨fs, hr, hrun, hended, hW, hsame⟩ := X123.leave (v := some (.ref b52)) (fun h => by rw [Bd.returns] at h; cases h)
  refine own_done (own_retA X123 hx Bd.returns (by decide) rfl (hb hby d3_129) hr) hrun hended ⟨_, _, rfl, ?_, ⟨_, rfl⟩, hW, hsame.mono (by decide) (by decide)⟩
  show Q3_n3 Z a1 a2 a3 x0 x1 x2 kv0 kv1 kv2 kv3 kk0 kk1 kk2 h0 n0 _ T123.heap _
  rw [e123]
  exact ⟨b52, rfl, N123, K123, c127, c124, sz52⟩
theorem d1_61 : decode method_3_code 61 = .ok (.iload 5, 2) := by decide +kernel
theorem d1_63 : decode method_3_code 63 = .ok (.iload_n 0, 1) := by decide +kernel
theorem d1_64 : decode method_3_code 64 = .ok (.if_icmp .ne 7, 3) := by decide +kernel
theorem d1_67 : decode method_3_code 67 = .ok (.iconst 1, 1) := by decide +kernel
theorem d1_68 : decode method_3_code 68 = .ok (.goto 4, 3) := by decide +kernel
theorem pn_1_n4 : plainName "com/example/stevedore/stevedore/MoveGraphGroupedPinLaw" = true := by first | (simp [plainName, overriddenIn]; done) | decide +kernel
theorem pd_1_n4_0 : parseMethodDescriptor "(Z)I" = some ⟨[.boolean], some .int⟩ := by decide +kernel
theorem ef_1_n4 (m : MethodId) (p1 : Int32) (p3 : Int32) (p4 : Int32) (p5 : Int32) (p6 : Int32) : entryFrame m #[(.int p1), (.int (4 : Int32)), (.int p3), (.int p4), (.int p5), (.int p6)] 6 = mkF m 0 #[iv p1, iv (4 : Int32), iv p3, iv p4, iv p5, iv p6] [] := by first | (simp [entryFrame, mkF, argsToLocals, Value.category]; done) | rfl
def Q1_n4 (Z : State) (p1 : Int32) (p3 : Int32) (p4 : Int32) (p5 : Int32) (p6 : Int32) (h0 : Heap) (n0 : Nat) (v : Option Value) (h : Heap) (L : List Loc) : Prop := v = some (.int ((((own_f2 (if p3 = p1 then (1 : Int32) else (0 : Int32))) + (own_f2 (if p4 = p1 then (1 : Int32) else (0 : Int32)))) + (own_f2 (if p5 = p1 then (1 : Int32) else (0 : Int32)))) + (own_f2 (if p6 = p1 then (1 : Int32) else (0 : Int32))))) ∧ Fr n0 L ∧ h = h0
set_option maxRecDepth 65536 in
set_option maxHeartbeats 40000000 in
theorem rm1_n4 (l : Launch) (Z : State) (a0 : Array Value) (hw : ∀ d ∈ tables_1, d.before a0 Z = true) (ws : List Jvm.Cond) (p1 : Int32) (p3 : Int32) (p4 : Int32) (p5 : Int32) (p6 : Int32) (h0 : Heap) (n0 : Nat) (Z0 : n0 ≤ h0.size) :
    MetFree l (⟨"com/example/stevedore/stevedore/MoveGraphGroupedPinLaw", "cnt", "(IIIIII)I"⟩ : MethodName) (head1 (Jvm.Cond.code (⟨"com/example/stevedore/stevedore/MoveGraphGroupedPinLaw", "cnt", "(IIIIII)I"⟩ : MethodName) method_3_code 6 (some .int) :: ws) ({ frames := 1, cells := 0, slots := 0, locals := 13 } : Room)) (fun a U => a = #[(.int p1), (.int (4 : Int32)), (.int p3), (.int p4), (.int p5), (.int p6)] ∧ Z.Warmed39 U.vm ∧ U.heap = h0) (fun _ _ _ _ _ => True) (fun _ U o U' => ∃ v L, o = .returned v ∧ Q1_n4 Z p1 p3 p4 p5 p6 h0 n0 v U'.heap L ∧ FrameEnd U o U' L ({ frames := 1, cells := 0, slots := 0, locals := 13 } : Room).cells ({ frames := 1, cells := 0, slots := 0, locals := 13 } : Room).slots) := by
  refine MetFree.of_bodySF (plainFor_of_name pn_1_n4) hisR ?_
  intro p e s m args below meth c s₁ Bd hml0 hP hK
  obtain ⟨rfl, hZ, hh⟩ := hP
  have hx := Bd.exec
  have hby := Bd.bytes
  have hml : c.maxLocals = 6 := hml0
  have hown : s.vm.findClass "com/example/stevedore/stevedore/MoveGraphGroupedPinLaw" = some m.cls := findClass_of_methodNamed Bd.named
  have hnm := (name_of_methodNamed Bd.named Bd.method).1
  have X0 : Stand p l e ({ frames := 1, cells := 0, slots := 0, locals := 13 } : Room) s m #[(.int p1), (.int (4 : Int32)), (.int p3), (.int p4), (.int p5), (.int p6)] below meth c s₁ [] 0 0 := Stand.of_body Bd
  have e0 : s₁.heap = h0 := by rw [← hh, Bd.state]; rfl
  have N0 := Fr.nil n0
  refine own_start (fun t k => castTop (ef_1_n4 m p1 p3 p4 p5 p6) k) ?_
  show own_G p.tables e below _ (s₁.setTop (mkF m 0 #[iv p1, iv (4 : Int32), iv p3, iv p4, iv p5, iv p6] []))
  refine own_step (fun t k => XS.iloadN X0.here hx rfl (hb hby d1_0) rfl k) ?_
  have hk1 : (0 : Int32) < (4 : Int32) := (by decide)
  refine own_step (fun t k => XS.ifNo X0.here hx rfl (hb hby d1_1) rfl ((if0 _ _).trans (tlt hk1).2.2.2) k) ?_
  show own_G p.tables e below _ (s₁.setTop (mkF m 4 #[iv p1, iv (4 : Int32), iv p3, iv p4, iv p5, iv p6] []))
  refine own_step (fun t k => XS.iloadN X0.here hx rfl (hb hby d1_4) rfl k) ?_
  refine own_step (fun t k => XS.iloadN X0.here hx rfl (hb hby d1_5) rfl k) ?_
  refine own_imp (B := s₁.setTop (mkF m 14 #[iv p1, iv (4 : Int32), iv p3, iv p4, iv p5, iv p6] [(.int (if p3 = p1 then (1 : Int32) else (0 : Int32)))])) (fun k0 => ?_) ?_
  · by_cases hc2 : p3 = p1
    · simp only [if_pos hc2] at k0
      refine own_step (fun t k => XS.icmpNo X0.here hx rfl (hb hby d1_6) rfl ((teq hc2).2) k) ?_
      show own_G p.tables e below _ (s₁.setTop (mkF m 9 #[iv p1, iv (4 : Int32), iv p3, iv p4, iv p5, iv p6] []))
      refine own_step (fun t k => XS.iconst X0.here hx rfl (hb hby d1_9) k) ?_
      refine own_step (fun t k => XS.goto X0.here hx rfl (pc0 := 10) (pc' := 14) rfl (hb hby d1_10) (by decide) (by decide) k) ?_
      exact k0
    · simp only [if_neg hc2] at k0
      refine own_step (fun t k => XS.icmpYes X0.here hx rfl (pc0 := 6) (pc' := 13) rfl (hb hby d1_6) rfl ((feq hc2).2) (by decide) (by decide) k) ?_
      show own_G p.tables e below _ (s₁.setTop (mkF m 13 #[iv p1, iv (4 : Int32), iv p3, iv p4, iv p5, iv p6] []))
      refine own_step (fun t k => XS.iconst X0.here hx rfl (hb hby d1_13) k) ?_
      exact k0
  show own_G p.tables e below _ (s₁.setTop (mkF m 14 #[iv p1, iv (4 : Int32), iv p3, iv p4, iv p5, iv p6] [(.int (if p3 = p1 then (1 : Int32) else (0 : Int32)))]))
  obtain ⟨_, _, ⟨T3, L3, k3, n3⟩, -, X3, ⟨Lc3, hQ3, l3, y3, z3⟩, st3⟩ := Jvm.LawKit.callS X0 hx (y := (⟨"com/example/stevedore/stevedore/MoveGraphGroupedPinLaw", "one", "(Z)I"⟩ : MethodName)) hown (mvT hZ (hw _ (List.mem_of_getElem? (i := 5) rfl))) (mvT hZ (hw _ (List.mem_of_getElem? (i := 6) rfl))) (mvT hZ (hw _ (List.mem_of_getElem? (i := 3) rfl))) (mvT hZ (hw _ (List.mem_of_getElem? (i := 7) rfl))) (by decide) (backOf (W := 0) (rm2 l Z a0 hw [] (if p3 = p1 then (1 : Int32) else (0 : Int32)) h0 n0 (Nat.le_trans Z0 (Keep.refl h0 []).1) ) hZ (hw _ (List.mem_of_getElem? (i := 7) rfl)) (hw _ (List.mem_of_getElem? (i := 3) rfl)) (by decide) (by decide)) (g := (mkF m 14 #[iv p1, iv (4 : Int32), iv p3, iv p4, iv p5, iv p6] [(.int (if p3 = p1 then (1 : Int32) else (0 : Int32)))])) rfl (by rw [hml]; rfl) (argsL := [(.int (if p3 = p1 then (1 : Int32) else (0 : Int32)))]) (rest := []) (lenOf pd_1_n4_0 rfl) rfl (by show 2 * 0 + _ ≤ _; exact Nat.le_of_eq rfl) (hb hby d1_14) (fun _ _ => ⟨rfl, e0, (by decide : 0 + 0 ≤ _), (by decide : 0 + 0 ≤ _)⟩)
  dsimp only [Pt.U, Pt.locs, Pt.cells, Pt.slots] at X3 l3 y3 z3 st3 hQ3
  subst y3 z3
  obtain ⟨rfl, N3q, e3⟩ := hQ3
  have N3 : Fr n0 L3 := by rw [l3]; exact Fr.app N0 N3q
  refine own_step st3 ?_
  refine own_step (fun t k => XS.iloadN X3.here hx rfl (hb hby d1_17) rfl k) ?_
  refine own_step (fun t k => XS.iconst X3.here hx rfl (hb hby d1_18) k) ?_
  have hk4 : (1 : Int32) < (4 : Int32) := (by decide)
  refine own_step (fun t k => XS.icmpNo X3.here hx rfl (hb hby d1_19) rfl ((tlt hk4).2.2.2) k) ?_
  show own_G p.tables e below _ (T3.setTop (mkF m 22 #[iv p1, iv (4 : Int32), iv p3, iv p4, iv p5, iv p6] [(.int (own_f2 (if p3 = p1 then (1 : Int32) else (0 : Int32))))]))
  refine own_step (fun t k => XS.iloadN X3.here hx rfl (hb hby d1_22) rfl k) ?_
  refine own_step (fun t k => XS.iloadN X3.here hx rfl (hb hby d1_23) rfl k) ?_
  refine own_imp (B := T3.setTop (mkF m 32 #[iv p1, iv (4 : Int32), iv p3, iv p4, iv p5, iv p6] [(.int (if p4 = p1 then (1 : Int32) else (0 : Int32))), (.int (own_f2 (if p3 = p1 then (1 : Int32) else (0 : Int32))))])) (fun k0 => ?_) ?_
  · by_cases hc5 : p4 = p1
    · simp only [if_pos hc5] at k0
      refine own_step (fun t k => XS.icmpNo X3.here hx rfl (hb hby d1_24) rfl ((teq hc5).2) k) ?_
      show own_G p.tables e below _ (T3.setTop (mkF m 27 #[iv p1, iv (4 : Int32), iv p3, iv p4, iv p5, iv p6] [(.int (own_f2 (if p3 = p1 then (1 : Int32) else (0 : Int32))))]))
      refine own_step (fun t k => XS.iconst X3.here hx rfl (hb hby d1_27) k) ?_
      refine own_step (fun t k => XS.goto X3.here hx rfl (pc0 := 28) (pc' := 32) rfl (hb hby d1_28) (by decide) (by decide) k) ?_
      exact k0
    · simp only [if_neg hc5] at k0
      refine own_step (fun t k => XS.icmpYes X3.here hx rfl (pc0 := 24) (pc' := 31) rfl (hb hby d1_24) rfl ((feq hc5).2) (by decide) (by decide) k) ?_
      show own_G p.tables e below _ (T3.setTop (mkF m 31 #[iv p1, iv (4 : Int32), iv p3, iv p4, iv p5, iv p6] [(.int (own_f2 (if p3 = p1 then (1 : Int32) else (0 : Int32))))]))
      refine own_step (fun t k => XS.iconst X3.here hx rfl (hb hby d1_31) k) ?_
      exact k0
  show own_G p.tables e below _ (T3.setTop (mkF m 32 #[iv p1, iv (4 : Int32), iv p3, iv p4, iv p5, iv p6] [(.int (if p4 = p1 then (1 : Int32) else (0 : Int32))), (.int (own_f2 (if p3 = p1 then (1 : Int32) else (0 : Int32))))]))
  obtain ⟨_, _, ⟨T6, L6, k6, n6⟩, -, X6, ⟨Lc6, hQ6, l6, y6, z6⟩, st6⟩ := Jvm.LawKit.callS X3 hx (y := (⟨"com/example/stevedore/stevedore/MoveGraphGroupedPinLaw", "one", "(Z)I"⟩ : MethodName)) hown (mvT hZ (hw _ (List.mem_of_getElem? (i := 5) rfl))) (mvT hZ (hw _ (List.mem_of_getElem? (i := 6) rfl))) (mvT hZ (hw _ (List.mem_of_getElem? (i := 3) rfl))) (mvT hZ (hw _ (List.mem_of_getElem? (i := 7) rfl))) (by decide) (backOf (W := 1) (rm2 l Z a0 hw [] (if p4 = p1 then (1 : Int32) else (0 : Int32)) h0 n0 (Nat.le_trans Z0 (Keep.refl h0 []).1) ) hZ (hw _ (List.mem_of_getElem? (i := 7) rfl)) (hw _ (List.mem_of_getElem? (i := 3) rfl)) (by decide) (by decide)) (g := (mkF m 32 #[iv p1, iv (4 : Int32), iv p3, iv p4, iv p5, iv p6] [(.int (if p4 = p1 then (1 : Int32) else (0 : Int32))), (.int (own_f2 (if p3 = p1 then (1 : Int32) else (0 : Int32))))])) rfl (by rw [hml]; rfl) (argsL := [(.int (if p4 = p1 then (1 : Int32) else (0 : Int32)))]) (rest := [(.int (own_f2 (if p3 = p1 then (1 : Int32) else (0 : Int32))))]) (lenOf pd_1_n4_0 rfl) rfl (by show 2 * 0 + _ ≤ _; exact Nat.le_of_eq rfl) (hb hby d1_32) (fun _ _ => ⟨rfl, e3, (by decide : 0 + 0 ≤ _), (by decide : 0 + 0 ≤ _)⟩)
  dsimp only [Pt.U, Pt.locs, Pt.cells, Pt.slots] at X6 l6 y6 z6 st6 hQ6
  subst y6 z6
  obtain ⟨rfl, N6q, e6⟩ := hQ6
  have N6 : Fr n0 L6 := by rw [l6]; exact Fr.app N3 N6q
  refine own_step st6 ?_
  refine own_step (fun t k => XS.iadd X6.here hx rfl (hb hby d1_35) rfl k) ?_
  refine own_step (fun t k => XS.iloadN X6.here hx rfl (hb hby d1_36) rfl k) ?_
  refine own_step (fun t k => XS.iconst X6.here hx rfl (hb hby d1_37) k) ?_
  show own_G p.tables e below _ (T6.setTop (mkF m 38 #[iv p1, iv (4 : Int32), iv p3, iv p4, iv p5, iv p6] [(.int (2 : Int32)), (.int (4 : Int32)), (.int ((own_f2 (if p3 = p1 then (1 : Int32) else (0 : Int32))) + (own_f2 (if p4 = p1 then (1 : Int32) else (0 : Int32)))))]))
  have hk7 : (2 : Int32) < (4 : Int32) := (by decide)
  refine own_step (fun t k => XS.icmpNo X6.here hx rfl (hb hby d1_38) rfl ((tlt hk7).2.2.2) k) ?_
  clear N3 N3q N6q X3 e3 hk1 hk4 hk7 st3 st6
  show own_G p.tables e below _ (T6.setTop (mkF m 41 #[iv p1, iv (4 : Int32), iv p3, iv p4, iv p5, iv p6] [(.int ((own_f2 (if p3 = p1 then (1 : Int32) else (0 : Int32))) + (own_f2 (if p4 = p1 then (1 : Int32) else (0 : Int32)))))]))
  refine own_step (fun t k => XS.iload X6.here hx rfl (hb hby d1_41) rfl k) ?_
  refine own_step (fun t k => XS.iloadN X6.here hx rfl (hb hby d1_43) rfl k) ?_
  refine own_imp (B := T6.setTop (mkF m 52 #[iv p1, iv (4 : Int32), iv p3, iv p4, iv p5, iv p6] [(.int (if p5 = p1 then (1 : Int32) else (0 : Int32))), (.int ((own_f2 (if p3 = p1 then (1 : Int32) else (0 : Int32))) + (own_f2 (if p4 = p1 then (1 : Int32) else (0 : Int32)))))])) (fun k0 => ?_) ?_
  · by_cases hc8 : p5 = p1
    · simp only [if_pos hc8] at k0
      refine own_step (fun t k => XS.icmpNo X6.here hx rfl (hb hby d1_44) rfl ((teq hc8).2) k) ?_
      show own_G p.tables e below _ (T6.setTop (mkF m 47 #[iv p1, iv (4 : Int32), iv p3, iv p4, iv p5, iv p6] [(.int ((own_f2 (if p3 = p1 then (1 : Int32) else (0 : Int32))) + (own_f2 (if p4 = p1 then (1 : Int32) else (0 : Int32)))))]))
      refine own_step (fun t k => XS.iconst X6.here hx rfl (hb hby d1_47) k) ?_
      refine own_step (fun t k => XS.goto X6.here hx rfl (pc0 := 48) (pc' := 52) rfl (hb hby d1_48) (by decide) (by decide) k) ?_
      exact k0
    · simp only [if_neg hc8] at k0
      refine own_step (fun t k => XS.icmpYes X6.here hx rfl (pc0 := 44) (pc' := 51) rfl (hb hby d1_44) rfl ((feq hc8).2) (by decide) (by decide) k) ?_
      show own_G p.tables e below _ (T6.setTop (mkF m 51 #[iv p1, iv (4 : Int32), iv p3, iv p4, iv p5, iv p6] [(.int ((own_f2 (if p3 = p1 then (1 : Int32) else (0 : Int32))) + (own_f2 (if p4 = p1 then (1 : Int32) else (0 : Int32)))))]))
      refine own_step (fun t k => XS.iconst X6.here hx rfl (hb hby d1_51) k) ?_
      exact k0
  show own_G p.tables e below _ (T6.setTop (mkF m 52 #[iv p1, iv (4 : Int32), iv p3, iv p4, iv p5, iv p6] [(.int (if p5 = p1 then (1 : Int32) else (0 : Int32))), (.int ((own_f2 (if p3 = p1 then (1 : Int32) else (0 : Int32))) + (own_f2 (if p4 = p1 then (1 : Int32) else (0 : Int32)))))]))
  obtain ⟨_, _, ⟨T9, L9, k9, n9⟩, -, X9, ⟨Lc9, hQ9, l9, y9, z9⟩, st9⟩ := Jvm.LawKit.callS X6 hx (y := (⟨"com/example/stevedore/stevedore/MoveGraphGroupedPinLaw", "one", "(Z)I"⟩ : MethodName)) hown (mvT hZ (hw _ (List.mem_of_getElem? (i := 5) rfl))) (mvT hZ (hw _ (List.mem_of_getElem? (i := 6) rfl))) (mvT hZ (hw _ (List.mem_of_getElem? (i := 3) rfl))) (mvT hZ (hw _ (List.mem_of_getElem? (i := 7) rfl))) (by decide) (backOf (W := 1) (rm2 l Z a0 hw [] (if p5 = p1 then (1 : Int32) else (0 : Int32)) h0 n0 (Nat.le_trans Z0 (Keep.refl h0 []).1) ) hZ (hw _ (List.mem_of_getElem? (i := 7) rfl)) (hw _ (List.mem_of_getElem? (i := 3) rfl)) (by decide) (by decide)) (g := (mkF m 52 #[iv p1, iv (4 : Int32), iv p3, iv p4, iv p5, iv p6] [(.int (if p5 = p1 then (1 : Int32) else (0 : Int32))), (.int ((own_f2 (if p3 = p1 then (1 : Int32) else (0 : Int32))) + (own_f2 (if p4 = p1 then (1 : Int32) else (0 : Int32)))))])) rfl (by rw [hml]; rfl) (argsL := [(.int (if p5 = p1 then (1 : Int32) else (0 : Int32)))]) (rest := [(.int ((own_f2 (if p3 = p1 then (1 : Int32) else (0 : Int32))) + (own_f2 (if p4 = p1 then (1 : Int32) else (0 : Int32)))))]) (lenOf pd_1_n4_0 rfl) rfl (by show 2 * 0 + _ ≤ _; exact Nat.le_of_eq rfl) (hb hby d1_52) (fun _ _ => ⟨rfl, e6, (by decide : 0 + 0 ≤ _), (by decide : 0 + 0 ≤ _)⟩)
  dsimp only [Pt.U, Pt.locs, Pt.cells, Pt.slots] at X9 l9 y9 z9 st9 hQ9
  subst y9 z9
  obtain ⟨rfl, N9q, e9⟩ := hQ9
  have N9 : Fr n0 L9 := by rw [l9]; exact Fr.app N6 N9q
  refine own_step st9 ?_
  refine own_step (fun t k => XS.iadd X9.here hx rfl (hb hby d1_55) rfl k) ?_
  refine own_step (fun t k => XS.iloadN X9.here hx rfl (hb hby d1_56) rfl k) ?_
  refine own_step (fun t k => XS.iconst X9.here hx rfl (hb hby d1_57) k) ?_
  show own_G p.tables e below _ (T9.setTop (mkF m 58 #[iv p1, iv (4 : Int32), iv p3, iv p4, iv p5, iv p6] [(.int (3 : Int32)), (.int (4 : Int32)), (.int (((own_f2 (if p3 = p1 then (1 : Int32) else (0 : Int32))) + (own_f2 (if p4 = p1 then (1 : Int32) else (0 : Int32)))) + (own_f2 (if p5 = p1 then (1 : Int32) else (0 : Int32)))))]))
  have hk10 : (3 : Int32) < (4 : Int32) := (by decide)
  refine own_step (fun t k => XS.icmpNo X9.here hx rfl (hb hby d1_58) rfl ((tlt hk10).2.2.2) k) ?_
  show own_G p.tables e below _ (T9.setTop (mkF m 61 #[iv p1, iv (4 : Int32), iv p3, iv p4, iv p5, iv p6] [(.int (((own_f2 (if p3 = p1 then (1 : Int32) else (0 : Int32))) + (own_f2 (if p4 = p1 then (1 : Int32) else (0 : Int32)))) + (own_f2 (if p5 = p1 then (1 : Int32) else (0 : Int32)))))]))
  refine own_step (fun t k => XS.iload X9.here hx rfl (hb hby d1_61) rfl k) ?_
  refine own_step (fun t k => XS.iloadN X9.here hx rfl (hb hby d1_63) rfl k) ?_
  refine own_imp (B := T9.setTop (mkF m 72 #[iv p1, iv (4 : Int32), iv p3, iv p4, iv p5, iv p6] [(.int (if p6 = p1 then (1 : Int32) else (0 : Int32))), (.int (((own_f2 (if p3 = p1 then (1 : Int32) else (0 : Int32))) + (own_f2 (if p4 = p1 then (1 : Int32) else (0 : Int32)))) + (own_f2 (if p5 = p1 then (1 : Int32) else (0 : Int32)))))])) (fun k0 => ?_) ?_
  · by_cases hc11 : p6 = p1
    · simp only [if_pos hc11] at k0
      refine own_step (fun t k => XS.icmpNo X9.here hx rfl (hb hby d1_64) rfl ((teq hc11).2) k) ?_
      show own_G p.tables e below _ (T9.setTop (mkF m 67 #[iv p1, iv (4 : Int32), iv p3, iv p4, iv p5, iv p6] [(.int (((own_f2 (if p3 = p1 then (1 : Int32) else (0 : Int32))) + (own_f2 (if p4 = p1 then (1 : Int32) else (0 : Int32)))) + (own_f2 (if p5 = p1 then (1 : Int32) else (0 : Int32)))))]))
      refine own_step (fun t k => XS.iconst X9.here hx rfl (hb hby d1_67) k) ?_
      refine own_step (fun t k => XS.goto X9.here hx rfl (pc0 := 68) (pc' := 72) rfl (hb hby d1_68) (by decide) (by decide) k) ?_
      exact k0
    · simp only [if_neg hc11] at k0
      refine own_step (fun t k => XS.icmpYes X9.here hx rfl (pc0 := 64) (pc' := 71) rfl (hb hby d1_64) rfl ((feq hc11).2) (by decide) (by decide) k) ?_
      show own_G p.tables e below _ (T9.setTop (mkF m 71 #[iv p1, iv (4 : Int32), iv p3, iv p4, iv p5, iv p6] [(.int (((own_f2 (if p3 = p1 then (1 : Int32) else (0 : Int32))) + (own_f2 (if p4 = p1 then (1 : Int32) else (0 : Int32)))) + (own_f2 (if p5 = p1 then (1 : Int32) else (0 : Int32)))))]))
      refine own_step (fun t k => XS.iconst X9.here hx rfl (hb hby d1_71) k) ?_
      exact k0
  show own_G p.tables e below _ (T9.setTop (mkF m 72 #[iv p1, iv (4 : Int32), iv p3, iv p4, iv p5, iv p6] [(.int (if p6 = p1 then (1 : Int32) else (0 : Int32))), (.int (((own_f2 (if p3 = p1 then (1 : Int32) else (0 : Int32))) + (own_f2 (if p4 = p1 then (1 : Int32) else (0 : Int32)))) + (own_f2 (if p5 = p1 then (1 : Int32) else (0 : Int32)))))]))
  obtain ⟨_, _, ⟨T12, L12, k12, n12⟩, -, X12, ⟨Lc12, hQ12, l12, y12, z12⟩, st12⟩ := Jvm.LawKit.callS X9 hx (y := (⟨"com/example/stevedore/stevedore/MoveGraphGroupedPinLaw", "one", "(Z)I"⟩ : MethodName)) hown (mvT hZ (hw _ (List.mem_of_getElem? (i := 5) rfl))) (mvT hZ (hw _ (List.mem_of_getElem? (i := 6) rfl))) (mvT hZ (hw _ (List.mem_of_getElem? (i := 3) rfl))) (mvT hZ (hw _ (List.mem_of_getElem? (i := 7) rfl))) (by decide) (backOf (W := 1) (rm2 l Z a0 hw [] (if p6 = p1 then (1 : Int32) else (0 : Int32)) h0 n0 (Nat.le_trans Z0 (Keep.refl h0 []).1) ) hZ (hw _ (List.mem_of_getElem? (i := 7) rfl)) (hw _ (List.mem_of_getElem? (i := 3) rfl)) (by decide) (by decide)) (g := (mkF m 72 #[iv p1, iv (4 : Int32), iv p3, iv p4, iv p5, iv p6] [(.int (if p6 = p1 then (1 : Int32) else (0 : Int32))), (.int (((own_f2 (if p3 = p1 then (1 : Int32) else (0 : Int32))) + (own_f2 (if p4 = p1 then (1 : Int32) else (0 : Int32)))) + (own_f2 (if p5 = p1 then (1 : Int32) else (0 : Int32)))))])) rfl (by rw [hml]; rfl) (argsL := [(.int (if p6 = p1 then (1 : Int32) else (0 : Int32)))]) (rest := [(.int (((own_f2 (if p3 = p1 then (1 : Int32) else (0 : Int32))) + (own_f2 (if p4 = p1 then (1 : Int32) else (0 : Int32)))) + (own_f2 (if p5 = p1 then (1 : Int32) else (0 : Int32)))))]) (lenOf pd_1_n4_0 rfl) rfl (by show 2 * 0 + _ ≤ _; exact Nat.le_of_eq rfl) (hb hby d1_72) (fun _ _ => ⟨rfl, e9, (by decide : 0 + 0 ≤ _), (by decide : 0 + 0 ≤ _)⟩)
  dsimp only [Pt.U, Pt.locs, Pt.cells, Pt.slots] at X12 l12 y12 z12 st12 hQ12
  subst y12 z12
  obtain ⟨rfl, N12q, e12⟩ := hQ12
  have N12 : Fr n0 L12 := by rw [l12]; exact Fr.app N9 N12q
  refine own_step st12 ?_
  refine own_step (fun t k => XS.iadd X12.here hx rfl (hb hby d1_75) rfl k) ?_
  obtain ⟨fs, hr, hrun, hended, hW, hsame⟩ := X12.leave (v := some (.int ((((own_f2 (if p3 = p1 then (1 : Int32) else (0 : Int32))) + (own_f2 (if p4 = p1 then (1 : Int32) else (0 : Int32)))) + (own_f2 (if p5 = p1 then (1 : Int32) else (0 : Int32)))) + (own_f2 (if p6 = p1 then (1 : Int32) else (0 : Int32)))))) (fun h => by rw [Bd.returns] at h; cases h)
  refine own_done (retI X12 hx Bd.returns (hb hby d1_76) hr) hrun hended ⟨_, _, rfl, ?_, ⟨_, rfl⟩, hW, hsame.mono (by decide) (by decide)⟩
  show Q1_n4 Z p1 p3 p4 p5 p6 h0 n0 _ T12.heap _
  rw [e12]
  exact ⟨congrArg (fun z => some (Value.int z)) (show ((((own_f2 (if p3 = p1 then (1 : Int32) else (0 : Int32))) + (own_f2 (if p4 = p1 then (1 : Int32) else (0 : Int32)))) + (own_f2 (if p5 = p1 then (1 : Int32) else (0 : Int32)))) + (own_f2 (if p6 = p1 then (1 : Int32) else (0 : Int32)))) = ((((own_f2 (if p3 = p1 then (1 : Int32) else (0 : Int32))) + (own_f2 (if p4 = p1 then (1 : Int32) else (0 : Int32)))) + (own_f2 (if p5 = p1 then (1 : Int32) else (0 : Int32)))) + (own_f2 (if p6 = p1 then (1 : Int32) else (0 : Int32)))) from rfl), N12, rfl⟩
theorem pn_3_n4 : plainName "com/example/stevedore/stevedore/MoveGraph" = true := by first | (simp [plainName, overriddenIn]; done) | decide +kernel
theorem ef_3_n4 (m : MethodId) (a1 : Addr) (a2 : Addr) (a3 : Addr) : entryFrame m #[(.ref a1), (.ref a2), (.ref a3)] 9 = mkF m 0 #[rv a1, rv a2, rv a3, .unset, .unset, .unset, .unset, .unset, .unset] [] := by first | (simp [entryFrame, mkF, argsToLocals, Value.category]; done) | rfl
def Q3_n4 (Z : State) (a1 : Addr) (a2 : Addr) (a3 : Addr) (x0 : Int32) (x1 : Int32) (x2 : Int32) (x3 : Int32) (kv0 : Int32) (kv1 : Int32) (kv2 : Int32) (kv3 : Int32) (kk0 : Int32) (kk1 : Int32) (kk2 : Int32) (kk3 : Int32) (h0 : Heap) (n0 : Nat) (v : Option Value) (h : Heap) (L : List Loc) : Prop := ∃ (rb : Addr), v = some (.ref rb) ∧ Fr n0 L ∧ Keep h0 h [a3] ∧ own_Ari Z h a3 .int (own_s4 kk0 kk1 kk2 kk3) ∧ own_Ari Z h rb .int (((([(0 : Int32), (0 : Int32), (0 : Int32), (0 : Int32)].set ((own_s4 kk0 kk1 kk2 kk3).getD kk0.toNatClampNeg 0).toNatClampNeg x0).set ((own_inc (own_s4 kk0 kk1 kk2 kk3) kk0).getD kk1.toNatClampNeg 0).toNatClampNeg x1).set ((own_inc (own_inc (own_s4 kk0 kk1 kk2 kk3) kk0) kk1).getD kk2.toNatClampNeg 0).toNatClampNeg x2).set ((own_inc (own_inc (own_inc (own_s4 kk0 kk1 kk2 kk3) kk0) kk1) kk2).getD kk3.toNatClampNeg 0).toNatClampNeg x3) ∧ h0.size ≤ rb
set_option maxRecDepth 65536 in
set_option maxHeartbeats 40000000 in
theorem rm3_n4 (l : Launch) (Z : State) (a0 : Array Value) (hw : ∀ d ∈ tables_1, d.before a0 Z = true) (ws : List Jvm.Cond) (a1 : Addr) (a2 : Addr) (a3 : Addr) (x0 : Int32) (x1 : Int32) (x2 : Int32) (x3 : Int32) (kv0 : Int32) (kv1 : Int32) (kv2 : Int32) (kv3 : Int32) (kk0 : Int32) (kk1 : Int32) (kk2 : Int32) (kk3 : Int32) (h0 : Heap) (n0 : Nat) (Z0 : n0 ≤ h0.size) (fp0 : own_Ari Z h0 a1 .int [x0, x1, x2, x3]) (fp1 : own_Ari Z h0 a2 .int [kv0, kv1, kv2, kv3]) (fp2 : own_Ari Z h0 a3 .int [(0 : Int32), (0 : Int32), (0 : Int32), (0 : Int32)]) (fp3 : Exa Z h0 a3 "[I") (hx0 : own_4 x0) (hx1 : own_4 x1) (hx2 : own_4 x2) (hx3 : own_4 x3) (hky0 : ([kv0, kv1, kv2, kv3].getD x0.toNatClampNeg 0) = kk0) (hky1 : ([kv0, kv1, kv2, kv3].getD x1.toNatClampNeg 0) = kk1) (hky2 : ([kv0, kv1, kv2, kv3].getD x2.toNatClampNeg 0) = kk2) (hky3 : ([kv0, kv1, kv2, kv3].getD x3.toNatClampNeg 0) = kk3) (h30 : own_3 kk0) (h31 : own_3 kk1) (h32 : own_3 kk2) (h33 : own_3 kk3) (g_a3 : n0 ≤ a3) (ne_a1_a3 : a1 ≠ a3) (ne_a2_a3 : a2 ≠ a3) :
    MetFree l (⟨"com/example/stevedore/stevedore/MoveGraph", "grouped", "([I[I[I)[I"⟩ : MethodName) (head1 (Jvm.Cond.code (⟨"com/example/stevedore/stevedore/MoveGraph", "grouped", "([I[I[I)[I"⟩ : MethodName) prog_15_method_17_code 9 (some (.array .int)) :: ws) ({ frames := 1, cells := 2, slots := 8, locals := 14 } : Room)) (fun a U => a = #[(.ref a1), (.ref a2), (.ref a3)] ∧ Z.Warmed39 U.vm ∧ U.heap = h0) (fun _ _ _ _ _ => True) (fun _ U o U' => ∃ v L, o = .returned v ∧ Q3_n4 Z a1 a2 a3 x0 x1 x2 x3 kv0 kv1 kv2 kv3 kk0 kk1 kk2 kk3 h0 n0 v U'.heap L ∧ FrameEnd U o U' L ({ frames := 1, cells := 2, slots := 8, locals := 14 } : Room).cells ({ frames := 1, cells := 2, slots := 8, locals := 14 } : Room).slots) := by
  refine MetFree.of_bodySF (plainFor_of_name pn_3_n4) hisR ?_
  intro p e s m args below meth c s₁ Bd hml0 hP hK
  obtain ⟨rfl, hZ, hh⟩ := hP
  have hx := Bd.exec
  have hby := Bd.bytes
  have hml : c.maxLocals = 9 := hml0
  have hown : s.vm.findClass "com/example/stevedore/stevedore/MoveGraph" = some m.cls := findClass_of_methodNamed Bd.named
  have hnm := (name_of_methodNamed Bd.named Bd.method).1
  have X0 : Stand p l e ({ frames := 1, cells := 2, slots := 8, locals := 14 } : Room) s m #[(.ref a1), (.ref a2), (.ref a3)] below meth c s₁ [] 0 0 := Stand.of_body Bd
  have e0 : s₁.heap = h0 := by rw [← hh, Bd.state]; rfl
  have N0 := Fr.nil n0
  refine own_start (fun t k => castTop (ef_3_n4 m a1 a2 a3) k) ?_
  show own_G p.tables e below _ (s₁.setTop (mkF m 0 #[rv a1, rv a2, rv a3, .unset, .unset, .unset, .unset, .unset, .unset] []))
  refine own_step (fun t k => XS.aloadN X0.here hx rfl (hb hby d3_0) rfl rfl k) ?_
  refine own_step (fun t k => XS.astoreN X0.here hx rfl (hb hby d3_1) rfl rfl (l' := #[rv a1, rv a2, rv a3, rv a1, .unset, .unset, .unset, .unset, .unset]) rfl k) ?_
  refine own_step (fun t k => XS.aloadN X0.here hx rfl (hb hby d3_2) rfl rfl k) ?_
  refine own_step (own_lenI X0 hx hZ e0 fp0 (g := (mkF m 3 #[rv a1, rv a2, rv a3, rv a1, .unset, .unset, .unset, .unset, .unset] [(.ref a1)])) rfl rfl (hb hby d3_3)) ?_
  show own_G p.tables e below _ (s₁.setTop (mkF m 4 #[rv a1, rv a2, rv a3, rv a1, .unset, .unset, .unset, .unset, .unset] [(.int (4 : Int32))]))
  refine own_step (fun t k => XS.istore X0.here hx rfl (hb hby d3_4) rfl (l' := #[rv a1, rv a2, rv a3, rv a1, iv (4 : Int32), .unset, .unset, .unset, .unset]) rfl k) ?_
  refine own_step (fun t k => XS.iconst X0.here hx rfl (hb hby d3_6) k) ?_
  refine own_step (fun t k => XS.istore X0.here hx rfl (hb hby d3_7) rfl (l' := #[rv a1, rv a2, rv a3, rv a1, iv (4 : Int32), iv (0 : Int32), .unset, .unset, .unset]) rfl k) ?_
  refine own_step (fun t k => XS.iload X0.here hx rfl (hb hby d3_9) rfl k) ?_
  show own_G p.tables e below _ (s₁.setTop (mkF m 11 #[rv a1, rv a2, rv a3, rv a1, iv (4 : Int32), iv (0 : Int32), .unset, .unset, .unset] [(.int (0 : Int32))]))
  refine own_step (fun t k => XS.iload X0.here hx rfl (hb hby d3_11) rfl k) ?_
  have hk1 : (0 : Int32) < (4 : Int32) := (by decide)
  refine own_step (fun t k => XS.icmpNo X0.here hx rfl (hb hby d3_13) rfl ((tlt hk1).2.1) k) ?_
  show own_G p.tables e below _ (s₁.setTop (mkF m 16 #[rv a1, rv a2, rv a3, rv a1, iv (4 : Int32), iv (0 : Int32), .unset, .unset, .unset] []))
  refine own_step (fun t k => XS.aloadN X0.here hx rfl (hb hby d3_16) rfl rfl k) ?_
  refine own_step (fun t k => XS.iload X0.here hx rfl (hb hby d3_17) rfl k) ?_
  refine own_step (own_iaload X0 hx hZ e0 fp0 (own_inb (by decide) (Nat.le_of_ble_eq_true rfl)) (g := (mkF m 19 #[rv a1, rv a2, rv a3, rv a1, iv (4 : Int32), iv (0 : Int32), .unset, .unset, .unset] [(.int (0 : Int32)), (.ref a1)])) rfl rfl (hb hby d3_19)) ?_
  refine own_step (fun t k => XS.istore X0.here hx rfl (hb hby d3_20) rfl (l' := #[rv a1, rv a2, rv a3, rv a1, iv (4 : Int32), iv (0 : Int32), iv x0, .unset, .unset]) rfl k) ?_
  show own_G p.tables e below _ (s₁.setTop (mkF m 22 #[rv a1, rv a2, rv a3, rv a1, iv (4 : Int32), iv (0 : Int32), iv x0, .unset, .unset] []))
  refine own_step (fun t k => XS.aloadN X0.here hx rfl (hb hby d3_22) rfl rfl k) ?_
  refine own_step (fun t k => XS.aloadN X0.here hx rfl (hb hby d3_23) rfl rfl k) ?_
  refine own_step (fun t k => XS.iload X0.here hx rfl (hb hby d3_24) rfl k) ?_
  refine own_step (own_iaload X0 hx hZ e0 fp1 (own_i4 hx0 rfl) (g := (mkF m 26 #[rv a1, rv a2, rv a3, rv a1, iv (4 : Int32), iv (0 : Int32), iv x0, .unset, .unset] [(.int x0), (.ref a2), (.ref a3)])) rfl rfl (hb hby d3_26)) ?_
  show own_G p.tables e below _ (s₁.setTop (mkF m 27 #[rv a1, rv a2, rv a3, rv a1, iv (4 : Int32), iv (0 : Int32), iv x0, .unset, .unset] [(.int ([kv0, kv1, kv2, kv3].getD x0.toNatClampNeg 0)), (.ref a3)]))
  show own_G p.tables e below _ (s₁.setTop (mkF m 27 #[rv a1, rv a2, rv a3, rv a1, iv (4 : Int32), iv (0 : Int32), iv x0, .unset, .unset] [(.int ([kv0, kv1, kv2, kv3].getD x0.toNatClampNeg 0)), (.ref a3)]))
  rw [hky0]
  show own_G p.tables e below _ (s₁.setTop (mkF m 27 #[rv a1, rv a2, rv a3, rv a1, iv (4 : Int32), iv (0 : Int32), iv x0, .unset, .unset] [(.int kk0), (.ref a3)]))
  refine own_step (fun t k => XS.iconst X0.here hx rfl (hb hby d3_27) k) ?_
  refine own_step (fun t k => XS.iadd X0.here hx rfl (hb hby d3_28) rfl k) ?_
  refine own_step (B := s₁.setTop (mkF m 30 #[rv a1, rv a2, rv a3, rv a1, iv (4 : Int32), iv (0 : Int32), iv x0, .unset, .unset] [(.int (kk0 + (1 : Int32))), (.ref a3), (.int (kk0 + (1 : Int32))), (.ref a3)])) (fun t k => by
    jvm_step X0.here [X0.here.top, hx, (hb hby d3_29), Value.category]
    exact k) ?_
  refine own_step (own_iaload X0 hx hZ e0 fp2 (own_i3' h30 (by first | (simp only [own_inc_len, own_pre_len, own_s0_len, own_s1_len, own_s2_len, own_s3_len, own_s4_len]; done) | (simp only [own_inc_len, own_pre_len, own_s0_len, own_s1_len, own_s2_len, own_s3_len, own_s4_len]; rfl) | rfl)) (g := (mkF m 30 #[rv a1, rv a2, rv a3, rv a1, iv (4 : Int32), iv (0 : Int32), iv x0, .unset, .unset] [(.int (kk0 + (1 : Int32))), (.ref a3), (.int (kk0 + (1 : Int32))), (.ref a3)])) rfl rfl (hb hby d3_30)) ?_
  show own_G p.tables e below _ (s₁.setTop (mkF m 31 #[rv a1, rv a2, rv a3, rv a1, iv (4 : Int32), iv (0 : Int32), iv x0, .unset, .unset] [(.int ([(0 : Int32), (0 : Int32), (0 : Int32), (0 : Int32)].getD (kk0 + (1 : Int32)).toNatClampNeg 0)), (.int (kk0 + (1 : Int32))), (.ref a3)]))
  refine own_step (fun t k => XS.iconst X0.here hx rfl (hb hby d3_31) k) ?_
  refine own_step (fun t k => XS.iadd X0.here hx rfl (hb hby d3_32) rfl k) ?_
  obtain ⟨T2, h2, X2, e2, W2, c2, st2⟩ := own_iastore X0 hx hZ e0 fp2 (own_i3' h30 (by first | (simp only [own_inc_len, own_pre_len, own_s0_len, own_s1_len, own_s2_len, own_s3_len, own_s4_len]; done) | (simp only [own_inc_len, own_pre_len, own_s0_len, own_s1_len, own_s2_len, own_s3_len, own_s4_len]; rfl) | rfl)) (g := (mkF m 33 #[rv a1, rv a2, rv a3, rv a1, iv (4 : Int32), iv (0 : Int32), iv x0, .unset, .unset] [(.int (([(0 : Int32), (0 : Int32), (0 : Int32), (0 : Int32)].getD (kk0 + (1 : Int32)).toNatClampNeg 0) + (1 : Int32))), (.int (kk0 + (1 : Int32))), (.ref a3)])) rfl rfl (hb hby d3_33)
  have N2 := Fr.snoc X2 N0 g_a3
  have c3 : own_Ari Z h2 a3 .int ([(0 : Int32), (0 : Int32), (0 : Int32), (0 : Int32)].set (kk0 + (1 : Int32)).toNatClampNeg (([(0 : Int32), (0 : Int32), (0 : Int32), (0 : Int32)].getD (kk0 + (1 : Int32)).toNatClampNeg 0) + (1 : Int32))) := c2
  have c4 : own_Ari Z h2 a1 .int [x0, x1, x2, x3] := fp0.other W2 ne_a1_a3
  have c5 : own_Ari Z h2 a2 .int [kv0, kv1, kv2, kv3] := fp1.other W2 ne_a2_a3
  have c7 : Exa Z h2 a3 "[I" := fp3.wr W2
  have K2 : Keep h0 h2 [a3] := (Keep.refl h0 [a3]).wr W2 (Or.inl (List.mem_of_getElem? (i := 0) rfl))
  refine own_step st2 ?_
  have c8 : own_Ari Z h2 a3 .int (own_inc [(0 : Int32), (0 : Int32), (0 : Int32), (0 : Int32)] (kk0 + (1 : Int32))) := c3
  refine own_step (fun t k => XS.iinc X2.here hx rfl (hb hby d3_34) rfl (l' := #[rv a1, rv a2, rv a3, rv a1, iv (4 : Int32), iv (1 : Int32), iv x0, .unset, .unset]) rfl k) ?_
  show own_G p.tables e below _ (T2.setTop (mkF m 37 #[rv a1, rv a2, rv a3, rv a1, iv (4 : Int32), iv (1 : Int32), iv x0, .unset, .unset] []))
  refine own_step (fun t k => XS.goto X2.here hx rfl (pc0 := 37) (pc' := 9) rfl (hb hby d3_37) (by decide) (by decide) k) ?_
  refine own_step (fun t k => XS.iload X2.here hx rfl (hb hby d3_9) rfl k) ?_
  refine own_step (fun t k => XS.iload X2.here hx rfl (hb hby d3_11) rfl k) ?_
  have hk9 : (1 : Int32) < (4 : Int32) := (by decide)
  refine own_step (fun t k => XS.icmpNo X2.here hx rfl (hb hby d3_13) rfl ((tlt hk9).2.1) k) ?_
  show own_G p.tables e below _ (T2.setTop (mkF m 16 #[rv a1, rv a2, rv a3, rv a1, iv (4 : Int32), iv (1 : Int32), iv x0, .unset, .unset] []))
  refine own_step (fun t k => XS.aloadN X2.here hx rfl (hb hby d3_16) rfl rfl k) ?_
  refine own_step (fun t k => XS.iload X2.here hx rfl (hb hby d3_17) rfl k) ?_
  refine own_step (own_iaload X2 hx hZ e2 c4 (own_inb (by decide) (Nat.le_of_ble_eq_true rfl)) (g := (mkF m 19 #[rv a1, rv a2, rv a3, rv a1, iv (4 : Int32), iv (1 : Int32), iv x0, .unset, .unset] [(.int (1 : Int32)), (.ref a1)])) rfl rfl (hb hby d3_19)) ?_
  refine own_step (fun t k => XS.istore X2.here hx rfl (hb hby d3_20) rfl (l' := #[rv a1, rv a2, rv a3, rv a1, iv (4 : Int32), iv (1 : Int32), iv x1, .unset, .unset]) rfl k) ?_
  show own_G p.tables e below _ (T2.setTop (mkF m 22 #[rv a1, rv a2, rv a3, rv a1, iv (4 : Int32), iv (1 : Int32), iv x1, .unset, .unset] []))
  refine own_step (fun t k => XS.aloadN X2.here hx rfl (hb hby d3_22) rfl rfl k) ?_
  refine own_step (fun t k => XS.aloadN X2.here hx rfl (hb hby d3_23) rfl rfl k) ?_
  refine own_step (fun t k => XS.iload X2.here hx rfl (hb hby d3_24) rfl k) ?_
  refine own_step (own_iaload X2 hx hZ e2 c5 (own_i4 hx1 rfl) (g := (mkF m 26 #[rv a1, rv a2, rv a3, rv a1, iv (4 : Int32), iv (1 : Int32), iv x1, .unset, .unset] [(.int x1), (.ref a2), (.ref a3)])) rfl rfl (hb hby d3_26)) ?_
  show own_G p.tables e below _ (T2.setTop (mkF m 27 #[rv a1, rv a2, rv a3, rv a1, iv (4 : Int32), iv (1 : Int32), iv x1, .unset, .unset] [(.int ([kv0, kv1, kv2, kv3].getD x1.toNatClampNeg 0)), (.ref a3)]))
  show own_G p.tables e below _ (T2.setTop (mkF m 27 #[rv a1, rv a2, rv a3, rv a1, iv (4 : Int32), iv (1 : Int32), iv x1, .unset, .unset] [(.int ([kv0, kv1, kv2, kv3].getD x1.toNatClampNeg 0)), (.ref a3)]))
  rw [hky1]
  show own_G p.tables e below _ (T2.setTop (mkF m 27 #[rv a1, rv a2, rv a3, rv a1, iv (4 : Int32), iv (1 : Int32), iv x1, .unset, .unset] [(.int kk1), (.ref a3)]))
  refine own_step (fun t k => XS.iconst X2.here hx rfl (hb hby d3_27) k) ?_
  refine own_step (fun t k => XS.iadd X2.here hx rfl (hb hby d3_28) rfl k) ?_
  refine own_step (B := T2.setTop (mkF m 30 #[rv a1, rv a2, rv a3, rv a1, iv (4 : Int32), iv (1 : Int32), iv x1, .unset, .unset] [(.int (kk1 + (1 : Int32))), (.ref a3), (.int (kk1 + (1 : Int32))), (.ref a3)])) (fun t k => by
    jvm_step X2.here [X2.here.top, hx, (hb hby d3_29), Value.category]
    exact k) ?_
  refine own_step (own_iaload X2 hx hZ e2 c8 (own_i3' h31 (by first | (simp only [own_inc_len, own_pre_len, own_s0_len, own_s1_len, own_s2_len, own_s3_len, own_s4_len]; done) | (simp only [own_inc_len, own_pre_len, own_s0_len, own_s1_len, own_s2_len, own_s3_len, own_s4_len]; rfl) | rfl)) (g := (mkF m 30 #[rv a1, rv a2, rv a3, rv a1, iv (4 : Int32), iv (1 : Int32), iv x1, .unset, .unset] [(.int (kk1 + (1 : Int32))), (.ref a3), (.int (kk1 + (1 : Int32))), (.ref a3)])) rfl rfl (hb hby d3_30)) ?_
  show own_G p.tables e below _ (T2.setTop (mkF m 31 #[rv a1, rv a2, rv a3, rv a1, iv (4 : Int32), iv (1 : Int32), iv x1, .unset, .unset] [(.int ((own_inc [(0 : Int32), (0 : Int32), (0 : Int32), (0 : Int32)] (kk0 + (1 : Int32))).getD (kk1 + (1 : Int32)).toNatClampNeg 0)), (.int (kk1 + (1 : Int32))), (.ref a3)]))
  refine own_step (fun t k => XS.iconst X2.here hx rfl (hb hby d3_31) k) ?_
  refine own_step (fun t k => XS.iadd X2.here hx rfl (hb hby d3_32) rfl k) ?_
  obtain ⟨T10, h10, X10, e10, W10, c10, st10⟩ := own_iastore X2 hx hZ e2 c8 (own_i3' h31 (by first | (simp only [own_inc_len, own_pre_len, own_s0_len, own_s1_len, own_s2_len, own_s3_len, own_s4_len]; done) | (simp only [own_inc_len, own_pre_len, own_s0_len, own_s1_len, own_s2_len, own_s3_len, own_s4_len]; rfl) | rfl)) (g := (mkF m 33 #[rv a1, rv a2, rv a3, rv a1, iv (4 : Int32), iv (1 : Int32), iv x1, .unset, .unset] [(.int (((own_inc [(0 : Int32), (0 : Int32), (0 : Int32), (0 : Int32)] (kk0 + (1 : Int32))).getD (kk1 + (1 : Int32)).toNatClampNeg 0) + (1 : Int32))), (.int (kk1 + (1 : Int32))), (.ref a3)])) rfl rfl (hb hby d3_33)
  have N10 := Fr.snoc X10 N2 g_a3
  have c11 : own_Ari Z h10 a3 .int ((own_inc [(0 : Int32), (0 : Int32), (0 : Int32), (0 : Int32)] (kk0 + (1 : Int32))).set (kk1 + (1 : Int32)).toNatClampNeg (((own_inc [(0 : Int32), (0 : Int32), (0 : Int32), (0 : Int32)] (kk0 + (1 : Int32))).getD (kk1 + (1 : Int32)).toNatClampNeg 0) + (1 : Int32))) := c10
  have c12 : own_Ari Z h10 a1 .int [x0, x1, x2, x3] := c4.other W10 ne_a1_a3
  have c13 : own_Ari Z h10 a2 .int [kv0, kv1, kv2, kv3] := c5.other W10 ne_a2_a3
  have c15 : Exa Z h10 a3 "[I" := c7.wr W10
  have K10 : Keep h0 h10 [a3] := K2.wr W10 (Or.inl (List.mem_of_getElem? (i := 0) rfl))
  refine own_step st10 ?_
  have c16 : own_Ari Z h10 a3 .int (own_inc (own_inc [(0 : Int32), (0 : Int32), (0 : Int32), (0 : Int32)] (kk0 + (1 : Int32))) (kk1 + (1 : Int32))) := c11
  refine own_step (fun t k => XS.iinc X10.here hx rfl (hb hby d3_34) rfl (l' := #[rv a1, rv a2, rv a3, rv a1, iv (4 : Int32), iv (2 : Int32), iv x1, .unset, .unset]) rfl k) ?_
  clear K2 N2 W10 W2 X2 c10 c11 c2 c3 c4 c5 c7 c8 e2 hk1 hk9 st10 st2
  show own_G p.tables e below _ (T10.setTop (mkF m 37 #[rv a1, rv a2, rv a3, rv a1, iv (4 : Int32), iv (2 : Int32), iv x1, .unset, .unset] []))
  refine own_step (fun t k => XS.goto X10.here hx rfl (pc0 := 37) (pc' := 9) rfl (hb hby d3_37) (by decide) (by decide) k) ?_
  refine own_step (fun t k => XS.iload X10.here hx rfl (hb hby d3_9) rfl k) ?_
  refine own_step (fun t k => XS.iload X10.here hx rfl (hb hby d3_11) rfl k) ?_
  have hk17 : (2 : Int32) < (4 : Int32) := (by decide)
  refine own_step (fun t k => XS.icmpNo X10.here hx rfl (hb hby d3_13) rfl ((tlt hk17).2.1) k) ?_
  show own_G p.tables e below _ (T10.setTop (mkF m 16 #[rv a1, rv a2, rv a3, rv a1, iv (4 : Int32), iv (2 : Int32), iv x1, .unset, .unset] []))
  refine own_step (fun t k => XS.aloadN X10.here hx rfl (hb hby d3_16) rfl rfl k) ?_
  refine own_step (fun t k => XS.iload X10.here hx rfl (hb hby d3_17) rfl k) ?_
  refine own_step (own_iaload X10 hx hZ e10 c12 (own_inb (by decide) (Nat.le_of_ble_eq_true rfl)) (g := (mkF m 19 #[rv a1, rv a2, rv a3, rv a1, iv (4 : Int32), iv (2 : Int32), iv x1, .unset, .unset] [(.int (2 : Int32)), (.ref a1)])) rfl rfl (hb hby d3_19)) ?_
  refine own_step (fun t k => XS.istore X10.here hx rfl (hb hby d3_20) rfl (l' := #[rv a1, rv a2, rv a3, rv a1, iv (4 : Int32), iv (2 : Int32), iv x2, .unset, .unset]) rfl k) ?_
  show own_G p.tables e below _ (T10.setTop (mkF m 22 #[rv a1, rv a2, rv a3, rv a1, iv (4 : Int32), iv (2 : Int32), iv x2, .unset, .unset] []))
  refine own_step (fun t k => XS.aloadN X10.here hx rfl (hb hby d3_22) rfl rfl k) ?_
  refine own_step (fun t k => XS.aloadN X10.here hx rfl (hb hby d3_23) rfl rfl k) ?_
  refine own_step (fun t k => XS.iload X10.here hx rfl (hb hby d3_24) rfl k) ?_
  refine own_step (own_iaload X10 hx hZ e10 c13 (own_i4 hx2 rfl) (g := (mkF m 26 #[rv a1, rv a2, rv a3, rv a1, iv (4 : Int32), iv (2 : Int32), iv x2, .unset, .unset] [(.int x2), (.ref a2), (.ref a3)])) rfl rfl (hb hby d3_26)) ?_
  show own_G p.tables e below _ (T10.setTop (mkF m 27 #[rv a1, rv a2, rv a3, rv a1, iv (4 : Int32), iv (2 : Int32), iv x2, .unset, .unset] [(.int ([kv0, kv1, kv2, kv3].getD x2.toNatClampNeg 0)), (.ref a3)]))
  show own_G p.tables e below _ (T10.setTop (mkF m 27 #[rv a1, rv a2, rv a3, rv a1, iv (4 : Int32), iv (2 : Int32), iv x2, .unset, .unset] [(.int ([kv0, kv1, kv2, kv3].getD x2.toNatClampNeg 0)), (.ref a3)]))
  rw [hky2]
  show own_G p.tables e below _ (T10.setTop (mkF m 27 #[rv a1, rv a2, rv a3, rv a1, iv (4 : Int32), iv (2 : Int32), iv x2, .unset, .unset] [(.int kk2), (.ref a3)]))
  refine own_step (fun t k => XS.iconst X10.here hx rfl (hb hby d3_27) k) ?_
  refine own_step (fun t k => XS.iadd X10.here hx rfl (hb hby d3_28) rfl k) ?_
  refine own_step (B := T10.setTop (mkF m 30 #[rv a1, rv a2, rv a3, rv a1, iv (4 : Int32), iv (2 : Int32), iv x2, .unset, .unset] [(.int (kk2 + (1 : Int32))), (.ref a3), (.int (kk2 + (1 : Int32))), (.ref a3)])) (fun t k => by
    jvm_step X10.here [X10.here.top, hx, (hb hby d3_29), Value.category]
    exact k) ?_
  refine own_step (own_iaload X10 hx hZ e10 c16 (own_i3' h32 (by first | (simp only [own_inc_len, own_pre_len, own_s0_len, own_s1_len, own_s2_len, own_s3_len, own_s4_len]; done) | (simp only [own_inc_len, own_pre_len, own_s0_len, own_s1_len, own_s2_len, own_s3_len, own_s4_len]; rfl) | rfl)) (g := (mkF m 30 #[rv a1, rv a2, rv a3, rv a1, iv (4 : Int32), iv (2 : Int32), iv x2, .unset, .unset] [(.int (kk2 + (1 : Int32))), (.ref a3), (.int (kk2 + (1 : Int32))), (.ref a3)])) rfl rfl (hb hby d3_30)) ?_
  show own_G p.tables e below _ (T10.setTop (mkF m 31 #[rv a1, rv a2, rv a3, rv a1, iv (4 : Int32), iv (2 : Int32), iv x2, .unset, .unset] [(.int ((own_inc (own_inc [(0 : Int32), (0 : Int32), (0 : Int32), (0 : Int32)] (kk0 + (1 : Int32))) (kk1 + (1 : Int32))).getD (kk2 + (1 : Int32)).toNatClampNeg 0)), (.int (kk2 + (1 : Int32))), (.ref a3)]))
  refine own_step (fun t k => XS.iconst X10.here hx rfl (hb hby d3_31) k) ?_
  refine own_step (fun t k => XS.iadd X10.here hx rfl (hb hby d3_32) rfl k) ?_
  obtain ⟨T18, h18, X18, e18, W18, c18, st18⟩ := own_iastore X10 hx hZ e10 c16 (own_i3' h32 (by first | (simp only [own_inc_len, own_pre_len, own_s0_len, own_s1_len, own_s2_len, own_s3_len, own_s4_len]; done) | (simp only [own_inc_len, own_pre_len, own_s0_len, own_s1_len, own_s2_len, own_s3_len, own_s4_len]; rfl) | rfl)) (g := (mkF m 33 #[rv a1, rv a2, rv a3, rv a1, iv (4 : Int32), iv (2 : Int32), iv x2, .unset, .unset] [(.int (((own_inc (own_inc [(0 : Int32), (0 : Int32), (0 : Int32), (0 : Int32)] (kk0 + (1 : Int32))) (kk1 + (1 : Int32))).getD (kk2 + (1 : Int32)).toNatClampNeg 0) + (1 : Int32))), (.int (kk2 + (1 : Int32))), (.ref a3)])) rfl rfl (hb hby d3_33)
  have N18 := Fr.snoc X18 N10 g_a3
  have c19 : own_Ari Z h18 a3 .int ((own_inc (own_inc [(0 : Int32), (0 : Int32), (0 : Int32), (0 : Int32)] (kk0 + (1 : Int32))) (kk1 + (1 : Int32))).set (kk2 + (1 : Int32)).toNatClampNeg (((own_inc (own_inc [(0 : Int32), (0 : Int32), (0 : Int32), (0 : Int32)] (kk0 + (1 : Int32))) (kk1 + (1 : Int32))).getD (kk2 + (1 : Int32)).toNatClampNeg 0) + (1 : Int32))) := c18
  have c20 : own_Ari Z h18 a1 .int [x0, x1, x2, x3] := c12.other W18 ne_a1_a3
  have c21 : own_Ari Z h18 a2 .int [kv0, kv1, kv2, kv3] := c13.other W18 ne_a2_a3
  have c23 : Exa Z h18 a3 "[I" := c15.wr W18
  have K18 : Keep h0 h18 [a3] := K10.wr W18 (Or.inl (List.mem_of_getElem? (i := 0) rfl))
  refine own_step st18 ?_
  have c24 : own_Ari Z h18 a3 .int (own_inc (own_inc (own_inc [(0 : Int32), (0 : Int32), (0 : Int32), (0 : Int32)] (kk0 + (1 : Int32))) (kk1 + (1 : Int32))) (kk2 + (1 : Int32))) := c19
  refine own_step (fun t k => XS.iinc X18.here hx rfl (hb hby d3_34) rfl (l' := #[rv a1, rv a2, rv a3, rv a1, iv (4 : Int32), iv (3 : Int32), iv x2, .unset, .unset]) rfl k) ?_
  clear K10 N10 W18 X10 c12 c13 c15 c16 c18 c19 e10 hk17 st18
  show own_G p.tables e below _ (T18.setTop (mkF m 37 #[rv a1, rv a2, rv a3, rv a1, iv (4 : Int32), iv (3 : Int32), iv x2, .unset, .unset] []))
  refine own_step (fun t k => XS.goto X18.here hx rfl (pc0 := 37) (pc' := 9) rfl (hb hby d3_37) (by decide) (by decide) k) ?_
  refine own_step (fun t k => XS.iload X18.here hx rfl (hb hby d3_9) rfl k) ?_
  refine own_step (fun t k => XS.iload X18.here hx rfl (hb hby d3_11) rfl k) ?_
  have hk25 : (3 : Int32) < (4 : Int32) := (by decide)
  refine own_step (fun t k => XS.icmpNo X18.here hx rfl (hb hby d3_13) rfl ((tlt hk25).2.1) k) ?_
  show own_G p.tables e below _ (T18.setTop (mkF m 16 #[rv a1, rv a2, rv a3, rv a1, iv (4 : Int32), iv (3 : Int32), iv x2, .unset, .unset] []))
  refine own_step (fun t k => XS.aloadN X18.here hx rfl (hb hby d3_16) rfl rfl k) ?_
  refine own_step (fun t k => XS.iload X18.here hx rfl (hb hby d3_17) rfl k) ?_
  refine own_step (own_iaload X18 hx hZ e18 c20 (own_inb (by decide) (Nat.le_of_ble_eq_true rfl)) (g := (mkF m 19 #[rv a1, rv a2, rv a3, rv a1, iv (4 : Int32), iv (3 : Int32), iv x2, .unset, .unset] [(.int (3 : Int32)), (.ref a1)])) rfl rfl (hb hby d3_19)) ?_
  refine own_step (fun t k => XS.istore X18.here hx rfl (hb hby d3_20) rfl (l' := #[rv a1, rv a2, rv a3, rv a1, iv (4 : Int32), iv (3 : Int32), iv x3, .unset, .unset]) rfl k) ?_
  show own_G p.tables e below _ (T18.setTop (mkF m 22 #[rv a1, rv a2, rv a3, rv a1, iv (4 : Int32), iv (3 : Int32), iv x3, .unset, .unset] []))
  refine own_step (fun t k => XS.aloadN X18.here hx rfl (hb hby d3_22) rfl rfl k) ?_
  refine own_step (fun t k => XS.aloadN X18.here hx rfl (hb hby d3_23) rfl rfl k) ?_
  refine own_step (fun t k => XS.iload X18.here hx rfl (hb hby d3_24) rfl k) ?_
  refine own_step (own_iaload X18 hx hZ e18 c21 (own_i4 hx3 rfl) (g := (mkF m 26 #[rv a1, rv a2, rv a3, rv a1, iv (4 : Int32), iv (3 : Int32), iv x3, .unset, .unset] [(.int x3), (.ref a2), (.ref a3)])) rfl rfl (hb hby d3_26)) ?_
  show own_G p.tables e below _ (T18.setTop (mkF m 27 #[rv a1, rv a2, rv a3, rv a1, iv (4 : Int32), iv (3 : Int32), iv x3, .unset, .unset] [(.int ([kv0, kv1, kv2, kv3].getD x3.toNatClampNeg 0)), (.ref a3)]))
  show own_G p.tables e below _ (T18.setTop (mkF m 27 #[rv a1, rv a2, rv a3, rv a1, iv (4 : Int32), iv (3 : Int32), iv x3, .unset, .unset] [(.int ([kv0, kv1, kv2, kv3].getD x3.toNatClampNeg 0)), (.ref a3)]))
  rw [hky3]
  show own_G p.tables e below _ (T18.setTop (mkF m 27 #[rv a1, rv a2, rv a3, rv a1, iv (4 : Int32), iv (3 : Int32), iv x3, .unset, .unset] [(.int kk3), (.ref a3)]))
  refine own_step (fun t k => XS.iconst X18.here hx rfl (hb hby d3_27) k) ?_
  refine own_step (fun t k => XS.iadd X18.here hx rfl (hb hby d3_28) rfl k) ?_
  refine own_step (B := T18.setTop (mkF m 30 #[rv a1, rv a2, rv a3, rv a1, iv (4 : Int32), iv (3 : Int32), iv x3, .unset, .unset] [(.int (kk3 + (1 : Int32))), (.ref a3), (.int (kk3 + (1 : Int32))), (.ref a3)])) (fun t k => by
    jvm_step X18.here [X18.here.top, hx, (hb hby d3_29), Value.category]
    exact k) ?_
  refine own_step (own_iaload X18 hx hZ e18 c24 (own_i3' h33 (by first | (simp only [own_inc_len, own_pre_len, own_s0_len, own_s1_len, own_s2_len, own_s3_len, own_s4_len]; done) | (simp only [own_inc_len, own_pre_len, own_s0_len, own_s1_len, own_s2_len, own_s3_len, own_s4_len]; rfl) | rfl)) (g := (mkF m 30 #[rv a1, rv a2, rv a3, rv a1, iv (4 : Int32), iv (3 : Int32), iv x3, .unset, .unset] [(.int (kk3 + (1 : Int32))), (.ref a3), (.int (kk3 + (1 : Int32))), (.ref a3)])) rfl rfl (hb hby d3_30)) ?_
  show own_G p.tables e below _ (T18.setTop (mkF m 31 #[rv a1, rv a2, rv a3, rv a1, iv (4 : Int32), iv (3 : Int32), iv x3, .unset, .unset] [(.int ((own_inc (own_inc (own_inc [(0 : Int32), (0 : Int32), (0 : Int32), (0 : Int32)] (kk0 + (1 : Int32))) (kk1 + (1 : Int32))) (kk2 + (1 : Int32))).getD (kk3 + (1 : Int32)).toNatClampNeg 0)), (.int (kk3 + (1 : Int32))), (.ref a3)]))
  refine own_step (fun t k => XS.iconst X18.here hx rfl (hb hby d3_31) k) ?_
  refine own_step (fun t k => XS.iadd X18.here hx rfl (hb hby d3_32) rfl k) ?_
  obtain ⟨T26, h26, X26, e26, W26, c26, st26⟩ := own_iastore X18 hx hZ e18 c24 (own_i3' h33 (by first | (simp only [own_inc_len, own_pre_len, own_s0_len, own_s1_len, own_s2_len, own_s3_len, own_s4_len]; done) | (simp only [own_inc_len, own_pre_len, own_s0_len, own_s1_len, own_s2_len, own_s3_len, own_s4_len]; rfl) | rfl)) (g := (mkF m 33 #[rv a1, rv a2, rv a3, rv a1, iv (4 : Int32), iv (3 : Int32), iv x3, .unset, .unset] [(.int (((own_inc (own_inc (own_inc [(0 : Int32), (0 : Int32), (0 : Int32), (0 : Int32)] (kk0 + (1 : Int32))) (kk1 + (1 : Int32))) (kk2 + (1 : Int32))).getD (kk3 + (1 : Int32)).toNatClampNeg 0) + (1 : Int32))), (.int (kk3 + (1 : Int32))), (.ref a3)])) rfl rfl (hb hby d3_33)
  have N26 := Fr.snoc X26 N18 g_a3
  have c27 : own_Ari Z h26 a3 .int ((own_inc (own_inc (own_inc [(0 : Int32), (0 : Int32), (0 : Int32), (0 : Int32)] (kk0 + (1 : Int32))) (kk1 + (1 : Int32))) (kk2 + (1 : Int32))).set (kk3 + (1 : Int32)).toNatClampNeg (((own_inc (own_inc (own_inc [(0 : Int32), (0 : Int32), (0 : Int32), (0 : Int32)] (kk0 + (1 : Int32))) (kk1 + (1 : Int32))) (kk2 + (1 : Int32))).getD (kk3 + (1 : Int32)).toNatClampNeg 0) + (1 : Int32))) := c26
  have c28 : own_Ari Z h26 a1 .int [x0, x1, x2, x3] := c20.other W26 ne_a1_a3
  have c29 : own_Ari Z h26 a2 .int [kv0, kv1, kv2, kv3] := c21.other W26 ne_a2_a3
  have c31 : Exa Z h26 a3 "[I" := c23.wr W26
  have K26 : Keep h0 h26 [a3] := K18.wr W26 (Or.inl (List.mem_of_getElem? (i := 0) rfl))
  refine own_step st26 ?_
  have c32 : own_Ari Z h26 a3 .int (own_inc (own_inc (own_inc (own_inc [(0 : Int32), (0 : Int32), (0 : Int32), (0 : Int32)] (kk0 + (1 : Int32))) (kk1 + (1 : Int32))) (kk2 + (1 : Int32))) (kk3 + (1 : Int32))) := c27
  refine own_step (fun t k => XS.iinc X26.here hx rfl (hb hby d3_34) rfl (l' := #[rv a1, rv a2, rv a3, rv a1, iv (4 : Int32), iv (4 : Int32), iv x3, .unset, .unset]) rfl k) ?_
  clear K18 N18 W26 X18 c20 c21 c23 c24 c26 c27 e18 hk25 st26
  show own_G p.tables e below _ (T26.setTop (mkF m 37 #[rv a1, rv a2, rv a3, rv a1, iv (4 : Int32), iv (4 : Int32), iv x3, .unset, .unset] []))
  refine own_step (fun t k => XS.goto X26.here hx rfl (pc0 := 37) (pc' := 9) rfl (hb hby d3_37) (by decide) (by decide) k) ?_
  refine own_step (fun t k => XS.iload X26.here hx rfl (hb hby d3_9) rfl k) ?_
  refine own_step (fun t k => XS.iload X26.here hx rfl (hb hby d3_11) rfl k) ?_
  have hk33 : ¬ ((4 : Int32) < (4 : Int32)) := (by decide)
  refine own_step (fun t k => XS.icmpYes X26.here hx rfl (pc0 := 13) (pc' := 40) rfl (hb hby d3_13) rfl ((flt hk33).2.1) (by decide) (by decide) k) ?_
  show own_G p.tables e below _ (T26.setTop (mkF m 40 #[rv a1, rv a2, rv a3, rv a1, iv (4 : Int32), iv (4 : Int32), iv x3, .unset, .unset] []))
  refine own_step (fun t k => XS.iconst X26.here hx rfl (hb hby d3_40) k) ?_
  refine own_step (fun t k => XS.istoreN X26.here hx rfl (hb hby d3_41) rfl (l' := #[rv a1, rv a2, rv a3, iv (0 : Int32), iv (4 : Int32), iv (4 : Int32), iv x3, .unset, .unset]) rfl k) ?_
  refine own_step (fun t k => XS.iloadN X26.here hx rfl (hb hby d3_42) rfl k) ?_
  refine own_step (fun t k => XS.aloadN X26.here hx rfl (hb hby d3_43) rfl rfl k) ?_
  show own_G p.tables e below _ (T26.setTop (mkF m 44 #[rv a1, rv a2, rv a3, iv (0 : Int32), iv (4 : Int32), iv (4 : Int32), iv x3, .unset, .unset] [(.ref a3), (.int (0 : Int32))]))
  refine own_step (own_lenI X26 hx hZ e26 c32 (g := (mkF m 44 #[rv a1, rv a2, rv a3, iv (0 : Int32), iv (4 : Int32), iv (4 : Int32), iv x3, .unset, .unset] [(.ref a3), (.int (0 : Int32))])) rfl rfl (hb hby d3_44)) ?_
  show own_G p.tables e below _ (T26.setTop (mkF m 45 #[rv a1, rv a2, rv a3, iv (0 : Int32), iv (4 : Int32), iv (4 : Int32), iv x3, .unset, .unset] [(.int ((own_inc (own_inc (own_inc (own_inc [(0 : Int32), (0 : Int32), (0 : Int32), (0 : Int32)] (kk0 + (1 : Int32))) (kk1 + (1 : Int32))) (kk2 + (1 : Int32))) (kk3 + (1 : Int32))).length.toInt32)), (.int (0 : Int32))]))
  rw [show ((own_inc (own_inc (own_inc (own_inc [(0 : Int32), (0 : Int32), (0 : Int32), (0 : Int32)] (kk0 + (1 : Int32))) (kk1 + (1 : Int32))) (kk2 + (1 : Int32))) (kk3 + (1 : Int32))).length.toInt32) = (4 : Int32) from by simp only [own_inc_len, own_pre_len]; rfl]
  show own_G p.tables e below _ (T26.setTop (mkF m 45 #[rv a1, rv a2, rv a3, iv (0 : Int32), iv (4 : Int32), iv (4 : Int32), iv x3, .unset, .unset] [(.int (4 : Int32)), (.int (0 : Int32))]))
  refine own_step (fun t k => XS.iconst X26.here hx rfl (hb hby d3_45) k) ?_
  refine own_step (fun t k => XS.isub X26.here hx rfl (hb hby d3_46) rfl k) ?_
  have hk34 : (0 : Int32) < (3 : Int32) := (by decide)
  refine own_step (fun t k => XS.icmpNo X26.here hx rfl (hb hby d3_47) rfl ((tlt hk34).2.1) k) ?_
  show own_G p.tables e below _ (T26.setTop (mkF m 50 #[rv a1, rv a2, rv a3, iv (0 : Int32), iv (4 : Int32), iv (4 : Int32), iv x3, .unset, .unset] []))
  refine own_step (fun t k => XS.aloadN X26.here hx rfl (hb hby d3_50) rfl rfl k) ?_
  refine own_step (fun t k => XS.iloadN X26.here hx rfl (hb hby d3_51) rfl k) ?_
  refine own_step (fun t k => XS.iconst X26.here hx rfl (hb hby d3_52) k) ?_
  refine own_step (fun t k => XS.iadd X26.here hx rfl (hb hby d3_53) rfl k) ?_
  show own_G p.tables e below _ (T26.setTop (mkF m 54 #[rv a1, rv a2, rv a3, iv (0 : Int32), iv (4 : Int32), iv (4 : Int32), iv x3, .unset, .unset] [(.int (1 : Int32)), (.ref a3)]))
  refine own_step (B := T26.setTop (mkF m 55 #[rv a1, rv a2, rv a3, iv (0 : Int32), iv (4 : Int32), iv (4 : Int32), iv x3, .unset, .unset] [(.int (1 : Int32)), (.ref a3), (.int (1 : Int32)), (.ref a3)])) (fun t k => by
    jvm_step X26.here [X26.here.top, hx, (hb hby d3_54), Value.category]
    exact k) ?_
  refine own_step (own_iaload X26 hx hZ e26 c32 (own_setL (n := 4) (by first | (simp only [own_inc_len, own_pre_len, own_s0_len, own_s1_len, own_s2_len, own_s3_len, own_s4_len]; done) | (simp only [own_inc_len, own_pre_len, own_s0_len, own_s1_len, own_s2_len, own_s3_len, own_s4_len]; rfl) | rfl) (own_inb (by decide) (by decide))) (g := (mkF m 55 #[rv a1, rv a2, rv a3, iv (0 : Int32), iv (4 : Int32), iv (4 : Int32), iv x3, .unset, .unset] [(.int (1 : Int32)), (.ref a3), (.int (1 : Int32)), (.ref a3)])) rfl rfl (hb hby d3_55)) ?_
  refine own_step (fun t k => XS.aloadN X26.here hx rfl (hb hby d3_56) rfl rfl k) ?_
  refine own_step (fun t k => XS.iloadN X26.here hx rfl (hb hby d3_57) rfl k) ?_
  show own_G p.tables e below _ (T26.setTop (mkF m 58 #[rv a1, rv a2, rv a3, iv (0 : Int32), iv (4 : Int32), iv (4 : Int32), iv x3, .unset, .unset] [(.int (0 : Int32)), (.ref a3), (.int ((own_inc (own_inc (own_inc (own_inc [(0 : Int32), (0 : Int32), (0 : Int32), (0 : Int32)] (kk0 + (1 : Int32))) (kk1 + (1 : Int32))) (kk2 + (1 : Int32))) (kk3 + (1 : Int32))).getD 1 0)), (.int (1 : Int32)), (.ref a3)]))
  refine own_step (own_iaload X26 hx hZ e26 c32 (own_setL (n := 4) (by first | (simp only [own_inc_len, own_pre_len, own_s0_len, own_s1_len, own_s2_len, own_s3_len, own_s4_len]; done) | (simp only [own_inc_len, own_pre_len, own_s0_len, own_s1_len, own_s2_len, own_s3_len, own_s4_len]; rfl) | rfl) (own_inb (by decide) (by decide))) (g := (mkF m 58 #[rv a1, rv a2, rv a3, iv (0 : Int32), iv (4 : Int32), iv (4 : Int32), iv x3, .unset, .unset] [(.int (0 : Int32)), (.ref a3), (.int ((own_inc (own_inc (own_inc (own_inc [(0 : Int32), (0 : Int32), (0 : Int32), (0 : Int32)] (kk0 + (1 : Int32))) (kk1 + (1 : Int32))) (kk2 + (1 : Int32))) (kk3 + (1 : Int32))).getD 1 0)), (.int (1 : Int32)), (.ref a3)])) rfl rfl (hb hby d3_58)) ?_
  refine own_step (fun t k => XS.iadd X26.here hx rfl (hb hby d3_59) rfl k) ?_
  obtain ⟨T35, h35, X35, e35, W35, c35, st35⟩ := own_iastore X26 hx hZ e26 c32 (own_setL (n := 4) (by first | (simp only [own_inc_len, own_pre_len, own_s0_len, own_s1_len, own_s2_len, own_s3_len, own_s4_len]; done) | (simp only [own_inc_len, own_pre_len, own_s0_len, own_s1_len, own_s2_len, own_s3_len, own_s4_len]; rfl) | rfl) (own_inb (by decide) (by decide))) (g := (mkF m 60 #[rv a1, rv a2, rv a3, iv (0 : Int32), iv (4 : Int32), iv (4 : Int32), iv x3, .unset, .unset] [(.int (((own_inc (own_inc (own_inc (own_inc [(0 : Int32), (0 : Int32), (0 : Int32), (0 : Int32)] (kk0 + (1 : Int32))) (kk1 + (1 : Int32))) (kk2 + (1 : Int32))) (kk3 + (1 : Int32))).getD 1 0) + ((own_inc (own_inc (own_inc (own_inc [(0 : Int32), (0 : Int32), (0 : Int32), (0 : Int32)] (kk0 + (1 : Int32))) (kk1 + (1 : Int32))) (kk2 + (1 : Int32))) (kk3 + (1 : Int32))).getD 0 0))), (.int (1 : Int32)), (.ref a3)])) rfl rfl (hb hby d3_60)
  have N35 := Fr.snoc X35 N26 g_a3
  have c36 : own_Ari Z h35 a3 .int ((own_inc (own_inc (own_inc (own_inc [(0 : Int32), (0 : Int32), (0 : Int32), (0 : Int32)] (kk0 + (1 : Int32))) (kk1 + (1 : Int32))) (kk2 + (1 : Int32))) (kk3 + (1 : Int32))).set 1 (((own_inc (own_inc (own_inc (own_inc [(0 : Int32), (0 : Int32), (0 : Int32), (0 : Int32)] (kk0 + (1 : Int32))) (kk1 + (1 : Int32))) (kk2 + (1 : Int32))) (kk3 + (1 : Int32))).getD 1 0) + ((own_inc (own_inc (own_inc (own_inc [(0 : Int32), (0 : Int32), (0 : Int32), (0 : Int32)] (kk0 + (1 : Int32))) (kk1 + (1 : Int32))) (kk2 + (1 : Int32))) (kk3 + (1 : Int32))).getD 0 0))) := c35
  have c37 : own_Ari Z h35 a1 .int [x0, x1, x2, x3] := c28.other W35 ne_a1_a3
  have c38 : own_Ari Z h35 a2 .int [kv0, kv1, kv2, kv3] := c29.other W35 ne_a2_a3
  have c40 : Exa Z h35 a3 "[I" := c31.wr W35
  have K35 : Keep h0 h35 [a3] := K26.wr W35 (Or.inl (List.mem_of_getElem? (i := 0) rfl))
  refine own_step st35 ?_
  have c41 : own_Ari Z h35 a3 .int (own_pre (own_inc (own_inc (own_inc (own_inc [(0 : Int32), (0 : Int32), (0 : Int32), (0 : Int32)] (kk0 + (1 : Int32))) (kk1 + (1 : Int32))) (kk2 + (1 : Int32))) (kk3 + (1 : Int32))) 0) := c36
  refine own_step (fun t k => XS.iinc X35.here hx rfl (hb hby d3_61) rfl (l' := #[rv a1, rv a2, rv a3, iv (1 : Int32), iv (4 : Int32), iv (4 : Int32), iv x3, .unset, .unset]) rfl k) ?_
  clear K26 N26 W35 X26 c28 c29 c31 c32 c35 c36 e26 hk33 hk34 st35
  show own_G p.tables e below _ (T35.setTop (mkF m 64 #[rv a1, rv a2, rv a3, iv (1 : Int32), iv (4 : Int32), iv (4 : Int32), iv x3, .unset, .unset] []))
  refine own_step (fun t k => XS.goto X35.here hx rfl (pc0 := 64) (pc' := 42) rfl (hb hby d3_64) (by decide) (by decide) k) ?_
  refine own_step (fun t k => XS.iloadN X35.here hx rfl (hb hby d3_42) rfl k) ?_
  refine own_step (fun t k => XS.aloadN X35.here hx rfl (hb hby d3_43) rfl rfl k) ?_
  refine own_step (own_lenI X35 hx hZ e35 c41 (g := (mkF m 44 #[rv a1, rv a2, rv a3, iv (1 : Int32), iv (4 : Int32), iv (4 : Int32), iv x3, .unset, .unset] [(.ref a3), (.int (1 : Int32))])) rfl rfl (hb hby d3_44)) ?_
  show own_G p.tables e below _ (T35.setTop (mkF m 45 #[rv a1, rv a2, rv a3, iv (1 : Int32), iv (4 : Int32), iv (4 : Int32), iv x3, .unset, .unset] [(.int ((own_pre (own_inc (own_inc (own_inc (own_inc [(0 : Int32), (0 : Int32), (0 : Int32), (0 : Int32)] (kk0 + (1 : Int32))) (kk1 + (1 : Int32))) (kk2 + (1 : Int32))) (kk3 + (1 : Int32))) 0).length.toInt32)), (.int (1 : Int32))]))
  show own_G p.tables e below _ (T35.setTop (mkF m 45 #[rv a1, rv a2, rv a3, iv (1 : Int32), iv (4 : Int32), iv (4 : Int32), iv x3, .unset, .unset] [(.int ((own_pre (own_inc (own_inc (own_inc (own_inc [(0 : Int32), (0 : Int32), (0 : Int32), (0 : Int32)] (kk0 + (1 : Int32))) (kk1 + (1 : Int32))) (kk2 + (1 : Int32))) (kk3 + (1 : Int32))) 0).length.toInt32)), (.int (1 : Int32))]))
  rw [show ((own_pre (own_inc (own_inc (own_inc (own_inc [(0 : Int32), (0 : Int32), (0 : Int32), (0 : Int32)] (kk0 + (1 : Int32))) (kk1 + (1 : Int32))) (kk2 + (1 : Int32))) (kk3 + (1 : Int32))) 0).length.toInt32) = (4 : Int32) from by simp only [own_inc_len, own_pre_len]; rfl]
  show own_G p.tables e below _ (T35.setTop (mkF m 45 #[rv a1, rv a2, rv a3, iv (1 : Int32), iv (4 : Int32), iv (4 : Int32), iv x3, .unset, .unset] [(.int (4 : Int32)), (.int (1 : Int32))]))
  refine own_step (fun t k => XS.iconst X35.here hx rfl (hb hby d3_45) k) ?_
  refine own_step (fun t k => XS.isub X35.here hx rfl (hb hby d3_46) rfl k) ?_
  have hk42 : (1 : Int32) < (3 : Int32) := (by decide)
  refine own_step (fun t k => XS.icmpNo X35.here hx rfl (hb hby d3_47) rfl ((tlt hk42).2.1) k) ?_
  show own_G p.tables e below _ (T35.setTop (mkF m 50 #[rv a1, rv a2, rv a3, iv (1 : Int32), iv (4 : Int32), iv (4 : Int32), iv x3, .unset, .unset] []))
  refine own_step (fun t k => XS.aloadN X35.here hx rfl (hb hby d3_50) rfl rfl k) ?_
  refine own_step (fun t k => XS.iloadN X35.here hx rfl (hb hby d3_51) rfl k) ?_
  refine own_step (fun t k => XS.iconst X35.here hx rfl (hb hby d3_52) k) ?_
  refine own_step (fun t k => XS.iadd X35.here hx rfl (hb hby d3_53) rfl k) ?_
  show own_G p.tables e below _ (T35.setTop (mkF m 54 #[rv a1, rv a2, rv a3, iv (1 : Int32), iv (4 : Int32), iv (4 : Int32), iv x3, .unset, .unset] [(.int (2 : Int32)), (.ref a3)]))
  refine own_step (B := T35.setTop (mkF m 55 #[rv a1, rv a2, rv a3, iv (1 : Int32), iv (4 : Int32), iv (4 : Int32), iv x3, .unset, .unset] [(.int (2 : Int32)), (.ref a3), (.int (2 : Int32)), (.ref a3)])) (fun t k => by
    jvm_step X35.here [X35.here.top, hx, (hb hby d3_54), Value.category]
    exact k) ?_
  refine own_step (own_iaload X35 hx hZ e35 c41 (own_setL (n := 4) (by first | (simp only [own_inc_len, own_pre_len, own_s0_len, own_s1_len, own_s2_len, own_s3_len, own_s4_len]; done) | (simp only [own_inc_len, own_pre_len, own_s0_len, own_s1_len, own_s2_len, own_s3_len, own_s4_len]; rfl) | rfl) (own_inb (by decide) (by decide))) (g := (mkF m 55 #[rv a1, rv a2, rv a3, iv (1 : Int32), iv (4 : Int32), iv (4 : Int32), iv x3, .unset, .unset] [(.int (2 : Int32)), (.ref a3), (.int (2 : Int32)), (.ref a3)])) rfl rfl (hb hby d3_55)) ?_
  refine own_step (fun t k => XS.aloadN X35.here hx rfl (hb hby d3_56) rfl rfl k) ?_
  refine own_step (fun t k => XS.iloadN X35.here hx rfl (hb hby d3_57) rfl k) ?_
  show own_G p.tables e below _ (T35.setTop (mkF m 58 #[rv a1, rv a2, rv a3, iv (1 : Int32), iv (4 : Int32), iv (4 : Int32), iv x3, .unset, .unset] [(.int (1 : Int32)), (.ref a3), (.int ((own_pre (own_inc (own_inc (own_inc (own_inc [(0 : Int32), (0 : Int32), (0 : Int32), (0 : Int32)] (kk0 + (1 : Int32))) (kk1 + (1 : Int32))) (kk2 + (1 : Int32))) (kk3 + (1 : Int32))) 0).getD 2 0)), (.int (2 : Int32)), (.ref a3)]))
  refine own_step (own_iaload X35 hx hZ e35 c41 (own_setL (n := 4) (by first | (simp only [own_inc_len, own_pre_len, own_s0_len, own_s1_len, own_s2_len, own_s3_len, own_s4_len]; done) | (simp only [own_inc_len, own_pre_len, own_s0_len, own_s1_len, own_s2_len, own_s3_len, own_s4_len]; rfl) | rfl) (own_inb (by decide) (by decide))) (g := (mkF m 58 #[rv a1, rv a2, rv a3, iv (1 : Int32), iv (4 : Int32), iv (4 : Int32), iv x3, .unset, .unset] [(.int (1 : Int32)), (.ref a3), (.int ((own_pre (own_inc (own_inc (own_inc (own_inc [(0 : Int32), (0 : Int32), (0 : Int32), (0 : Int32)] (kk0 + (1 : Int32))) (kk1 + (1 : Int32))) (kk2 + (1 : Int32))) (kk3 + (1 : Int32))) 0).getD 2 0)), (.int (2 : Int32)), (.ref a3)])) rfl rfl (hb hby d3_58)) ?_
  refine own_step (fun t k => XS.iadd X35.here hx rfl (hb hby d3_59) rfl k) ?_
  obtain ⟨T43, h43, X43, e43, W43, c43, st43⟩ := own_iastore X35 hx hZ e35 c41 (own_setL (n := 4) (by first | (simp only [own_inc_len, own_pre_len, own_s0_len, own_s1_len, own_s2_len, own_s3_len, own_s4_len]; done) | (simp only [own_inc_len, own_pre_len, own_s0_len, own_s1_len, own_s2_len, own_s3_len, own_s4_len]; rfl) | rfl) (own_inb (by decide) (by decide))) (g := (mkF m 60 #[rv a1, rv a2, rv a3, iv (1 : Int32), iv (4 : Int32), iv (4 : Int32), iv x3, .unset, .unset] [(.int (((own_pre (own_inc (own_inc (own_inc (own_inc [(0 : Int32), (0 : Int32), (0 : Int32), (0 : Int32)] (kk0 + (1 : Int32))) (kk1 + (1 : Int32))) (kk2 + (1 : Int32))) (kk3 + (1 : Int32))) 0).getD 2 0) + ((own_pre (own_inc (own_inc (own_inc (own_inc [(0 : Int32), (0 : Int32), (0 : Int32), (0 : Int32)] (kk0 + (1 : Int32))) (kk1 + (1 : Int32))) (kk2 + (1 : Int32))) (kk3 + (1 : Int32))) 0).getD 1 0))), (.int (2 : Int32)), (.ref a3)])) rfl rfl (hb hby d3_60)
  have N43 := Fr.snoc X43 N35 g_a3
  have c44 : own_Ari Z h43 a3 .int ((own_pre (own_inc (own_inc (own_inc (own_inc [(0 : Int32), (0 : Int32), (0 : Int32), (0 : Int32)] (kk0 + (1 : Int32))) (kk1 + (1 : Int32))) (kk2 + (1 : Int32))) (kk3 + (1 : Int32))) 0).set 2 (((own_pre (own_inc (own_inc (own_inc (own_inc [(0 : Int32), (0 : Int32), (0 : Int32), (0 : Int32)] (kk0 + (1 : Int32))) (kk1 + (1 : Int32))) (kk2 + (1 : Int32))) (kk3 + (1 : Int32))) 0).getD 2 0) + ((own_pre (own_inc (own_inc (own_inc (own_inc [(0 : Int32), (0 : Int32), (0 : Int32), (0 : Int32)] (kk0 + (1 : Int32))) (kk1 + (1 : Int32))) (kk2 + (1 : Int32))) (kk3 + (1 : Int32))) 0).getD 1 0))) := c43
  have c45 : own_Ari Z h43 a1 .int [x0, x1, x2, x3] := c37.other W43 ne_a1_a3
  have c46 : own_Ari Z h43 a2 .int [kv0, kv1, kv2, kv3] := c38.other W43 ne_a2_a3
  have c48 : Exa Z h43 a3 "[I" := c40.wr W43
  have K43 : Keep h0 h43 [a3] := K35.wr W43 (Or.inl (List.mem_of_getElem? (i := 0) rfl))
  refine own_step st43 ?_
  have c49 : own_Ari Z h43 a3 .int (own_pre (own_pre (own_inc (own_inc (own_inc (own_inc [(0 : Int32), (0 : Int32), (0 : Int32), (0 : Int32)] (kk0 + (1 : Int32))) (kk1 + (1 : Int32))) (kk2 + (1 : Int32))) (kk3 + (1 : Int32))) 0) 1) := c44
  refine own_step (fun t k => XS.iinc X43.here hx rfl (hb hby d3_61) rfl (l' := #[rv a1, rv a2, rv a3, iv (2 : Int32), iv (4 : Int32), iv (4 : Int32), iv x3, .unset, .unset]) rfl k) ?_
  clear K35 N35 W43 X35 c37 c38 c40 c41 c43 c44 e35 hk42 st43
  show own_G p.tables e below _ (T43.setTop (mkF m 64 #[rv a1, rv a2, rv a3, iv (2 : Int32), iv (4 : Int32), iv (4 : Int32), iv x3, .unset, .unset] []))
  refine own_step (fun t k => XS.goto X43.here hx rfl (pc0 := 64) (pc' := 42) rfl (hb hby d3_64) (by decide) (by decide) k) ?_
  refine own_step (fun t k => XS.iloadN X43.here hx rfl (hb hby d3_42) rfl k) ?_
  refine own_step (fun t k => XS.aloadN X43.here hx rfl (hb hby d3_43) rfl rfl k) ?_
  refine own_step (own_lenI X43 hx hZ e43 c49 (g := (mkF m 44 #[rv a1, rv a2, rv a3, iv (2 : Int32), iv (4 : Int32), iv (4 : Int32), iv x3, .unset, .unset] [(.ref a3), (.int (2 : Int32))])) rfl rfl (hb hby d3_44)) ?_
  show own_G p.tables e below _ (T43.setTop (mkF m 45 #[rv a1, rv a2, rv a3, iv (2 : Int32), iv (4 : Int32), iv (4 : Int32), iv x3, .unset, .unset] [(.int ((own_pre (own_pre (own_inc (own_inc (own_inc (own_inc [(0 : Int32), (0 : Int32), (0 : Int32), (0 : Int32)] (kk0 + (1 : Int32))) (kk1 + (1 : Int32))) (kk2 + (1 : Int32))) (kk3 + (1 : Int32))) 0) 1).length.toInt32)), (.int (2 : Int32))]))
  show own_G p.tables e below _ (T43.setTop (mkF m 45 #[rv a1, rv a2, rv a3, iv (2 : Int32), iv (4 : Int32), iv (4 : Int32), iv x3, .unset, .unset] [(.int ((own_pre (own_pre (own_inc (own_inc (own_inc (own_inc [(0 : Int32), (0 : Int32), (0 : Int32), (0 : Int32)] (kk0 + (1 : Int32))) (kk1 + (1 : Int32))) (kk2 + (1 : Int32))) (kk3 + (1 : Int32))) 0) 1).length.toInt32)), (.int (2 : Int32))]))
  rw [show ((own_pre (own_pre (own_inc (own_inc (own_inc (own_inc [(0 : Int32), (0 : Int32), (0 : Int32), (0 : Int32)] (kk0 + (1 : Int32))) (kk1 + (1 : Int32))) (kk2 + (1 : Int32))) (kk3 + (1 : Int32))) 0) 1).length.toInt32) = (4 : Int32) from by simp only [own_inc_len, own_pre_len]; rfl]
  show own_G p.tables e below _ (T43.setTop (mkF m 45 #[rv a1, rv a2, rv a3, iv (2 : Int32), iv (4 : Int32), iv (4 : Int32), iv x3, .unset, .unset] [(.int (4 : Int32)), (.int (2 : Int32))]))
  refine own_step (fun t k => XS.iconst X43.here hx rfl (hb hby d3_45) k) ?_
  refine own_step (fun t k => XS.isub X43.here hx rfl (hb hby d3_46) rfl k) ?_
  have hk50 : (2 : Int32) < (3 : Int32) := (by decide)
  refine own_step (fun t k => XS.icmpNo X43.here hx rfl (hb hby d3_47) rfl ((tlt hk50).2.1) k) ?_
  show own_G p.tables e below _ (T43.setTop (mkF m 50 #[rv a1, rv a2, rv a3, iv (2 : Int32), iv (4 : Int32), iv (4 : Int32), iv x3, .unset, .unset] []))
  refine own_step (fun t k => XS.aloadN X43.here hx rfl (hb hby d3_50) rfl rfl k) ?_
  refine own_step (fun t k => XS.iloadN X43.here hx rfl (hb hby d3_51) rfl k) ?_
  refine own_step (fun t k => XS.iconst X43.here hx rfl (hb hby d3_52) k) ?_
  refine own_step (fun t k => XS.iadd X43.here hx rfl (hb hby d3_53) rfl k) ?_
  show own_G p.tables e below _ (T43.setTop (mkF m 54 #[rv a1, rv a2, rv a3, iv (2 : Int32), iv (4 : Int32), iv (4 : Int32), iv x3, .unset, .unset] [(.int (3 : Int32)), (.ref a3)]))
  refine own_step (B := T43.setTop (mkF m 55 #[rv a1, rv a2, rv a3, iv (2 : Int32), iv (4 : Int32), iv (4 : Int32), iv x3, .unset, .unset] [(.int (3 : Int32)), (.ref a3), (.int (3 : Int32)), (.ref a3)])) (fun t k => by
    jvm_step X43.here [X43.here.top, hx, (hb hby d3_54), Value.category]
    exact k) ?_
  refine own_step (own_iaload X43 hx hZ e43 c49 (own_setL (n := 4) (by first | (simp only [own_inc_len, own_pre_len, own_s0_len, own_s1_len, own_s2_len, own_s3_len, own_s4_len]; done) | (simp only [own_inc_len, own_pre_len, own_s0_len, own_s1_len, own_s2_len, own_s3_len, own_s4_len]; rfl) | rfl) (own_inb (by decide) (by decide))) (g := (mkF m 55 #[rv a1, rv a2, rv a3, iv (2 : Int32), iv (4 : Int32), iv (4 : Int32), iv x3, .unset, .unset] [(.int (3 : Int32)), (.ref a3), (.int (3 : Int32)), (.ref a3)])) rfl rfl (hb hby d3_55)) ?_
  refine own_step (fun t k => XS.aloadN X43.here hx rfl (hb hby d3_56) rfl rfl k) ?_
  refine own_step (fun t k => XS.iloadN X43.here hx rfl (hb hby d3_57) rfl k) ?_
  show own_G p.tables e below _ (T43.setTop (mkF m 58 #[rv a1, rv a2, rv a3, iv (2 : Int32), iv (4 : Int32), iv (4 : Int32), iv x3, .unset, .unset] [(.int (2 : Int32)), (.ref a3), (.int ((own_pre (own_pre (own_inc (own_inc (own_inc (own_inc [(0 : Int32), (0 : Int32), (0 : Int32), (0 : Int32)] (kk0 + (1 : Int32))) (kk1 + (1 : Int32))) (kk2 + (1 : Int32))) (kk3 + (1 : Int32))) 0) 1).getD 3 0)), (.int (3 : Int32)), (.ref a3)]))
  refine own_step (own_iaload X43 hx hZ e43 c49 (own_setL (n := 4) (by first | (simp only [own_inc_len, own_pre_len, own_s0_len, own_s1_len, own_s2_len, own_s3_len, own_s4_len]; done) | (simp only [own_inc_len, own_pre_len, own_s0_len, own_s1_len, own_s2_len, own_s3_len, own_s4_len]; rfl) | rfl) (own_inb (by decide) (by decide))) (g := (mkF m 58 #[rv a1, rv a2, rv a3, iv (2 : Int32), iv (4 : Int32), iv (4 : Int32), iv x3, .unset, .unset] [(.int (2 : Int32)), (.ref a3), (.int ((own_pre (own_pre (own_inc (own_inc (own_inc (own_inc [(0 : Int32), (0 : Int32), (0 : Int32), (0 : Int32)] (kk0 + (1 : Int32))) (kk1 + (1 : Int32))) (kk2 + (1 : Int32))) (kk3 + (1 : Int32))) 0) 1).getD 3 0)), (.int (3 : Int32)), (.ref a3)])) rfl rfl (hb hby d3_58)) ?_
  refine own_step (fun t k => XS.iadd X43.here hx rfl (hb hby d3_59) rfl k) ?_
  obtain ⟨T51, h51, X51, e51, W51, c51, st51⟩ := own_iastore X43 hx hZ e43 c49 (own_setL (n := 4) (by first | (simp only [own_inc_len, own_pre_len, own_s0_len, own_s1_len, own_s2_len, own_s3_len, own_s4_len]; done) | (simp only [own_inc_len, own_pre_len, own_s0_len, own_s1_len, own_s2_len, own_s3_len, own_s4_len]; rfl) | rfl) (own_inb (by decide) (by decide))) (g := (mkF m 60 #[rv a1, rv a2, rv a3, iv (2 : Int32), iv (4 : Int32), iv (4 : Int32), iv x3, .unset, .unset] [(.int (((own_pre (own_pre (own_inc (own_inc (own_inc (own_inc [(0 : Int32), (0 : Int32), (0 : Int32), (0 : Int32)] (kk0 + (1 : Int32))) (kk1 + (1 : Int32))) (kk2 + (1 : Int32))) (kk3 + (1 : Int32))) 0) 1).getD 3 0) + ((own_pre (own_pre (own_inc (own_inc (own_inc (own_inc [(0 : Int32), (0 : Int32), (0 : Int32), (0 : Int32)] (kk0 + (1 : Int32))) (kk1 + (1 : Int32))) (kk2 + (1 : Int32))) (kk3 + (1 : Int32))) 0) 1).getD 2 0))), (.int (3 : Int32)), (.ref a3)])) rfl rfl (hb hby d3_60)
  have N51 := Fr.snoc X51 N43 g_a3
  have c52 : own_Ari Z h51 a3 .int ((own_pre (own_pre (own_inc (own_inc (own_inc (own_inc [(0 : Int32), (0 : Int32), (0 : Int32), (0 : Int32)] (kk0 + (1 : Int32))) (kk1 + (1 : Int32))) (kk2 + (1 : Int32))) (kk3 + (1 : Int32))) 0) 1).set 3 (((own_pre (own_pre (own_inc (own_inc (own_inc (own_inc [(0 : Int32), (0 : Int32), (0 : Int32), (0 : Int32)] (kk0 + (1 : Int32))) (kk1 + (1 : Int32))) (kk2 + (1 : Int32))) (kk3 + (1 : Int32))) 0) 1).getD 3 0) + ((own_pre (own_pre (own_inc (own_inc (own_inc (own_inc [(0 : Int32), (0 : Int32), (0 : Int32), (0 : Int32)] (kk0 + (1 : Int32))) (kk1 + (1 : Int32))) (kk2 + (1 : Int32))) (kk3 + (1 : Int32))) 0) 1).getD 2 0))) := c51
  have c53 : own_Ari Z h51 a1 .int [x0, x1, x2, x3] := c45.other W51 ne_a1_a3
  have c54 : own_Ari Z h51 a2 .int [kv0, kv1, kv2, kv3] := c46.other W51 ne_a2_a3
  have c56 : Exa Z h51 a3 "[I" := c48.wr W51
  have K51 : Keep h0 h51 [a3] := K43.wr W51 (Or.inl (List.mem_of_getElem? (i := 0) rfl))
  refine own_step st51 ?_
  have c57 : own_Ari Z h51 a3 .int (own_pre (own_pre (own_pre (own_inc (own_inc (own_inc (own_inc [(0 : Int32), (0 : Int32), (0 : Int32), (0 : Int32)] (kk0 + (1 : Int32))) (kk1 + (1 : Int32))) (kk2 + (1 : Int32))) (kk3 + (1 : Int32))) 0) 1) 2) := c52
  refine own_step (fun t k => XS.iinc X51.here hx rfl (hb hby d3_61) rfl (l' := #[rv a1, rv a2, rv a3, iv (3 : Int32), iv (4 : Int32), iv (4 : Int32), iv x3, .unset, .unset]) rfl k) ?_
  clear K43 N43 W51 X43 c45 c46 c48 c49 c51 c52 e43 hk50 st51
  show own_G p.tables e below _ (T51.setTop (mkF m 64 #[rv a1, rv a2, rv a3, iv (3 : Int32), iv (4 : Int32), iv (4 : Int32), iv x3, .unset, .unset] []))
  refine own_step (fun t k => XS.goto X51.here hx rfl (pc0 := 64) (pc' := 42) rfl (hb hby d3_64) (by decide) (by decide) k) ?_
  refine own_step (fun t k => XS.iloadN X51.here hx rfl (hb hby d3_42) rfl k) ?_
  refine own_step (fun t k => XS.aloadN X51.here hx rfl (hb hby d3_43) rfl rfl k) ?_
  refine own_step (own_lenI X51 hx hZ e51 c57 (g := (mkF m 44 #[rv a1, rv a2, rv a3, iv (3 : Int32), iv (4 : Int32), iv (4 : Int32), iv x3, .unset, .unset] [(.ref a3), (.int (3 : Int32))])) rfl rfl (hb hby d3_44)) ?_
  show own_G p.tables e below _ (T51.setTop (mkF m 45 #[rv a1, rv a2, rv a3, iv (3 : Int32), iv (4 : Int32), iv (4 : Int32), iv x3, .unset, .unset] [(.int ((own_pre (own_pre (own_pre (own_inc (own_inc (own_inc (own_inc [(0 : Int32), (0 : Int32), (0 : Int32), (0 : Int32)] (kk0 + (1 : Int32))) (kk1 + (1 : Int32))) (kk2 + (1 : Int32))) (kk3 + (1 : Int32))) 0) 1) 2).length.toInt32)), (.int (3 : Int32))]))
  show own_G p.tables e below _ (T51.setTop (mkF m 45 #[rv a1, rv a2, rv a3, iv (3 : Int32), iv (4 : Int32), iv (4 : Int32), iv x3, .unset, .unset] [(.int ((own_pre (own_pre (own_pre (own_inc (own_inc (own_inc (own_inc [(0 : Int32), (0 : Int32), (0 : Int32), (0 : Int32)] (kk0 + (1 : Int32))) (kk1 + (1 : Int32))) (kk2 + (1 : Int32))) (kk3 + (1 : Int32))) 0) 1) 2).length.toInt32)), (.int (3 : Int32))]))
  rw [show ((own_pre (own_pre (own_pre (own_inc (own_inc (own_inc (own_inc [(0 : Int32), (0 : Int32), (0 : Int32), (0 : Int32)] (kk0 + (1 : Int32))) (kk1 + (1 : Int32))) (kk2 + (1 : Int32))) (kk3 + (1 : Int32))) 0) 1) 2).length.toInt32) = (4 : Int32) from by simp only [own_inc_len, own_pre_len]; rfl]
  show own_G p.tables e below _ (T51.setTop (mkF m 45 #[rv a1, rv a2, rv a3, iv (3 : Int32), iv (4 : Int32), iv (4 : Int32), iv x3, .unset, .unset] [(.int (4 : Int32)), (.int (3 : Int32))]))
  refine own_step (fun t k => XS.iconst X51.here hx rfl (hb hby d3_45) k) ?_
  refine own_step (fun t k => XS.isub X51.here hx rfl (hb hby d3_46) rfl k) ?_
  have hk58 : ¬ ((3 : Int32) < (3 : Int32)) := (by decide)
  refine own_step (fun t k => XS.icmpYes X51.here hx rfl (pc0 := 47) (pc' := 67) rfl (hb hby d3_47) rfl ((flt hk58).2.1) (by decide) (by decide) k) ?_
  show own_G p.tables e below _ (T51.setTop (mkF m 67 #[rv a1, rv a2, rv a3, iv (3 : Int32), iv (4 : Int32), iv (4 : Int32), iv x3, .unset, .unset] []))
  have c59 : own_Ari Z h51 a3 .int (own_s4 kk0 kk1 kk2 kk3) := c57
  refine own_step (fun t k => XS.aloadN X51.here hx rfl (hb hby d3_67) rfl rfl k) ?_
  refine own_step (own_lenI X51 hx hZ e51 c53 (g := (mkF m 68 #[rv a1, rv a2, rv a3, iv (3 : Int32), iv (4 : Int32), iv (4 : Int32), iv x3, .unset, .unset] [(.ref a1)])) rfl rfl (hb hby d3_68)) ?_
  obtain ⟨T60, h60, k60, X60, e60, E60, A60, st60⟩ := newP X51 hx hZ (hw _ (List.mem_of_getElem? (i := 0) rfl)) e51 (g := (mkF m 69 #[rv a1, rv a2, rv a3, iv (3 : Int32), iv (4 : Int32), iv (4 : Int32), iv x3, .unset, .unset] [(.int (4 : Int32))])) rfl (hb hby d3_69) rfl (by decide) (cap := 4) (by decide) (by decide) (by decide) (by decide)
  obtain ⟨b60, g60⟩ : ∃ z, z = h51.size := ⟨_, rfl⟩
  have ne61 : a1 ≠ b60 := Nat.ne_of_lt (Nat.lt_of_lt_of_le c53.lt (Nat.le_of_eq g60.symm))
  have ne62 : a2 ≠ b60 := Nat.ne_of_lt (Nat.lt_of_lt_of_le c54.lt (Nat.le_of_eq g60.symm))
  have ne63 : a3 ≠ b60 := Nat.ne_of_lt (Nat.lt_of_lt_of_le c59.lt (Nat.le_of_eq g60.symm))
  have sz60 : h0.size ≤ b60 := Nat.le_trans K51.1 (Nat.le_of_eq g60.symm)
  have ge60 : n0 ≤ b60 := Nat.le_trans Z0 sz60
  have c64 : own_Ari Z h60 a1 .int [x0, x1, x2, x3] := c53.ext E60
  have c65 : own_Ari Z h60 a2 .int [kv0, kv1, kv2, kv3] := c54.ext E60
  have c66 : own_Ari Z h60 a3 .int (own_s4 kk0 kk1 kk2 kk3) := c59.ext E60
  have c67 : Exa Z h60 a3 "[I" := c56.ext E60
  have K60 : Keep h0 h60 [a3] := K51.ext E60
  rw [← g60] at A60 st60
  have c68 : own_Ari Z h60 b60 .int [(0 : Int32), (0 : Int32), (0 : Int32), (0 : Int32)] := own_Ari_new (ty := .int) A60 (by decide) rfl
  refine own_step st60 ?_
  refine own_step (fun t k => XS.astoreN X60.here hx rfl (hb hby d3_71) rfl rfl (l' := #[rv a1, rv a2, rv a3, rv b60, iv (4 : Int32), iv (4 : Int32), iv x3, .unset, .unset]) rfl k) ?_
  clear A60 E60 K51 X51 c53 c54 c56 c57 c59 e51 g60 hk58 st60
  show own_G p.tables e below _ (T60.setTop (mkF m 72 #[rv a1, rv a2, rv a3, rv b60, iv (4 : Int32), iv (4 : Int32), iv x3, .unset, .unset] []))
  refine own_step (fun t k => XS.aloadN X60.here hx rfl (hb hby d3_72) rfl rfl k) ?_
  obtain ⟨T69, h69, X69, e69, E69, A69, B69, st69⟩ := own_cloneI X60 hx hZ hown (hw _ (List.mem_of_getElem? (i := 12) rfl)) (hw _ (List.mem_of_getElem? (i := 13) rfl)) (hw _ (List.mem_of_getElem? (i := 17) rfl)) (hw _ (List.mem_of_getElem? (i := 15) rfl)) (hw _ (List.mem_of_getElem? (i := 16) rfl)) (hw _ (List.mem_of_getElem? (i := 18) rfl)) e60 c66 c67 (g := (mkF m 73 #[rv a1, rv a2, rv a3, rv b60, iv (4 : Int32), iv (4 : Int32), iv x3, .unset, .unset] [(.ref a3)])) rfl (by rw [hml]; rfl) rfl (hb hby d3_73) (by decide) (W := 0) (cap := 4) (by show 2 * 0 + _ ≤ _; exact Nat.le_of_eq rfl) (by decide) (by rw [own_s4_len]; decide) (by decide) (by decide)
  obtain ⟨b69, g69⟩ : ∃ z, z = h60.size := ⟨_, rfl⟩
  have ne70 : a1 ≠ b69 := Nat.ne_of_lt (Nat.lt_of_lt_of_le c64.lt (Nat.le_of_eq g69.symm))
  have ne71 : a2 ≠ b69 := Nat.ne_of_lt (Nat.lt_of_lt_of_le c65.lt (Nat.le_of_eq g69.symm))
  have ne72 : a3 ≠ b69 := Nat.ne_of_lt (Nat.lt_of_lt_of_le c66.lt (Nat.le_of_eq g69.symm))
  have ne73 : b60 ≠ b69 := Nat.ne_of_lt (Nat.lt_of_lt_of_le c68.lt (Nat.le_of_eq g69.symm))
  have sz69 : h0.size ≤ b69 := Nat.le_trans K60.1 (Nat.le_of_eq g69.symm)
  have ge69 : n0 ≤ b69 := Nat.le_trans Z0 sz69
  have c74 : own_Ari Z h69 a1 .int [x0, x1, x2, x3] := c64.ext E69
  have c75 : own_Ari Z h69 a2 .int [kv0, kv1, kv2, kv3] := c65.ext E69
  have c76 : own_Ari Z h69 a3 .int (own_s4 kk0 kk1 kk2 kk3) := c66.ext E69
  have c77 : Exa Z h69 a3 "[I" := c67.ext E69
  have c78 : own_Ari Z h69 b60 .int [(0 : Int32), (0 : Int32), (0 : Int32), (0 : Int32)] := c68.ext E69
  have K69 : Keep h0 h69 [a3] := K60.ext E69
  rw [← g69] at A69 B69 st69
  refine own_step st69 ?_
  obtain ⟨T79, X79, e79, st79⟩ := castY X69 hx hZ hown (hw _ (List.mem_of_getElem? (i := 19) rfl)) e69 (Ins.self B69) (g := (mkF m 76 #[rv a1, rv a2, rv a3, rv b60, iv (4 : Int32), iv (4 : Int32), iv x3, .unset, .unset] [(.ref b69)])) rfl rfl (hb hby d3_76)
  refine own_step st79 ?_
  refine own_step (fun t k => XS.astore X79.here hx rfl (hb hby d3_79) rfl rfl (l' := #[rv a1, rv a2, rv a3, rv b60, rv b69, iv (4 : Int32), iv x3, .unset, .unset]) rfl k) ?_
  clear E69 K60 X60 X69 c64 c65 c66 c67 c68 e60 e69 g69 st69 st79
  show own_G p.tables e below _ (T79.setTop (mkF m 81 #[rv a1, rv a2, rv a3, rv b60, rv b69, iv (4 : Int32), iv x3, .unset, .unset] []))
  refine own_step (fun t k => XS.aloadN X79.here hx rfl (hb hby d3_81) rfl rfl k) ?_
  refine own_step (fun t k => XS.astore X79.here hx rfl (hb hby d3_82) rfl rfl (l' := #[rv a1, rv a2, rv a3, rv b60, rv b69, rv a1, iv x3, .unset, .unset]) rfl k) ?_
  refine own_step (fun t k => XS.aload X79.here hx rfl (hb hby d3_84) rfl rfl k) ?_
  refine own_step (own_lenI X79 hx hZ e79 c74 (g := (mkF m 86 #[rv a1, rv a2, rv a3, rv b60, rv b69, rv a1, iv x3, .unset, .unset] [(.ref a1)])) rfl rfl (hb hby d3_86)) ?_
  show own_G p.tables e below _ (T79.setTop (mkF m 87 #[rv a1, rv a2, rv a3, rv b60, rv b69, rv a1, iv x3, .unset, .unset] [(.int (4 : Int32))]))
  refine own_step (fun t k => XS.istore X79.here hx rfl (hb hby d3_87) rfl (l' := #[rv a1, rv a2, rv a3, rv b60, rv b69, rv a1, iv (4 : Int32), .unset, .unset]) rfl k) ?_
  refine own_step (fun t k => XS.iconst X79.here hx rfl (hb hby d3_89) k) ?_
  refine own_step (fun t k => XS.istore X79.here hx rfl (hb hby d3_90) rfl (l' := #[rv a1, rv a2, rv a3, rv b60, rv b69, rv a1, iv (4 : Int32), iv (0 : Int32), .unset]) rfl k) ?_
  refine own_step (fun t k => XS.iload X79.here hx rfl (hb hby d3_92) rfl k) ?_
  show own_G p.tables e below _ (T79.setTop (mkF m 94 #[rv a1, rv a2, rv a3, rv b60, rv b69, rv a1, iv (4 : Int32), iv (0 : Int32), .unset] [(.int (0 : Int32))]))
  refine own_step (fun t k => XS.iload X79.here hx rfl (hb hby d3_94) rfl k) ?_
  have hk80 : (0 : Int32) < (4 : Int32) := (by decide)
  refine own_step (fun t k => XS.icmpNo X79.here hx rfl (hb hby d3_96) rfl ((tlt hk80).2.1) k) ?_
  show own_G p.tables e below _ (T79.setTop (mkF m 99 #[rv a1, rv a2, rv a3, rv b60, rv b69, rv a1, iv (4 : Int32), iv (0 : Int32), .unset] []))
  refine own_step (fun t k => XS.aload X79.here hx rfl (hb hby d3_99) rfl rfl k) ?_
  refine own_step (fun t k => XS.iload X79.here hx rfl (hb hby d3_101) rfl k) ?_
  refine own_step (own_iaload X79 hx hZ e79 c74 (own_inb (by decide) (Nat.le_of_ble_eq_true rfl)) (g := (mkF m 103 #[rv a1, rv a2, rv a3, rv b60, rv b69, rv a1, iv (4 : Int32), iv (0 : Int32), .unset] [(.int (0 : Int32)), (.ref a1)])) rfl rfl (hb hby d3_103)) ?_
  refine own_step (fun t k => XS.istore X79.here hx rfl (hb hby d3_104) rfl (l' := #[rv a1, rv a2, rv a3, rv b60, rv b69, rv a1, iv (4 : Int32), iv (0 : Int32), iv x0]) rfl k) ?_
  show own_G p.tables e below _ (T79.setTop (mkF m 106 #[rv a1, rv a2, rv a3, rv b60, rv b69, rv a1, iv (4 : Int32), iv (0 : Int32), iv x0] []))
  refine own_step (fun t k => XS.aloadN X79.here hx rfl (hb hby d3_106) rfl rfl k) ?_
  refine own_step (fun t k => XS.aload X79.here hx rfl (hb hby d3_107) rfl rfl k) ?_
  refine own_step (fun t k => XS.aloadN X79.here hx rfl (hb hby d3_109) rfl rfl k) ?_
  refine own_step (fun t k => XS.iload X79.here hx rfl (hb hby d3_110) rfl k) ?_
  show own_G p.tables e below _ (T79.setTop (mkF m 112 #[rv a1, rv a2, rv a3, rv b60, rv b69, rv a1, iv (4 : Int32), iv (0 : Int32), iv x0] [(.int x0), (.ref a2), (.ref b69), (.ref b60)]))
  refine own_step (own_iaload X79 hx hZ e79 c75 (own_i4 hx0 rfl) (g := (mkF m 112 #[rv a1, rv a2, rv a3, rv b60, rv b69, rv a1, iv (4 : Int32), iv (0 : Int32), iv x0] [(.int x0), (.ref a2), (.ref b69), (.ref b60)])) rfl rfl (hb hby d3_112)) ?_
  show own_G p.tables e below _ (T79.setTop (mkF m 113 #[rv a1, rv a2, rv a3, rv b60, rv b69, rv a1, iv (4 : Int32), iv (0 : Int32), iv x0] [(.int ([kv0, kv1, kv2, kv3].getD x0.toNatClampNeg 0)), (.ref b69), (.ref b60)]))
  rw [hky0]
  show own_G p.tables e below _ (T79.setTop (mkF m 113 #[rv a1, rv a2, rv a3, rv b60, rv b69, rv a1, iv (4 : Int32), iv (0 : Int32), iv x0] [(.int kk0), (.ref b69), (.ref b60)]))
  refine own_step (B := T79.setTop (mkF m 114 #[rv a1, rv a2, rv a3, rv b60, rv b69, rv a1, iv (4 : Int32), iv (0 : Int32), iv x0] [(.int kk0), (.ref b69), (.int kk0), (.ref b69), (.ref b60)])) (fun t k => by
    jvm_step X79.here [X79.here.top, hx, (hb hby d3_113), Value.category]
    exact k) ?_
  refine own_step (own_iaload X79 hx hZ e79 A69 (own_i3 h30 (by first | (simp only [own_inc_len, own_pre_len, own_s0_len, own_s1_len, own_s2_len, own_s3_len, own_s4_len]; done) | (simp only [own_inc_len, own_pre_len, own_s0_len, own_s1_len, own_s2_len, own_s3_len, own_s4_len]; rfl) | rfl)) (g := (mkF m 114 #[rv a1, rv a2, rv a3, rv b60, rv b69, rv a1, iv (4 : Int32), iv (0 : Int32), iv x0] [(.int kk0), (.ref b69), (.int kk0), (.ref b69), (.ref b60)])) rfl rfl (hb hby d3_114)) ?_
  refine own_step (B := T79.setTop (mkF m 116 #[rv a1, rv a2, rv a3, rv b60, rv b69, rv a1, iv (4 : Int32), iv (0 : Int32), iv x0] [(.int ((own_s4 kk0 kk1 kk2 kk3).getD kk0.toNatClampNeg 0)), (.int kk0), (.ref b69), (.int ((own_s4 kk0 kk1 kk2 kk3).getD kk0.toNatClampNeg 0)), (.ref b60)])) (fun t k => by
    jvm_step X79.here [X79.here.top, hx, (hb hby d3_115), Value.category]
    exact k) ?_
  refine own_step (fun t k => XS.iconst X79.here hx rfl (hb hby d3_116) k) ?_
  show own_G p.tables e below _ (T79.setTop (mkF m 117 #[rv a1, rv a2, rv a3, rv b60, rv b69, rv a1, iv (4 : Int32), iv (0 : Int32), iv x0] [(.int (1 : Int32)), (.int ((own_s4 kk0 kk1 kk2 kk3).getD kk0.toNatClampNeg 0)), (.int kk0), (.ref b69), (.int ((own_s4 kk0 kk1 kk2 kk3).getD kk0.toNatClampNeg 0)), (.ref b60)]))
  refine own_step (fun t k => XS.iadd X79.here hx rfl (hb hby d3_117) rfl k) ?_
  obtain ⟨T81, h81, X81, e81, W81, c81, st81⟩ := own_iastore X79 hx hZ e79 A69 (own_i3 h30 (by first | (simp only [own_inc_len, own_pre_len, own_s0_len, own_s1_len, own_s2_len, own_s3_len, own_s4_len]; done) | (simp only [own_inc_len, own_pre_len, own_s0_len, own_s1_len, own_s2_len, own_s3_len, own_s4_len]; rfl) | rfl)) (g := (mkF m 118 #[rv a1, rv a2, rv a3, rv b60, rv b69, rv a1, iv (4 : Int32), iv (0 : Int32), iv x0] [(.int (((own_s4 kk0 kk1 kk2 kk3).getD kk0.toNatClampNeg 0) + (1 : Int32))), (.int kk0), (.ref b69), (.int ((own_s4 kk0 kk1 kk2 kk3).getD kk0.toNatClampNeg 0)), (.ref b60)])) rfl rfl (hb hby d3_118)
  have N81 := Fr.snoc X81 N51 ge69
  have c82 : own_Ari Z h81 b69 .int ((own_s4 kk0 kk1 kk2 kk3).set kk0.toNatClampNeg (((own_s4 kk0 kk1 kk2 kk3).getD kk0.toNatClampNeg 0) + (1 : Int32))) := c81
  have c83 : own_Ari Z h81 a1 .int [x0, x1, x2, x3] := c74.other W81 ne70
  have c84 : own_Ari Z h81 a2 .int [kv0, kv1, kv2, kv3] := c75.other W81 ne71
  have c85 : own_Ari Z h81 a3 .int (own_s4 kk0 kk1 kk2 kk3) := c76.other W81 ne72
  have c86 : Exa Z h81 a3 "[I" := c77.wr W81
  have c87 : own_Ari Z h81 b60 .int [(0 : Int32), (0 : Int32), (0 : Int32), (0 : Int32)] := c78.other W81 ne73
  have c89 : Exa Z h81 b69 "[I" := B69.wr W81
  have K81 : Keep h0 h81 [a3] := K69.wr W81 (Or.inr sz69)
  refine own_step st81 ?_
  have c90 : own_Ari Z h81 b69 .int (own_inc (own_s4 kk0 kk1 kk2 kk3) kk0) := c82
  refine own_step (fun t k => XS.iload X81.here hx rfl (hb hby d3_119) rfl k) ?_
  obtain ⟨T91, h91, X91, e91, W91, c91, st91⟩ := own_iastore X81 hx hZ e81 c87 (own_setL rfl (own_pos4_0 h30 h31 h32 h33)) (g := (mkF m 121 #[rv a1, rv a2, rv a3, rv b60, rv b69, rv a1, iv (4 : Int32), iv (0 : Int32), iv x0] [(.int x0), (.int ((own_s4 kk0 kk1 kk2 kk3).getD kk0.toNatClampNeg 0)), (.ref b60)])) rfl rfl (hb hby d3_121)
  have N91 := Fr.snoc X91 N81 ge60
  have c92 : own_Ari Z h91 b60 .int ([(0 : Int32), (0 : Int32), (0 : Int32), (0 : Int32)].set ((own_s4 kk0 kk1 kk2 kk3).getD kk0.toNatClampNeg 0).toNatClampNeg x0) := c91
  have c93 : own_Ari Z h91 a1 .int [x0, x1, x2, x3] := c83.other W91 ne61
  have c94 : own_Ari Z h91 a2 .int [kv0, kv1, kv2, kv3] := c84.other W91 ne62
  have c95 : own_Ari Z h91 a3 .int (own_s4 kk0 kk1 kk2 kk3) := c85.other W91 ne63
  have c96 : Exa Z h91 a3 "[I" := c86.wr W91
  have c98 : own_Ari Z h91 b69 .int (own_inc (own_s4 kk0 kk1 kk2 kk3) kk0) := c90.other W91 (Ne.symm ne73)
  have c99 : Exa Z h91 b69 "[I" := c89.wr W91
  have K91 : Keep h0 h91 [a3] := K81.wr W91 (Or.inr sz60)
  refine own_step st91 ?_
  clear A69 B69 K69 K81 N51 N81 W81 W91 X79 X81 c74 c75 c76 c77 c78 c81 c82 c83 c84 c85 c86 c87 c89 c90 c91 e79 e81 hk80 st81 st91
  show own_G p.tables e below _ (T91.setTop (mkF m 122 #[rv a1, rv a2, rv a3, rv b60, rv b69, rv a1, iv (4 : Int32), iv (0 : Int32), iv x0] []))
  refine own_step (fun t k => XS.iinc X91.here hx rfl (hb hby d3_122) rfl (l' := #[rv a1, rv a2, rv a3, rv b60, rv b69, rv a1, iv (4 : Int32), iv (1 : Int32), iv x0]) rfl k) ?_
  refine own_step (fun t k => XS.goto X91.here hx rfl (pc0 := 125) (pc' := 92) rfl (hb hby d3_125) (by decide) (by decide) k) ?_
  refine own_step (fun t k => XS.iload X91.here hx rfl (hb hby d3_92) rfl k) ?_
  refine own_step (fun t k => XS.iload X91.here hx rfl (hb hby d3_94) rfl k) ?_
  show own_G p.tables e below _ (T91.setTop (mkF m 96 #[rv a1, rv a2, rv a3, rv b60, rv b69, rv a1, iv (4 : Int32), iv (1 : Int32), iv x0] [(.int (4 : Int32)), (.int (1 : Int32))]))
  have hk100 : (1 : Int32) < (4 : Int32) := (by decide)
  refine own_step (fun t k => XS.icmpNo X91.here hx rfl (hb hby d3_96) rfl ((tlt hk100).2.1) k) ?_
  show own_G p.tables e below _ (T91.setTop (mkF m 99 #[rv a1, rv a2, rv a3, rv b60, rv b69, rv a1, iv (4 : Int32), iv (1 : Int32), iv x0] []))
  refine own_step (fun t k => XS.aload X91.here hx rfl (hb hby d3_99) rfl rfl k) ?_
  refine own_step (fun t k => XS.iload X91.here hx rfl (hb hby d3_101) rfl k) ?_
  refine own_step (own_iaload X91 hx hZ e91 c93 (own_inb (by decide) (Nat.le_of_ble_eq_true rfl)) (g := (mkF m 103 #[rv a1, rv a2, rv a3, rv b60, rv b69, rv a1, iv (4 : Int32), iv (1 : Int32), iv x0] [(.int (1 : Int32)), (.ref a1)])) rfl rfl (hb hby d3_103)) ?_
  refine own_step (fun t k => XS.istore X91.here hx rfl (hb hby d3_104) rfl (l' := #[rv a1, rv a2, rv a3, rv b60, rv b69, rv a1, iv (4 : Int32), iv (1 : Int32), iv x1]) rfl k) ?_
  show own_G p.tables e below _ (T91.setTop (mkF m 106 #[rv a1, rv a2, rv a3, rv b60, rv b69, rv a1, iv (4 : Int32), iv (1 : Int32), iv x1] []))
  refine own_step (fun t k => XS.aloadN X91.here hx rfl (hb hby d3_106) rfl rfl k) ?_
  refine own_step (fun t k => XS.aload X91.here hx rfl (hb hby d3_107) rfl rfl k) ?_
  refine own_step (fun t k => XS.aloadN X91.here hx rfl (hb hby d3_109) rfl rfl k) ?_
  refine own_step (fun t k => XS.iload X91.here hx rfl (hb hby d3_110) rfl k) ?_
  show own_G p.tables e below _ (T91.setTop (mkF m 112 #[rv a1, rv a2, rv a3, rv b60, rv b69, rv a1, iv (4 : Int32), iv (1 : Int32), iv x1] [(.int x1), (.ref a2), (.ref b69), (.ref b60)]))
  refine own_step (own_iaload X91 hx hZ e91 c94 (own_i4 hx1 rfl) (g := (mkF m 112 #[rv a1, rv a2, rv a3, rv b60, rv b69, rv a1, iv (4 : Int32), iv (1 : Int32), iv x1] [(.int x1), (.ref a2), (.ref b69), (.ref b60)])) rfl rfl (hb hby d3_112)) ?_
  show own_G p.tables e below _ (T91.setTop (mkF m 113 #[rv a1, rv a2, rv a3, rv b60, rv b69, rv a1, iv (4 : Int32), iv (1 : Int32), iv x1] [(.int ([kv0, kv1, kv2, kv3].getD x1.toNatClampNeg 0)), (.ref b69), (.ref b60)]))
  rw [hky1]
  show own_G p.tables e below _ (T91.setTop (mkF m 113 #[rv a1, rv a2, rv a3, rv b60, rv b69, rv a1, iv (4 : Int32), iv (1 : Int32), iv x1] [(.int kk1), (.ref b69), (.ref b60)]))
  refine own_step (B := T91.setTop (mkF m 114 #[rv a1, rv a2, rv a3, rv b60, rv b69, rv a1, iv (4 : Int32), iv (1 : Int32), iv x1] [(.int kk1), (.ref b69), (.int kk1), (.ref b69), (.ref b60)])) (fun t k => by
    jvm_step X91.here [X91.here.top, hx, (hb hby d3_113), Value.category]
    exact k) ?_
  refine own_step (own_iaload X91 hx hZ e91 c98 (own_i3 h31 (by first | (simp only [own_inc_len, own_pre_len, own_s0_len, own_s1_len, own_s2_len, own_s3_len, own_s4_len]; done) | (simp only [own_inc_len, own_pre_len, own_s0_len, own_s1_len, own_s2_len, own_s3_len, own_s4_len]; rfl) | rfl)) (g := (mkF m 114 #[rv a1, rv a2, rv a3, rv b60, rv b69, rv a1, iv (4 : Int32), iv (1 : Int32), iv x1] [(.int kk1), (.ref b69), (.int kk1), (.ref b69), (.ref b60)])) rfl rfl (hb hby d3_114)) ?_
  refine own_step (B := T91.setTop (mkF m 116 #[rv a1, rv a2, rv a3, rv b60, rv b69, rv a1, iv (4 : Int32), iv (1 : Int32), iv x1] [(.int ((own_inc (own_s4 kk0 kk1 kk2 kk3) kk0).getD kk1.toNatClampNeg 0)), (.int kk1), (.ref b69), (.int ((own_inc (own_s4 kk0 kk1 kk2 kk3) kk0).getD kk1.toNatClampNeg 0)), (.ref b60)])) (fun t k => by
    jvm_step X91.here [X91.here.top, hx, (hb hby d3_115), Value.category]
    exact k) ?_
  refine own_step (fun t k => XS.iconst X91.here hx rfl (hb hby d3_116) k) ?_
  show own_G p.tables e below _ (T91.setTop (mkF m 117 #[rv a1, rv a2, rv a3, rv b60, rv b69, rv a1, iv (4 : Int32), iv (1 : Int32), iv x1] [(.int (1 : Int32)), (.int ((own_inc (own_s4 kk0 kk1 kk2 kk3) kk0).getD kk1.toNatClampNeg 0)), (.int kk1), (.ref b69), (.int ((own_inc (own_s4 kk0 kk1 kk2 kk3) kk0).getD kk1.toNatClampNeg 0)), (.ref b60)]))
  refine own_step (fun t k => XS.iadd X91.here hx rfl (hb hby d3_117) rfl k) ?_
  obtain ⟨T101, h101, X101, e101, W101, c101, st101⟩ := own_iastore X91 hx hZ e91 c98 (own_i3 h31 (by first | (simp only [own_inc_len, own_pre_len, own_s0_len, own_s1_len, own_s2_len, own_s3_len, own_s4_len]; done) | (simp only [own_inc_len, own_pre_len, own_s0_len, own_s1_len, own_s2_len, own_s3_len, own_s4_len]; rfl) | rfl)) (g := (mkF m 118 #[rv a1, rv a2, rv a3, rv b60, rv b69, rv a1, iv (4 : Int32), iv (1 : Int32), iv x1] [(.int (((own_inc (own_s4 kk0 kk1 kk2 kk3) kk0).getD kk1.toNatClampNeg 0) + (1 : Int32))), (.int kk1), (.ref b69), (.int ((own_inc (own_s4 kk0 kk1 kk2 kk3) kk0).getD kk1.toNatClampNeg 0)), (.ref b60)])) rfl rfl (hb hby d3_118)
  have N101 := Fr.snoc X101 N91 ge69
  have c102 : own_Ari Z h101 b69 .int ((own_inc (own_s4 kk0 kk1 kk2 kk3) kk0).set kk1.toNatClampNeg (((own_inc (own_s4 kk0 kk1 kk2 kk3) kk0).getD kk1.toNatClampNeg 0) + (1 : Int32))) := c101
  have c103 : own_Ari Z h101 a1 .int [x0, x1, x2, x3] := c93.other W101 ne70
  have c104 : own_Ari Z h101 a2 .int [kv0, kv1, kv2, kv3] := c94.other W101 ne71
  have c105 : own_Ari Z h101 a3 .int (own_s4 kk0 kk1 kk2 kk3) := c95.other W101 ne72
  have c106 : Exa Z h101 a3 "[I" := c96.wr W101
  have c107 : own_Ari Z h101 b60 .int ([(0 : Int32), (0 : Int32), (0 : Int32), (0 : Int32)].set ((own_s4 kk0 kk1 kk2 kk3).getD kk0.toNatClampNeg 0).toNatClampNeg x0) := c92.other W101 ne73
  have c109 : Exa Z h101 b69 "[I" := c99.wr W101
  have K101 : Keep h0 h101 [a3] := K91.wr W101 (Or.inr sz69)
  refine own_step st101 ?_
  have c110 : own_Ari Z h101 b69 .int (own_inc (own_inc (own_s4 kk0 kk1 kk2 kk3) kk0) kk1) := c102
  refine own_step (fun t k => XS.iload X101.here hx rfl (hb hby d3_119) rfl k) ?_
  obtain ⟨T111, h111, X111, e111, W111, c111, st111⟩ := own_iastore X101 hx hZ e101 c107 (own_setL (by simp only [List.length_set]; rfl) (own_pos4_1 h30 h31 h32 h33)) (g := (mkF m 121 #[rv a1, rv a2, rv a3, rv b60, rv b69, rv a1, iv (4 : Int32), iv (1 : Int32), iv x1] [(.int x1), (.int ((own_inc (own_s4 kk0 kk1 kk2 kk3) kk0).getD kk1.toNatClampNeg 0)), (.ref b60)])) rfl rfl (hb hby d3_121)
  have N111 := Fr.snoc X111 N101 ge60
  have c112 : own_Ari Z h111 b60 .int (([(0 : Int32), (0 : Int32), (0 : Int32), (0 : Int32)].set ((own_s4 kk0 kk1 kk2 kk3).getD kk0.toNatClampNeg 0).toNatClampNeg x0).set ((own_inc (own_s4 kk0 kk1 kk2 kk3) kk0).getD kk1.toNatClampNeg 0).toNatClampNeg x1) := c111
  have c113 : own_Ari Z h111 a1 .int [x0, x1, x2, x3] := c103.other W111 ne61
  have c114 : own_Ari Z h111 a2 .int [kv0, kv1, kv2, kv3] := c104.other W111 ne62
  have c115 : own_Ari Z h111 a3 .int (own_s4 kk0 kk1 kk2 kk3) := c105.other W111 ne63
  have c116 : Exa Z h111 a3 "[I" := c106.wr W111
  have c118 : own_Ari Z h111 b69 .int (own_inc (own_inc (own_s4 kk0 kk1 kk2 kk3) kk0) kk1) := c110.other W111 (Ne.symm ne73)
  have c119 : Exa Z h111 b69 "[I" := c109.wr W111
  have K111 : Keep h0 h111 [a3] := K101.wr W111 (Or.inr sz60)
  refine own_step st111 ?_
  clear K101 K91 N101 N91 W101 W111 X101 X91 c101 c102 c103 c104 c105 c106 c107 c109 c110 c111 c92 c93 c94 c95 c96 c98 c99 e101 e91 hk100 st101 st111
  show own_G p.tables e below _ (T111.setTop (mkF m 122 #[rv a1, rv a2, rv a3, rv b60, rv b69, rv a1, iv (4 : Int32), iv (1 : Int32), iv x1] []))
  refine own_step (fun t k => XS.iinc X111.here hx rfl (hb hby d3_122) rfl (l' := #[rv a1, rv a2, rv a3, rv b60, rv b69, rv a1, iv (4 : Int32), iv (2 : Int32), iv x1]) rfl k) ?_
  refine own_step (fun t k => XS.goto X111.here hx rfl (pc0 := 125) (pc' := 92) rfl (hb hby d3_125) (by decide) (by decide) k) ?_
  refine own_step (fun t k => XS.iload X111.here hx rfl (hb hby d3_92) rfl k) ?_
  refine own_step (fun t k => XS.iload X111.here hx rfl (hb hby d3_94) rfl k) ?_
  show own_G p.tables e below _ (T111.setTop (mkF m 96 #[rv a1, rv a2, rv a3, rv b60, rv b69, rv a1, iv (4 : Int32), iv (2 : Int32), iv x1] [(.int (4 : Int32)), (.int (2 : Int32))]))
  have hk120 : (2 : Int32) < (4 : Int32) := (by decide)
  refine own_step (fun t k => XS.icmpNo X111.here hx rfl (hb hby d3_96) rfl ((tlt hk120).2.1) k) ?_
  show own_G p.tables e below _ (T111.setTop (mkF m 99 #[rv a1, rv a2, rv a3, rv b60, rv b69, rv a1, iv (4 : Int32), iv (2 : Int32), iv x1] []))
  refine own_step (fun t k => XS.aload X111.here hx rfl (hb hby d3_99) rfl rfl k) ?_
  refine own_step (fun t k => XS.iload X111.here hx rfl (hb hby d3_101) rfl k) ?_
  refine own_step (own_iaload X111 hx hZ e111 c113 (own_inb (by decide) (Nat.le_of_ble_eq_true rfl)) (g := (mkF m 103 #[rv a1, rv a2, rv a3, rv b60, rv b69, rv a1, iv (4 : Int32), iv (2 : Int32), iv x1] [(.int (2 : Int32)), (.ref a1)])) rfl rfl (hb hby d3_103)) ?_
  refine own_step (fun t k => XS.istore X111.here hx rfl (hb hby d3_104) rfl (l' := #[rv a1, rv a2, rv a3, rv b60, rv b69, rv a1, iv (4 : Int32), iv (2 : Int32), iv x2]) rfl k) ?_
  show own_G p.tables e below _ (T111.setTop (mkF m 106 #[rv a1, rv a2, rv a3, rv b60, rv b69, rv a1, iv (4 : Int32), iv (2 : Int32), iv x2] []))
  refine own_step (fun t k => XS.aloadN X111.here hx rfl (hb hby d3_106) rfl rfl k) ?_
  refine own_step (fun t k => XS.aload X111.here hx rfl (hb hby d3_107) rfl rfl k) ?_
  refine own_step (fun t k => XS.aloadN X111.here hx rfl (hb hby d3_109) rfl rfl k) ?_
  refine own_step (fun t k => XS.iload X111.here hx rfl (hb hby d3_110) rfl k) ?_
  show own_G p.tables e below _ (T111.setTop (mkF m 112 #[rv a1, rv a2, rv a3, rv b60, rv b69, rv a1, iv (4 : Int32), iv (2 : Int32), iv x2] [(.int x2), (.ref a2), (.ref b69), (.ref b60)]))
  refine own_step (own_iaload X111 hx hZ e111 c114 (own_i4 hx2 rfl) (g := (mkF m 112 #[rv a1, rv a2, rv a3, rv b60, rv b69, rv a1, iv (4 : Int32), iv (2 : Int32), iv x2] [(.int x2), (.ref a2), (.ref b69), (.ref b60)])) rfl rfl (hb hby d3_112)) ?_
  show own_G p.tables e below _ (T111.setTop (mkF m 113 #[rv a1, rv a2, rv a3, rv b60, rv b69, rv a1, iv (4 : Int32), iv (2 : Int32), iv x2] [(.int ([kv0, kv1, kv2, kv3].getD x2.toNatClampNeg 0)), (.ref b69), (.ref b60)]))
  rw [hky2]
  show own_G p.tables e below _ (T111.setTop (mkF m 113 #[rv a1, rv a2, rv a3, rv b60, rv b69, rv a1, iv (4 : Int32), iv (2 : Int32), iv x2] [(.int kk2), (.ref b69), (.ref b60)]))
  refine own_step (B := T111.setTop (mkF m 114 #[rv a1, rv a2, rv a3, rv b60, rv b69, rv a1, iv (4 : Int32), iv (2 : Int32), iv x2] [(.int kk2), (.ref b69), (.int kk2), (.ref b69), (.ref b60)])) (fun t k => by
    jvm_step X111.here [X111.here.top, hx, (hb hby d3_113), Value.category]
    exact k) ?_
  refine own_step (own_iaload X111 hx hZ e111 c118 (own_i3 h32 (by first | (simp only [own_inc_len, own_pre_len, own_s0_len, own_s1_len, own_s2_len, own_s3_len, own_s4_len]; done) | (simp only [own_inc_len, own_pre_len, own_s0_len, own_s1_len, own_s2_len, own_s3_len, own_s4_len]; rfl) | rfl)) (g := (mkF m 114 #[rv a1, rv a2, rv a3, rv b60, rv b69, rv a1, iv (4 : Int32), iv (2 : Int32), iv x2] [(.int kk2), (.ref b69), (.int kk2), (.ref b69), (.ref b60)])) rfl rfl (hb hby d3_114)) ?_
  refine own_step (B := T111.setTop (mkF m 116 #[rv a1, rv a2, rv a3, rv b60, rv b69, rv a1, iv (4 : Int32), iv (2 : Int32), iv x2] [(.int ((own_inc (own_inc (own_s4 kk0 kk1 kk2 kk3) kk0) kk1).getD kk2.toNatClampNeg 0)), (.int kk2), (.ref b69), (.int ((own_inc (own_inc (own_s4 kk0 kk1 kk2 kk3) kk0) kk1).getD kk2.toNatClampNeg 0)), (.ref b60)])) (fun t k => by
    jvm_step X111.here [X111.here.top, hx, (hb hby d3_115), Value.category]
    exact k) ?_
  refine own_step (fun t k => XS.iconst X111.here hx rfl (hb hby d3_116) k) ?_
  show own_G p.tables e below _ (T111.setTop (mkF m 117 #[rv a1, rv a2, rv a3, rv b60, rv b69, rv a1, iv (4 : Int32), iv (2 : Int32), iv x2] [(.int (1 : Int32)), (.int ((own_inc (own_inc (own_s4 kk0 kk1 kk2 kk3) kk0) kk1).getD kk2.toNatClampNeg 0)), (.int kk2), (.ref b69), (.int ((own_inc (own_inc (own_s4 kk0 kk1 kk2 kk3) kk0) kk1).getD kk2.toNatClampNeg 0)), (.ref b60)]))
  refine own_step (fun t k => XS.iadd X111.here hx rfl (hb hby d3_117) rfl k) ?_
  obtain ⟨T121, h121, X121, e121, W121, c121, st121⟩ := own_iastore X111 hx hZ e111 c118 (own_i3 h32 (by first | (simp only [own_inc_len, own_pre_len, own_s0_len, own_s1_len, own_s2_len, own_s3_len, own_s4_len]; done) | (simp only [own_inc_len, own_pre_len, own_s0_len, own_s1_len, own_s2_len, own_s3_len, own_s4_len]; rfl) | rfl)) (g := (mkF m 118 #[rv a1, rv a2, rv a3, rv b60, rv b69, rv a1, iv (4 : Int32), iv (2 : Int32), iv x2] [(.int (((own_inc (own_inc (own_s4 kk0 kk1 kk2 kk3) kk0) kk1).getD kk2.toNatClampNeg 0) + (1 : Int32))), (.int kk2), (.ref b69), (.int ((own_inc (own_inc (own_s4 kk0 kk1 kk2 kk3) kk0) kk1).getD kk2.toNatClampNeg 0)), (.ref b60)])) rfl rfl (hb hby d3_118)
  have N121 := Fr.snoc X121 N111 ge69
  have c122 : own_Ari Z h121 b69 .int ((own_inc (own_inc (own_s4 kk0 kk1 kk2 kk3) kk0) kk1).set kk2.toNatClampNeg (((own_inc (own_inc (own_s4 kk0 kk1 kk2 kk3) kk0) kk1).getD kk2.toNatClampNeg 0) + (1 : Int32))) := c121
  have c123 : own_Ari Z h121 a1 .int [x0, x1, x2, x3] := c113.other W121 ne70
  have c124 : own_Ari Z h121 a2 .int [kv0, kv1, kv2, kv3] := c114.other W121 ne71
  have c125 : own_Ari Z h121 a3 .int (own_s4 kk0 kk1 kk2 kk3) := c115.other W121 ne72
  have c126 : Exa Z h121 a3 "[I" := c116.wr W121
  have c127 : own_Ari Z h121 b60 .int (([(0 : Int32), (0 : Int32), (0 : Int32), (0 : Int32)].set ((own_s4 kk0 kk1 kk2 kk3).getD kk0.toNatClampNeg 0).toNatClampNeg x0).set ((own_inc (own_s4 kk0 kk1 kk2 kk3) kk0).getD kk1.toNatClampNeg 0).toNatClampNeg x1) := c112.other W121 ne73
  have c129 : Exa Z h121 b69 "[I" := c119.wr W121
  have K121 : Keep h0 h121 [a3] := K111.wr W121 (Or.inr sz69)
  refine own_step st121 ?_
  have c130 : own_Ari Z h121 b69 .int (own_inc (own_inc (own_inc (own_s4 kk0 kk1 kk2 kk3) kk0) kk1) kk2) := c122
  refine own_step (fun t k => XS.iload X121.here hx rfl (hb hby d3_119) rfl k) ?_
  obtain ⟨T131, h131, X131, e131, W131, c131, st131⟩ := own_iastore X121 hx hZ e121 c127 (own_setL (by simp only [List.length_set]; rfl) (own_pos4_2 h30 h31 h32 h33)) (g := (mkF m 121 #[rv a1, rv a2, rv a3, rv b60, rv b69, rv a1, iv (4 : Int32), iv (2 : Int32), iv x2] [(.int x2), (.int ((own_inc (own_inc (own_s4 kk0 kk1 kk2 kk3) kk0) kk1).getD kk2.toNatClampNeg 0)), (.ref b60)])) rfl rfl (hb hby d3_121)
  have N131 := Fr.snoc X131 N121 ge60
  have c132 : own_Ari Z h131 b60 .int ((([(0 : Int32), (0 : Int32), (0 : Int32), (0 : Int32)].set ((own_s4 kk0 kk1 kk2 kk3).getD kk0.toNatClampNeg 0).toNatClampNeg x0).set ((own_inc (own_s4 kk0 kk1 kk2 kk3) kk0).getD kk1.toNatClampNeg 0).toNatClampNeg x1).set ((own_inc (own_inc (own_s4 kk0 kk1 kk2 kk3) kk0) kk1).getD kk2.toNatClampNeg 0).toNatClampNeg x2) := c131
  have c133 : own_Ari Z h131 a1 .int [x0, x1, x2, x3] := c123.other W131 ne61
  have c134 : own_Ari Z h131 a2 .int [kv0, kv1, kv2, kv3] := c124.other W131 ne62
  have c135 : own_Ari Z h131 a3 .int (own_s4 kk0 kk1 kk2 kk3) := c125.other W131 ne63
  have c136 : Exa Z h131 a3 "[I" := c126.wr W131
  have c138 : own_Ari Z h131 b69 .int (own_inc (own_inc (own_inc (own_s4 kk0 kk1 kk2 kk3) kk0) kk1) kk2) := c130.other W131 (Ne.symm ne73)
  have c139 : Exa Z h131 b69 "[I" := c129.wr W131
  have K131 : Keep h0 h131 [a3] := K121.wr W131 (Or.inr sz60)
  refine own_step st131 ?_
  clear K111 K121 N111 N121 W121 W131 X111 X121 c112 c113 c114 c115 c116 c118 c119 c121 c122 c123 c124 c125 c126 c127 c129 c130 c131 e111 e121 hk120 st121 st131
  show own_G p.tables e below _ (T131.setTop (mkF m 122 #[rv a1, rv a2, rv a3, rv b60, rv b69, rv a1, iv (4 : Int32), iv (2 : Int32), iv x2] []))
  refine own_step (fun t k => XS.iinc X131.here hx rfl (hb hby d3_122) rfl (l' := #[rv a1, rv a2, rv a3, rv b60, rv b69, rv a1, iv (4 : Int32), iv (3 : Int32), iv x2]) rfl k) ?_
  refine own_step (fun t k => XS.goto X131.here hx rfl (pc0 := 125) (pc' := 92) rfl (hb hby d3_125) (by decide) (by decide) k) ?_
  refine own_step (fun t k => XS.iload X131.here hx rfl (hb hby d3_92) rfl k) ?_
  refine own_step (fun t k => XS.iload X131.here hx rfl (hb hby d3_94) rfl k) ?_
  show own_G p.tables e below _ (T131.setTop (mkF m 96 #[rv a1, rv a2, rv a3, rv b60, rv b69, rv a1, iv (4 : Int32), iv (3 : Int32), iv x2] [(.int (4 : Int32)), (.int (3 : Int32))]))
  have hk140 : (3 : Int32) < (4 : Int32) := (by decide)
  refine own_step (fun t k => XS.icmpNo X131.here hx rfl (hb hby d3_96) rfl ((tlt hk140).2.1) k) ?_
  show own_G p.tables e below _ (T131.setTop (mkF m 99 #[rv a1, rv a2, rv a3, rv b60, rv b69, rv a1, iv (4 : Int32), iv (3 : Int32), iv x2] []))
  refine own_step (fun t k => XS.aload X131.here hx rfl (hb hby d3_99) rfl rfl k) ?_
  refine own_step (fun t k => XS.iload X131.here hx rfl (hb hby d3_101) rfl k) ?_
  refine own_step (own_iaload X131 hx hZ e131 c133 (own_inb (by decide) (Nat.le_of_ble_eq_true rfl)) (g := (mkF m 103 #[rv a1, rv a2, rv a3, rv b60, rv b69, rv a1, iv (4 : Int32), iv (3 : Int32), iv x2] [(.int (3 : Int32)), (.ref a1)])) rfl rfl (hb hby d3_103)) ?_
  refine own_step (fun t k => XS.istore X131.here hx rfl (hb hby d3_104) rfl (l' := #[rv a1, rv a2, rv a3, rv b60, rv b69, rv a1, iv (4 : Int32), iv (3 : Int32), iv x3]) rfl k) ?_
  show own_G p.tables e below _ (T131.setTop (mkF m 106 #[rv a1, rv a2, rv a3, rv b60, rv b69, rv a1, iv (4 : Int32), iv (3 : Int32), iv x3] []))
  refine own_step (fun t k => XS.aloadN X131.here hx rfl (hb hby d3_106) rfl rfl k) ?_
  refine own_step (fun t k => XS.aload X131.here hx rfl (hb hby d3_107) rfl rfl k) ?_
  refine own_step (fun t k => XS.aloadN X131.here hx rfl (hb hby d3_109) rfl rfl k) ?_
  refine own_step (fun t k => XS.iload X131.here hx rfl (hb hby d3_110) rfl k) ?_
  show own_G p.tables e below _ (T131.setTop (mkF m 112 #[rv a1, rv a2, rv a3, rv b60, rv b69, rv a1, iv (4 : Int32), iv (3 : Int32), iv x3] [(.int x3), (.ref a2), (.ref b69), (.ref b60)]))
  refine own_step (own_iaload X131 hx hZ e131 c134 (own_i4 hx3 rfl) (g := (mkF m 112 #[rv a1, rv a2, rv a3, rv b60, rv b69, rv a1, iv (4 : Int32), iv (3 : Int32), iv x3] [(.int x3), (.ref a2), (.ref b69), (.ref b60)])) rfl rfl (hb hby d3_112)) ?_
  show own_G p.tables e below _ (T131.setTop (mkF m 113 #[rv a1, rv a2, rv a3, rv b60, rv b69, rv a1, iv (4 : Int32), iv (3 : Int32), iv x3] [(.int ([kv0, kv1, kv2, kv3].getD x3.toNatClampNeg 0)), (.ref b69), (.ref b60)]))
  rw [hky3]
  show own_G p.tables e below _ (T131.setTop (mkF m 113 #[rv a1, rv a2, rv a3, rv b60, rv b69, rv a1, iv (4 : Int32), iv (3 : Int32), iv x3] [(.int kk3), (.ref b69), (.ref b60)]))
  refine own_step (B := T131.setTop (mkF m 114 #[rv a1, rv a2, rv a3, rv b60, rv b69, rv a1, iv (4 : Int32), iv (3 : Int32), iv x3] [(.int kk3), (.ref b69), (.int kk3), (.ref b69), (.ref b60)])) (fun t k => by
    jvm_step X131.here [X131.here.top, hx, (hb hby d3_113), Value.category]
    exact k) ?_
  refine own_step (own_iaload X131 hx hZ e131 c138 (own_i3 h33 (by first | (simp only [own_inc_len, own_pre_len, own_s0_len, own_s1_len, own_s2_len, own_s3_len, own_s4_len]; done) | (simp only [own_inc_len, own_pre_len, own_s0_len, own_s1_len, own_s2_len, own_s3_len, own_s4_len]; rfl) | rfl)) (g := (mkF m 114 #[rv a1, rv a2, rv a3, rv b60, rv b69, rv a1, iv (4 : Int32), iv (3 : Int32), iv x3] [(.int kk3), (.ref b69), (.int kk3), (.ref b69), (.ref b60)])) rfl rfl (hb hby d3_114)) ?_
  refine own_step (B := T131.setTop (mkF m 116 #[rv a1, rv a2, rv a3, rv b60, rv b69, rv a1, iv (4 : Int32), iv (3 : Int32), iv x3] [(.int ((own_inc (own_inc (own_inc (own_s4 kk0 kk1 kk2 kk3) kk0) kk1) kk2).getD kk3.toNatClampNeg 0)), (.int kk3), (.ref b69), (.int ((own_inc (own_inc (own_inc (own_s4 kk0 kk1 kk2 kk3) kk0) kk1) kk2).getD kk3.toNatClampNeg 0)), (.ref b60)])) (fun t k => by
    jvm_step X131.here [X131.here.top, hx, (hb hby d3_115), Value.category]
    exact k) ?_
  refine own_step (fun t k => XS.iconst X131.here hx rfl (hb hby d3_116) k) ?_
  show own_G p.tables e below _ (T131.setTop (mkF m 117 #[rv a1, rv a2, rv a3, rv b60, rv b69, rv a1, iv (4 : Int32), iv (3 : Int32), iv x3] [(.int (1 : Int32)), (.int ((own_inc (own_inc (own_inc (own_s4 kk0 kk1 kk2 kk3) kk0) kk1) kk2).getD kk3.toNatClampNeg 0)), (.int kk3), (.ref b69), (.int ((own_inc (own_inc (own_inc (own_s4 kk0 kk1 kk2 kk3) kk0) kk1) kk2).getD kk3.toNatClampNeg 0)), (.ref b60)]))
  refine own_step (fun t k => XS.iadd X131.here hx rfl (hb hby d3_117) rfl k) ?_
  obtain ⟨T141, h141, X141, e141, W141, c141, st141⟩ := own_iastore X131 hx hZ e131 c138 (own_i3 h33 (by first | (simp only [own_inc_len, own_pre_len, own_s0_len, own_s1_len, own_s2_len, own_s3_len, own_s4_len]; done) | (simp only [own_inc_len, own_pre_len, own_s0_len, own_s1_len, own_s2_len, own_s3_len, own_s4_len]; rfl) | rfl)) (g := (mkF m 118 #[rv a1, rv a2, rv a3, rv b60, rv b69, rv a1, iv (4 : Int32), iv (3 : Int32), iv x3] [(.int (((own_inc (own_inc (own_inc (own_s4 kk0 kk1 kk2 kk3) kk0) kk1) kk2).getD kk3.toNatClampNeg 0) + (1 : Int32))), (.int kk3), (.ref b69), (.int ((own_inc (own_inc (own_inc (own_s4 kk0 kk1 kk2 kk3) kk0) kk1) kk2).getD kk3.toNatClampNeg 0)), (.ref b60)])) rfl rfl (hb hby d3_118)
  have N141 := Fr.snoc X141 N131 ge69
  have c142 : own_Ari Z h141 b69 .int ((own_inc (own_inc (own_inc (own_s4 kk0 kk1 kk2 kk3) kk0) kk1) kk2).set kk3.toNatClampNeg (((own_inc (own_inc (own_inc (own_s4 kk0 kk1 kk2 kk3) kk0) kk1) kk2).getD kk3.toNatClampNeg 0) + (1 : Int32))) := c141
  have c143 : own_Ari Z h141 a1 .int [x0, x1, x2, x3] := c133.other W141 ne70
  have c144 : own_Ari Z h141 a2 .int [kv0, kv1, kv2, kv3] := c134.other W141 ne71
  have c145 : own_Ari Z h141 a3 .int (own_s4 kk0 kk1 kk2 kk3) := c135.other W141 ne72
  have c146 : Exa Z h141 a3 "[I" := c136.wr W141
  have c147 : own_Ari Z h141 b60 .int ((([(0 : Int32), (0 : Int32), (0 : Int32), (0 : Int32)].set ((own_s4 kk0 kk1 kk2 kk3).getD kk0.toNatClampNeg 0).toNatClampNeg x0).set ((own_inc (own_s4 kk0 kk1 kk2 kk3) kk0).getD kk1.toNatClampNeg 0).toNatClampNeg x1).set ((own_inc (own_inc (own_s4 kk0 kk1 kk2 kk3) kk0) kk1).getD kk2.toNatClampNeg 0).toNatClampNeg x2) := c132.other W141 ne73
  have c149 : Exa Z h141 b69 "[I" := c139.wr W141
  have K141 : Keep h0 h141 [a3] := K131.wr W141 (Or.inr sz69)
  refine own_step st141 ?_
  have c150 : own_Ari Z h141 b69 .int (own_inc (own_inc (own_inc (own_inc (own_s4 kk0 kk1 kk2 kk3) kk0) kk1) kk2) kk3) := c142
  refine own_step (fun t k => XS.iload X141.here hx rfl (hb hby d3_119) rfl k) ?_
  obtain ⟨T151, h151, X151, e151, W151, c151, st151⟩ := own_iastore X141 hx hZ e141 c147 (own_setL (by simp only [List.length_set]; rfl) (own_pos4_3 h30 h31 h32 h33)) (g := (mkF m 121 #[rv a1, rv a2, rv a3, rv b60, rv b69, rv a1, iv (4 : Int32), iv (3 : Int32), iv x3] [(.int x3), (.int ((own_inc (own_inc (own_inc (own_s4 kk0 kk1 kk2 kk3) kk0) kk1) kk2).getD kk3.toNatClampNeg 0)), (.ref b60)])) rfl rfl (hb hby d3_121)
  have N151 := Fr.snoc X151 N141 ge60
  have c152 : own_Ari Z h151 b60 .int (((([(0 : Int32), (0 : Int32), (0 : Int32), (0 : Int32)].set ((own_s4 kk0 kk1 kk2 kk3).getD kk0.toNatClampNeg 0).toNatClampNeg x0).set ((own_inc (own_s4 kk0 kk1 kk2 kk3) kk0).getD kk1.toNatClampNeg 0).toNatClampNeg x1).set ((own_inc (own_inc (own_s4 kk0 kk1 kk2 kk3) kk0) kk1).getD kk2.toNatClampNeg 0).toNatClampNeg x2).set ((own_inc (own_inc (own_inc (own_s4 kk0 kk1 kk2 kk3) kk0) kk1) kk2).getD kk3.toNatClampNeg 0).toNatClampNeg x3) := c151
  have c153 : own_Ari Z h151 a1 .int [x0, x1, x2, x3] := c143.other W151 ne61
  have c154 : own_Ari Z h151 a2 .int [kv0, kv1, kv2, kv3] := c144.other W151 ne62
  have c155 : own_Ari Z h151 a3 .int (own_s4 kk0 kk1 kk2 kk3) := c145.other W151 ne63
  have c156 : Exa Z h151 a3 "[I" := c146.wr W151
  have c158 : own_Ari Z h151 b69 .int (own_inc (own_inc (own_inc (own_inc (own_s4 kk0 kk1 kk2 kk3) kk0) kk1) kk2) kk3) := c150.other W151 (Ne.symm ne73)
  have c159 : Exa Z h151 b69 "[I" := c149.wr W151
  have K151 : Keep h0 h151 [a3] := K141.wr W151 (Or.inr sz60)
  refine own_step st151 ?_
  clear K131 K141 N131 N141 W141 W151 X131 X141 c132 c133 c134 c135 c136 c138 c139 c141 c142 c143 c144 c145 c146 c147 c149 c150 c151 e131 e141 hk140 st141 st151
  show own_G p.tables e below _ (T151.setTop (mkF m 122 #[rv a1, rv a2, rv a3, rv b60, rv b69, rv a1, iv (4 : Int32), iv (3 : Int32), iv x3] []))
  refine own_step (fun t k => XS.iinc X151.here hx rfl (hb hby d3_122) rfl (l' := #[rv a1, rv a2, rv a3, rv b60, rv b69, rv a1, iv (4 : Int32), iv (4 : Int32), iv x3]) rfl k) ?_
  refine own_step (fun t k => XS.goto X151.here hx rfl (pc0 := 125) (pc' := 92) rfl (hb hby d3_125) (by decide) (by decide) k) ?_
  refine own_step (fun t k => XS.iload X151.here hx rfl (hb hby d3_92) rfl k) ?_
  refine own_step (fun t k => XS.iload X151.here hx rfl (hb hby d3_94) rfl k) ?_
  show own_G p.tables e below _ (T151.setTop (mkF m 96 #[rv a1, rv a2, rv a3, rv b60, rv b69, rv a1, iv (4 : Int32), iv (4 : Int32), iv x3] [(.int (4 : Int32)), (.int (4 : Int32))]))
  have hk160 : ¬ ((4 : Int32) < (4 : Int32)) := (by decide)
  refine own_step (fun t k => XS.icmpYes X151.here hx rfl (pc0 := 96) (pc' := 128) rfl (hb hby d3_96) rfl ((flt hk160).2.1) (by decide) (by decide) k) ?_
  show own_G p.tables e below _ (T151.setTop (mkF m 128 #[rv a1, rv a2, rv a3, rv b60, rv b69, rv a1, iv (4 : Int32), iv (4 : Int32), iv x3] []))
  refine own_step (fun t k => XS.aloadN X151.here hx rfl (hb hby d3_128) rfl rfl k) ?_
  obtain ⟨fs, hr, hrun, hended, hW, hsame⟩ := X151.leave (v := some (.ref b60)) (fun h => by rw [Bd.returns] at h; cases h)
  refine own_done (own_retA X151 hx Bd.returns (by decide) rfl (hb hby d3_129) hr) hrun hended ⟨_, _, rfl, ?_, ⟨_, rfl⟩, hW, hsame.mono (by decide) (by decide)⟩
  show Q3_n4 Z a1 a2 a3 x0 x1 x2 x3 kv0 kv1 kv2 kv3 kk0 kk1 kk2 kk3 h0 n0 _ T151.heap _
  rw [e151]
  exact ⟨b60, rfl, N151, K151, c155, c152, sz60⟩
set_option maxHeartbeats 8000000 in
theorem own_a0 {kk0 kk1 kk2 kk3 ct0 ct1 : Int32}  (hc0 : ct0 = ((((own_f2 (0 : Int32)) + (own_f2 (0 : Int32))) + (own_f2 (0 : Int32))) + (own_f2 (0 : Int32)))) (hc1 : ct1 = ((((own_f2 (0 : Int32)) + (own_f2 (0 : Int32))) + (own_f2 (0 : Int32))) + (own_f2 (0 : Int32)))) : ((own_s0).getD 0 0) = (0 : Int32) := by
  subst hc0 hc1
  decide +kernel
set_option maxHeartbeats 8000000 in
theorem own_b0 {kk0 kk1 kk2 kk3 ct0 ct1 : Int32}  (hc0 : ct0 = ((((own_f2 (0 : Int32)) + (own_f2 (0 : Int32))) + (own_f2 (0 : Int32))) + (own_f2 (0 : Int32)))) (hc1 : ct1 = ((((own_f2 (0 : Int32)) + (own_f2 (0 : Int32))) + (own_f2 (0 : Int32))) + (own_f2 (0 : Int32)))) : ((own_s0).getD 1 0) = ct0 := by
  subst hc0 hc1
  decide +kernel
set_option maxHeartbeats 8000000 in
theorem own_c0 {kk0 kk1 kk2 kk3 ct0 ct1 : Int32}  (hc0 : ct0 = ((((own_f2 (0 : Int32)) + (own_f2 (0 : Int32))) + (own_f2 (0 : Int32))) + (own_f2 (0 : Int32)))) (hc1 : ct1 = ((((own_f2 (0 : Int32)) + (own_f2 (0 : Int32))) + (own_f2 (0 : Int32))) + (own_f2 (0 : Int32)))) : ((own_s0).getD 2 0) = (ct0 + ct1) := by
  subst hc0 hc1
  decide +kernel
set_option maxHeartbeats 8000000 in
theorem own_d0 {kk0 kk1 kk2 kk3 ct0 ct1 : Int32}  (hc0 : ct0 = ((((own_f2 (0 : Int32)) + (own_f2 (0 : Int32))) + (own_f2 (0 : Int32))) + (own_f2 (0 : Int32)))) (hc1 : ct1 = ((((own_f2 (0 : Int32)) + (own_f2 (0 : Int32))) + (own_f2 (0 : Int32))) + (own_f2 (0 : Int32)))) : ((own_s0).getD 3 0) = (0 : Int32) := by
  subst hc0 hc1
  decide +kernel
set_option maxHeartbeats 8000000 in
theorem own_a1 {kk0 kk1 kk2 kk3 ct0 ct1 : Int32} (h0 : own_3 kk0) (hc0 : ct0 = ((((own_f2 (if kk0 = (0 : Int32) then (1 : Int32) else (0 : Int32))) + (own_f2 (0 : Int32))) + (own_f2 (0 : Int32))) + (own_f2 (0 : Int32)))) (hc1 : ct1 = ((((own_f2 (if kk0 = (1 : Int32) then (1 : Int32) else (0 : Int32))) + (own_f2 (0 : Int32))) + (own_f2 (0 : Int32))) + (own_f2 (0 : Int32)))) : ((own_s1 kk0).getD 0 0) = (0 : Int32) := by
  subst hc0 hc1
  rcases h0 with rfl | rfl | rfl
  all_goals decide +kernel
set_option maxHeartbeats 8000000 in
theorem own_b1 {kk0 kk1 kk2 kk3 ct0 ct1 : Int32} (h0 : own_3 kk0) (hc0 : ct0 = ((((own_f2 (if kk0 = (0 : Int32) then (1 : Int32) else (0 : Int32))) + (own_f2 (0 : Int32))) + (own_f2 (0 : Int32))) + (own_f2 (0 : Int32)))) (hc1 : ct1 = ((((own_f2 (if kk0 = (1 : Int32) then (1 : Int32) else (0 : Int32))) + (own_f2 (0 : Int32))) + (own_f2 (0 : Int32))) + (own_f2 (0 : Int32)))) : ((own_s1 kk0).getD 1 0) = ct0 := by
  subst hc0 hc1
  rcases h0 with rfl | rfl | rfl
  all_goals decide +kernel
set_option maxHeartbeats 8000000 in
theorem own_c1 {kk0 kk1 kk2 kk3 ct0 ct1 : Int32} (h0 : own_3 kk0) (hc0 : ct0 = ((((own_f2 (if kk0 = (0 : Int32) then (1 : Int32) else (0 : Int32))) + (own_f2 (0 : Int32))) + (own_f2 (0 : Int32))) + (own_f2 (0 : Int32)))) (hc1 : ct1 = ((((own_f2 (if kk0 = (1 : Int32) then (1 : Int32) else (0 : Int32))) + (own_f2 (0 : Int32))) + (own_f2 (0 : Int32))) + (own_f2 (0 : Int32)))) : ((own_s1 kk0).getD 2 0) = (ct0 + ct1) := by
  subst hc0 hc1
  rcases h0 with rfl | rfl | rfl
  all_goals decide +kernel
set_option maxHeartbeats 8000000 in
theorem own_d1 {kk0 kk1 kk2 kk3 ct0 ct1 : Int32} (h0 : own_3 kk0) (hc0 : ct0 = ((((own_f2 (if kk0 = (0 : Int32) then (1 : Int32) else (0 : Int32))) + (own_f2 (0 : Int32))) + (own_f2 (0 : Int32))) + (own_f2 (0 : Int32)))) (hc1 : ct1 = ((((own_f2 (if kk0 = (1 : Int32) then (1 : Int32) else (0 : Int32))) + (own_f2 (0 : Int32))) + (own_f2 (0 : Int32))) + (own_f2 (0 : Int32)))) : ((own_s1 kk0).getD 3 0) = (1 : Int32) := by
  subst hc0 hc1
  rcases h0 with rfl | rfl | rfl
  all_goals decide +kernel
set_option maxHeartbeats 8000000 in
theorem own_pb1_0 {kk0 kk1 kk2 kk3 ct0 ct1 pp : Int32} (h0 : own_3 kk0) (hc0 : ct0 = ((((own_f2 (if kk0 = (0 : Int32) then (1 : Int32) else (0 : Int32))) + (own_f2 (0 : Int32))) + (own_f2 (0 : Int32))) + (own_f2 (0 : Int32)))) (hc1 : ct1 = ((((own_f2 (if kk0 = (1 : Int32) then (1 : Int32) else (0 : Int32))) + (own_f2 (0 : Int32))) + (own_f2 (0 : Int32))) + (own_f2 (0 : Int32)))) (hp : pp = (own_f4 kk0 ct0 ct1 (1 : Int32))) : own_Inb pp 1 := by
  subst hc0 hc1
  subst hp
  rcases h0 with rfl | rfl | rfl
  all_goals exact own_inb (by decide +kernel) (by decide +kernel)
set_option maxHeartbeats 8000000 in
theorem own_g1_0 {kk0 kk1 kk2 kk3 x0 x1 x2 x3 ct0 ct1 pp : Int32} (h0 : own_3 kk0) (hc0 : ct0 = ((((own_f2 (if kk0 = (0 : Int32) then (1 : Int32) else (0 : Int32))) + (own_f2 (0 : Int32))) + (own_f2 (0 : Int32))) + (own_f2 (0 : Int32)))) (hc1 : ct1 = ((((own_f2 (if kk0 = (1 : Int32) then (1 : Int32) else (0 : Int32))) + (own_f2 (0 : Int32))) + (own_f2 (0 : Int32))) + (own_f2 (0 : Int32)))) (hp : pp = (own_f4 kk0 ct0 ct1 (1 : Int32))) : (([(0 : Int32)].set ((own_s1 kk0).getD kk0.toNatClampNeg 0).toNatClampNeg x0).getD pp.toNatClampNeg 0) = x0 := by
  subst hc0 hc1
  subst hp
  rcases h0 with rfl | rfl | rfl
  all_goals rfl
set_option maxHeartbeats 8000000 in
theorem own_a2 {kk0 kk1 kk2 kk3 ct0 ct1 : Int32} (h0 : own_3 kk0) (h1 : own_3 kk1) (hc0 : ct0 = ((((own_f2 (if kk0 = (0 : Int32) then (1 : Int32) else (0 : Int32))) + (own_f2 (if kk1 = (0 : Int32) then (1 : Int32) else (0 : Int32)))) + (own_f2 (0 : Int32))) + (own_f2 (0 : Int32)))) (hc1 : ct1 = ((((own_f2 (if kk0 = (1 : Int32) then (1 : Int32) else (0 : Int32))) + (own_f2 (if kk1 = (1 : Int32) then (1 : Int32) else (0 : Int32)))) + (own_f2 (0 : Int32))) + (own_f2 (0 : Int32)))) : ((own_s2 kk0 kk1).getD 0 0) = (0 : Int32) := by
  subst hc0 hc1
  rcases h0 with rfl | rfl | rfl
  all_goals rcases h1 with rfl | rfl | rfl
  all_goals decide +kernel
set_option maxHeartbeats 8000000 in
theorem own_b2 {kk0 kk1 kk2 kk3 ct0 ct1 : Int32} (h0 : own_3 kk0) (h1 : own_3 kk1) (hc0 : ct0 = ((((own_f2 (if kk0 = (0 : Int32) then (1 : Int32) else (0 : Int32))) + (own_f2 (if kk1 = (0 : Int32) then (1 : Int32) else (0 : Int32)))) + (own_f2 (0 : Int32))) + (own_f2 (0 : Int32)))) (hc1 : ct1 = ((((own_f2 (if kk0 = (1 : Int32) then (1 : Int32) else (0 : Int32))) + (own_f2 (if kk1 = (1 : Int32) then (1 : Int32) else (0 : Int32)))) + (own_f2 (0 : Int32))) + (own_f2 (0 : Int32)))) : ((own_s2 kk0 kk1).getD 1 0) = ct0 := by
  subst hc0 hc1
  rcases h0 with rfl | rfl | rfl
  all_goals rcases h1 with rfl | rfl | rfl
  all_goals decide +kernel
set_option maxHeartbeats 8000000 in
theorem own_c2 {kk0 kk1 kk2 kk3 ct0 ct1 : Int32} (h0 : own_3 kk0) (h1 : own_3 kk1) (hc0 : ct0 = ((((own_f2 (if kk0 = (0 : Int32) then (1 : Int32) else (0 : Int32))) + (own_f2 (if kk1 = (0 : Int32) then (1 : Int32) else (0 : Int32)))) + (own_f2 (0 : Int32))) + (own_f2 (0 : Int32)))) (hc1 : ct1 = ((((own_f2 (if kk0 = (1 : Int32) then (1 : Int32) else (0 : Int32))) + (own_f2 (if kk1 = (1 : Int32) then (1 : Int32) else (0 : Int32)))) + (own_f2 (0 : Int32))) + (own_f2 (0 : Int32)))) : ((own_s2 kk0 kk1).getD 2 0) = (ct0 + ct1) := by
  subst hc0 hc1
  rcases h0 with rfl | rfl | rfl
  all_goals rcases h1 with rfl | rfl | rfl
  all_goals decide +kernel
set_option maxHeartbeats 8000000 in
theorem own_d2 {kk0 kk1 kk2 kk3 ct0 ct1 : Int32} (h0 : own_3 kk0) (h1 : own_3 kk1) (hc0 : ct0 = ((((own_f2 (if kk0 = (0 : Int32) then (1 : Int32) else (0 : Int32))) + (own_f2 (if kk1 = (0 : Int32) then (1 : Int32) else (0 : Int32)))) + (own_f2 (0 : Int32))) + (own_f2 (0 : Int32)))) (hc1 : ct1 = ((((own_f2 (if kk0 = (1 : Int32) then (1 : Int32) else (0 : Int32))) + (own_f2 (if kk1 = (1 : Int32) then (1 : Int32) else (0 : Int32)))) + (own_f2 (0 : Int32))) + (own_f2 (0 : Int32)))) : ((own_s2 kk0 kk1).getD 3 0) = (2 : Int32) := by
  subst hc0 hc1
  rcases h0 with rfl | rfl | rfl
  all_goals rcases h1 with rfl | rfl | rfl
  all_goals decide +kernel
set_option maxHeartbeats 8000000 in
theorem own_pb2_0 {kk0 kk1 kk2 kk3 ct0 ct1 pp : Int32} (h0 : own_3 kk0) (h1 : own_3 kk1) (hc0 : ct0 = ((((own_f2 (if kk0 = (0 : Int32) then (1 : Int32) else (0 : Int32))) + (own_f2 (if kk1 = (0 : Int32) then (1 : Int32) else (0 : Int32)))) + (own_f2 (0 : Int32))) + (own_f2 (0 : Int32)))) (hc1 : ct1 = ((((own_f2 (if kk0 = (1 : Int32) then (1 : Int32) else (0 : Int32))) + (own_f2 (if kk1 = (1 : Int32) then (1 : Int32) else (0 : Int32)))) + (own_f2 (0 : Int32))) + (own_f2 (0 : Int32)))) (hp : pp = (own_f4 kk0 ct0 ct1 (2 : Int32))) : own_Inb pp 2 := by
  subst hc0 hc1
  subst hp
  rcases h0 with rfl | rfl | rfl
  all_goals rcases h1 with rfl | rfl | rfl
  all_goals exact own_inb (by decide +kernel) (by decide +kernel)
set_option maxHeartbeats 8000000 in
theorem own_g2_0 {kk0 kk1 kk2 kk3 x0 x1 x2 x3 ct0 ct1 pp : Int32} (h0 : own_3 kk0) (h1 : own_3 kk1) (hc0 : ct0 = ((((own_f2 (if kk0 = (0 : Int32) then (1 : Int32) else (0 : Int32))) + (own_f2 (if kk1 = (0 : Int32) then (1 : Int32) else (0 : Int32)))) + (own_f2 (0 : Int32))) + (own_f2 (0 : Int32)))) (hc1 : ct1 = ((((own_f2 (if kk0 = (1 : Int32) then (1 : Int32) else (0 : Int32))) + (own_f2 (if kk1 = (1 : Int32) then (1 : Int32) else (0 : Int32)))) + (own_f2 (0 : Int32))) + (own_f2 (0 : Int32)))) (hp : pp = (own_f4 kk0 ct0 ct1 (2 : Int32))) : ((([(0 : Int32), (0 : Int32)].set ((own_s2 kk0 kk1).getD kk0.toNatClampNeg 0).toNatClampNeg x0).set ((own_inc (own_s2 kk0 kk1) kk0).getD kk1.toNatClampNeg 0).toNatClampNeg x1).getD pp.toNatClampNeg 0) = x0 := by
  subst hc0 hc1
  subst hp
  rcases h0 with rfl | rfl | rfl
  all_goals rcases h1 with rfl | rfl | rfl
  all_goals rfl
set_option maxHeartbeats 8000000 in
theorem own_pb2_1 {kk0 kk1 kk2 kk3 ct0 ct1 pp : Int32} (h0 : own_3 kk0) (h1 : own_3 kk1) (hc0 : ct0 = ((((own_f2 (if kk0 = (0 : Int32) then (1 : Int32) else (0 : Int32))) + (own_f2 (if kk1 = (0 : Int32) then (1 : Int32) else (0 : Int32)))) + (own_f2 (0 : Int32))) + (own_f2 (0 : Int32)))) (hc1 : ct1 = ((((own_f2 (if kk0 = (1 : Int32) then (1 : Int32) else (0 : Int32))) + (own_f2 (if kk1 = (1 : Int32) then (1 : Int32) else (0 : Int32)))) + (own_f2 (0 : Int32))) + (own_f2 (0 : Int32)))) (hp : pp = ((own_f4 kk1 ct0 ct1 (2 : Int32)) + (own_f2 (if kk0 = kk1 then (1 : Int32) else (0 : Int32))))) : own_Inb pp 2 := by
  subst hc0 hc1
  subst hp
  rcases h0 with rfl | rfl | rfl
  all_goals rcases h1 with rfl | rfl | rfl
  all_goals exact own_inb (by decide +kernel) (by decide +kernel)
set_option maxHeartbeats 8000000 in
theorem own_g2_1 {kk0 kk1 kk2 kk3 x0 x1 x2 x3 ct0 ct1 pp : Int32} (h0 : own_3 kk0) (h1 : own_3 kk1) (hc0 : ct0 = ((((own_f2 (if kk0 = (0 : Int32) then (1 : Int32) else (0 : Int32))) + (own_f2 (if kk1 = (0 : Int32) then (1 : Int32) else (0 : Int32)))) + (own_f2 (0 : Int32))) + (own_f2 (0 : Int32)))) (hc1 : ct1 = ((((own_f2 (if kk0 = (1 : Int32) then (1 : Int32) else (0 : Int32))) + (own_f2 (if kk1 = (1 : Int32) then (1 : Int32) else (0 : Int32)))) + (own_f2 (0 : Int32))) + (own_f2 (0 : Int32)))) (hp : pp = ((own_f4 kk1 ct0 ct1 (2 : Int32)) + (own_f2 (if kk0 = kk1 then (1 : Int32) else (0 : Int32))))) : ((([(0 : Int32), (0 : Int32)].set ((own_s2 kk0 kk1).getD kk0.toNatClampNeg 0).toNatClampNeg x0).set ((own_inc (own_s2 kk0 kk1) kk0).getD kk1.toNatClampNeg 0).toNatClampNeg x1).getD pp.toNatClampNeg 0) = x1 := by
  subst hc0 hc1
  subst hp
  rcases h0 with rfl | rfl | rfl
  all_goals rcases h1 with rfl | rfl | rfl
  all_goals rfl
set_option maxHeartbeats 8000000 in
theorem own_a3 {kk0 kk1 kk2 kk3 ct0 ct1 : Int32} (h0 : own_3 kk0) (h1 : own_3 kk1) (h2 : own_3 kk2) (hc0 : ct0 = ((((own_f2 (if kk0 = (0 : Int32) then (1 : Int32) else (0 : Int32))) + (own_f2 (if kk1 = (0 : Int32) then (1 : Int32) else (0 : Int32)))) + (own_f2 (if kk2 = (0 : Int32) then (1 : Int32) else (0 : Int32)))) + (own_f2 (0 : Int32)))) (hc1 : ct1 = ((((own_f2 (if kk0 = (1 : Int32) then (1 : Int32) else (0 : Int32))) + (own_f2 (if kk1 = (1 : Int32) then (1 : Int32) else (0 : Int32)))) + (own_f2 (if kk2 = (1 : Int32) then (1 : Int32) else (0 : Int32)))) + (own_f2 (0 : Int32)))) : ((own_s3 kk0 kk1 kk2).getD 0 0) = (0 : Int32) := by
  subst hc0 hc1
  rcases h0 with rfl | rfl | rfl
  all_goals rcases h1 with rfl | rfl | rfl
  all_goals rcases h2 with rfl | rfl | rfl
  all_goals decide +kernel
set_option maxHeartbeats 8000000 in
theorem own_b3 {kk0 kk1 kk2 kk3 ct0 ct1 : Int32} (h0 : own_3 kk0) (h1 : own_3 kk1) (h2 : own_3 kk2) (hc0 : ct0 = ((((own_f2 (if kk0 = (0 : Int32) then (1 : Int32) else (0 : Int32))) + (own_f2 (if kk1 = (0 : Int32) then (1 : Int32) else (0 : Int32)))) + (own_f2 (if kk2 = (0 : Int32) then (1 : Int32) else (0 : Int32)))) + (own_f2 (0 : Int32)))) (hc1 : ct1 = ((((own_f2 (if kk0 = (1 : Int32) then (1 : Int32) else (0 : Int32))) + (own_f2 (if kk1 = (1 : Int32) then (1 : Int32) else (0 : Int32)))) + (own_f2 (if kk2 = (1 : Int32) then (1 : Int32) else (0 : Int32)))) + (own_f2 (0 : Int32)))) : ((own_s3 kk0 kk1 kk2).getD 1 0) = ct0 := by
  subst hc0 hc1
  rcases h0 with rfl | rfl | rfl
  all_goals rcases h1 with rfl | rfl | rfl
  all_goals rcases h2 with rfl | rfl | rfl
  all_goals decide +kernel
set_option maxHeartbeats 8000000 in
theorem own_c3 {kk0 kk1 kk2 kk3 ct0 ct1 : Int32} (h0 : own_3 kk0) (h1 : own_3 kk1) (h2 : own_3 kk2) (hc0 : ct0 = ((((own_f2 (if kk0 = (0 : Int32) then (1 : Int32) else (0 : Int32))) + (own_f2 (if kk1 = (0 : Int32) then (1 : Int32) else (0 : Int32)))) + (own_f2 (if kk2 = (0 : Int32) then (1 : Int32) else (0 : Int32)))) + (own_f2 (0 : Int32)))) (hc1 : ct1 = ((((own_f2 (if kk0 = (1 : Int32) then (1 : Int32) else (0 : Int32))) + (own_f2 (if kk1 = (1 : Int32) then (1 : Int32) else (0 : Int32)))) + (own_f2 (if kk2 = (1 : Int32) then (1 : Int32) else (0 : Int32)))) + (own_f2 (0 : Int32)))) : ((own_s3 kk0 kk1 kk2).getD 2 0) = (ct0 + ct1) := by
  subst hc0 hc1
  rcases h0 with rfl | rfl | rfl
  all_goals rcases h1 with rfl | rfl | rfl
  all_goals rcases h2 with rfl | rfl | rfl
  all_goals decide +kernel
set_option maxHeartbeats 8000000 in
theorem own_d3 {kk0 kk1 kk2 kk3 ct0 ct1 : Int32} (h0 : own_3 kk0) (h1 : own_3 kk1) (h2 : own_3 kk2) (hc0 : ct0 = ((((own_f2 (if kk0 = (0 : Int32) then (1 : Int32) else (0 : Int32))) + (own_f2 (if kk1 = (0 : Int32) then (1 : Int32) else (0 : Int32)))) + (own_f2 (if kk2 = (0 : Int32) then (1 : Int32) else (0 : Int32)))) + (own_f2 (0 : Int32)))) (hc1 : ct1 = ((((own_f2 (if kk0 = (1 : Int32) then (1 : Int32) else (0 : Int32))) + (own_f2 (if kk1 = (1 : Int32) then (1 : Int32) else (0 : Int32)))) + (own_f2 (if kk2 = (1 : Int32) then (1 : Int32) else (0 : Int32)))) + (own_f2 (0 : Int32)))) : ((own_s3 kk0 kk1 kk2).getD 3 0) = (3 : Int32) := by
  subst hc0 hc1
  rcases h0 with rfl | rfl | rfl
  all_goals rcases h1 with rfl | rfl | rfl
  all_goals rcases h2 with rfl | rfl | rfl
  all_goals decide +kernel
set_option maxHeartbeats 8000000 in
theorem own_pb3_0 {kk0 kk1 kk2 kk3 ct0 ct1 pp : Int32} (h0 : own_3 kk0) (h1 : own_3 kk1) (h2 : own_3 kk2) (hc0 : ct0 = ((((own_f2 (if kk0 = (0 : Int32) then (1 : Int32) else (0 : Int32))) + (own_f2 (if kk1 = (0 : Int32) then (1 : Int32) else (0 : Int32)))) + (own_f2 (if kk2 = (0 : Int32) then (1 : Int32) else (0 : Int32)))) + (own_f2 (0 : Int32)))) (hc1 : ct1 = ((((own_f2 (if kk0 = (1 : Int32) then (1 : Int32) else (0 : Int32))) + (own_f2 (if kk1 = (1 : Int32) then (1 : Int32) else (0 : Int32)))) + (own_f2 (if kk2 = (1 : Int32) then (1 : Int32) else (0 : Int32)))) + (own_f2 (0 : Int32)))) (hp : pp = (own_f4 kk0 ct0 ct1 (3 : Int32))) : own_Inb pp 3 := by
  subst hc0 hc1
  subst hp
  rcases h0 with rfl | rfl | rfl
  all_goals rcases h1 with rfl | rfl | rfl
  all_goals rcases h2 with rfl | rfl | rfl
  all_goals exact own_inb (by decide +kernel) (by decide +kernel)
set_option maxHeartbeats 8000000 in
theorem own_g3_0 {kk0 kk1 kk2 kk3 x0 x1 x2 x3 ct0 ct1 pp : Int32} (h0 : own_3 kk0) (h1 : own_3 kk1) (h2 : own_3 kk2) (hc0 : ct0 = ((((own_f2 (if kk0 = (0 : Int32) then (1 : Int32) else (0 : Int32))) + (own_f2 (if kk1 = (0 : Int32) then (1 : Int32) else (0 : Int32)))) + (own_f2 (if kk2 = (0 : Int32) then (1 : Int32) else (0 : Int32)))) + (own_f2 (0 : Int32)))) (hc1 : ct1 = ((((own_f2 (if kk0 = (1 : Int32) then (1 : Int32) else (0 : Int32))) + (own_f2 (if kk1 = (1 : Int32) then (1 : Int32) else (0 : Int32)))) + (own_f2 (if kk2 = (1 : Int32) then (1 : Int32) else (0 : Int32)))) + (own_f2 (0 : Int32)))) (hp : pp = (own_f4 kk0 ct0 ct1 (3 : Int32))) : (((([(0 : Int32), (0 : Int32), (0 : Int32)].set ((own_s3 kk0 kk1 kk2).getD kk0.toNatClampNeg 0).toNatClampNeg x0).set ((own_inc (own_s3 kk0 kk1 kk2) kk0).getD kk1.toNatClampNeg 0).toNatClampNeg x1).set ((own_inc (own_inc (own_s3 kk0 kk1 kk2) kk0) kk1).getD kk2.toNatClampNeg 0).toNatClampNeg x2).getD pp.toNatClampNeg 0) = x0 := by
  subst hc0 hc1
  subst hp
  rcases h0 with rfl | rfl | rfl
  all_goals rcases h1 with rfl | rfl | rfl
  all_goals rcases h2 with rfl | rfl | rfl
  all_goals rfl
set_option maxHeartbeats 8000000 in
theorem own_pb3_1 {kk0 kk1 kk2 kk3 ct0 ct1 pp : Int32} (h0 : own_3 kk0) (h1 : own_3 kk1) (h2 : own_3 kk2) (hc0 : ct0 = ((((own_f2 (if kk0 = (0 : Int32) then (1 : Int32) else (0 : Int32))) + (own_f2 (if kk1 = (0 : Int32) then (1 : Int32) else (0 : Int32)))) + (own_f2 (if kk2 = (0 : Int32) then (1 : Int32) else (0 : Int32)))) + (own_f2 (0 : Int32)))) (hc1 : ct1 = ((((own_f2 (if kk0 = (1 : Int32) then (1 : Int32) else (0 : Int32))) + (own_f2 (if kk1 = (1 : Int32) then (1 : Int32) else (0 : Int32)))) + (own_f2 (if kk2 = (1 : Int32) then (1 : Int32) else (0 : Int32)))) + (own_f2 (0 : Int32)))) (hp : pp = ((own_f4 kk1 ct0 ct1 (3 : Int32)) + (own_f2 (if kk0 = kk1 then (1 : Int32) else (0 : Int32))))) : own_Inb pp 3 := by
  subst hc0 hc1
  subst hp
  rcases h0 with rfl | rfl | rfl
  all_goals rcases h1 with rfl | rfl | rfl
  all_goals rcases h2 with rfl | rfl | rfl
  all_goals exact own_inb (by decide +kernel) (by decide +kernel)
set_option maxHeartbeats 8000000 in
theorem own_g3_1 {kk0 kk1 kk2 kk3 x0 x1 x2 x3 ct0 ct1 pp : Int32} (h0 : own_3 kk0) (h1 : own_3 kk1) (h2 : own_3 kk2) (hc0 : ct0 = ((((own_f2 (if kk0 = (0 : Int32) then (1 : Int32) else (0 : Int32))) + (own_f2 (if kk1 = (0 : Int32) then (1 : Int32) else (0 : Int32)))) + (own_f2 (if kk2 = (0 : Int32) then (1 : Int32) else (0 : Int32)))) + (own_f2 (0 : Int32)))) (hc1 : ct1 = ((((own_f2 (if kk0 = (1 : Int32) then (1 : Int32) else (0 : Int32))) + (own_f2 (if kk1 = (1 : Int32) then (1 : Int32) else (0 : Int32)))) + (own_f2 (if kk2 = (1 : Int32) then (1 : Int32) else (0 : Int32)))) + (own_f2 (0 : Int32)))) (hp : pp = ((own_f4 kk1 ct0 ct1 (3 : Int32)) + (own_f2 (if kk0 = kk1 then (1 : Int32) else (0 : Int32))))) : (((([(0 : Int32), (0 : Int32), (0 : Int32)].set ((own_s3 kk0 kk1 kk2).getD kk0.toNatClampNeg 0).toNatClampNeg x0).set ((own_inc (own_s3 kk0 kk1 kk2) kk0).getD kk1.toNatClampNeg 0).toNatClampNeg x1).set ((own_inc (own_inc (own_s3 kk0 kk1 kk2) kk0) kk1).getD kk2.toNatClampNeg 0).toNatClampNeg x2).getD pp.toNatClampNeg 0) = x1 := by
  subst hc0 hc1
  subst hp
  rcases h0 with rfl | rfl | rfl
  all_goals rcases h1 with rfl | rfl | rfl
  all_goals rcases h2 with rfl | rfl | rfl
  all_goals rfl
set_option maxHeartbeats 8000000 in
theorem own_pb3_2 {kk0 kk1 kk2 kk3 ct0 ct1 pp : Int32} (h0 : own_3 kk0) (h1 : own_3 kk1) (h2 : own_3 kk2) (hc0 : ct0 = ((((own_f2 (if kk0 = (0 : Int32) then (1 : Int32) else (0 : Int32))) + (own_f2 (if kk1 = (0 : Int32) then (1 : Int32) else (0 : Int32)))) + (own_f2 (if kk2 = (0 : Int32) then (1 : Int32) else (0 : Int32)))) + (own_f2 (0 : Int32)))) (hc1 : ct1 = ((((own_f2 (if kk0 = (1 : Int32) then (1 : Int32) else (0 : Int32))) + (own_f2 (if kk1 = (1 : Int32) then (1 : Int32) else (0 : Int32)))) + (own_f2 (if kk2 = (1 : Int32) then (1 : Int32) else (0 : Int32)))) + (own_f2 (0 : Int32)))) (hp : pp = (((own_f4 kk2 ct0 ct1 (3 : Int32)) + (own_f2 (if kk0 = kk2 then (1 : Int32) else (0 : Int32)))) + (own_f2 (if kk1 = kk2 then (1 : Int32) else (0 : Int32))))) : own_Inb pp 3 := by
  subst hc0 hc1
  subst hp
  rcases h0 with rfl | rfl | rfl
  all_goals rcases h1 with rfl | rfl | rfl
  all_goals rcases h2 with rfl | rfl | rfl
  all_goals exact own_inb (by decide +kernel) (by decide +kernel)
set_option maxHeartbeats 8000000 in
theorem own_g3_2 {kk0 kk1 kk2 kk3 x0 x1 x2 x3 ct0 ct1 pp : Int32} (h0 : own_3 kk0) (h1 : own_3 kk1) (h2 : own_3 kk2) (hc0 : ct0 = ((((own_f2 (if kk0 = (0 : Int32) then (1 : Int32) else (0 : Int32))) + (own_f2 (if kk1 = (0 : Int32) then (1 : Int32) else (0 : Int32)))) + (own_f2 (if kk2 = (0 : Int32) then (1 : Int32) else (0 : Int32)))) + (own_f2 (0 : Int32)))) (hc1 : ct1 = ((((own_f2 (if kk0 = (1 : Int32) then (1 : Int32) else (0 : Int32))) + (own_f2 (if kk1 = (1 : Int32) then (1 : Int32) else (0 : Int32)))) + (own_f2 (if kk2 = (1 : Int32) then (1 : Int32) else (0 : Int32)))) + (own_f2 (0 : Int32)))) (hp : pp = (((own_f4 kk2 ct0 ct1 (3 : Int32)) + (own_f2 (if kk0 = kk2 then (1 : Int32) else (0 : Int32)))) + (own_f2 (if kk1 = kk2 then (1 : Int32) else (0 : Int32))))) : (((([(0 : Int32), (0 : Int32), (0 : Int32)].set ((own_s3 kk0 kk1 kk2).getD kk0.toNatClampNeg 0).toNatClampNeg x0).set ((own_inc (own_s3 kk0 kk1 kk2) kk0).getD kk1.toNatClampNeg 0).toNatClampNeg x1).set ((own_inc (own_inc (own_s3 kk0 kk1 kk2) kk0) kk1).getD kk2.toNatClampNeg 0).toNatClampNeg x2).getD pp.toNatClampNeg 0) = x2 := by
  subst hc0 hc1
  subst hp
  rcases h0 with rfl | rfl | rfl
  all_goals rcases h1 with rfl | rfl | rfl
  all_goals rcases h2 with rfl | rfl | rfl
  all_goals rfl
set_option maxHeartbeats 8000000 in
theorem own_a4 {kk0 kk1 kk2 kk3 ct0 ct1 : Int32} (h0 : own_3 kk0) (h1 : own_3 kk1) (h2 : own_3 kk2) (h3 : own_3 kk3) (hc0 : ct0 = ((((own_f2 (if kk0 = (0 : Int32) then (1 : Int32) else (0 : Int32))) + (own_f2 (if kk1 = (0 : Int32) then (1 : Int32) else (0 : Int32)))) + (own_f2 (if kk2 = (0 : Int32) then (1 : Int32) else (0 : Int32)))) + (own_f2 (if kk3 = (0 : Int32) then (1 : Int32) else (0 : Int32))))) (hc1 : ct1 = ((((own_f2 (if kk0 = (1 : Int32) then (1 : Int32) else (0 : Int32))) + (own_f2 (if kk1 = (1 : Int32) then (1 : Int32) else (0 : Int32)))) + (own_f2 (if kk2 = (1 : Int32) then (1 : Int32) else (0 : Int32)))) + (own_f2 (if kk3 = (1 : Int32) then (1 : Int32) else (0 : Int32))))) : ((own_s4 kk0 kk1 kk2 kk3).getD 0 0) = (0 : Int32) := by
  subst hc0 hc1
  rcases h0 with rfl | rfl | rfl
  all_goals rcases h1 with rfl | rfl | rfl
  all_goals rcases h2 with rfl | rfl | rfl
  all_goals rcases h3 with rfl | rfl | rfl
  all_goals decide +kernel
set_option maxHeartbeats 8000000 in
theorem own_b4 {kk0 kk1 kk2 kk3 ct0 ct1 : Int32} (h0 : own_3 kk0) (h1 : own_3 kk1) (h2 : own_3 kk2) (h3 : own_3 kk3) (hc0 : ct0 = ((((own_f2 (if kk0 = (0 : Int32) then (1 : Int32) else (0 : Int32))) + (own_f2 (if kk1 = (0 : Int32) then (1 : Int32) else (0 : Int32)))) + (own_f2 (if kk2 = (0 : Int32) then (1 : Int32) else (0 : Int32)))) + (own_f2 (if kk3 = (0 : Int32) then (1 : Int32) else (0 : Int32))))) (hc1 : ct1 = ((((own_f2 (if kk0 = (1 : Int32) then (1 : Int32) else (0 : Int32))) + (own_f2 (if kk1 = (1 : Int32) then (1 : Int32) else (0 : Int32)))) + (own_f2 (if kk2 = (1 : Int32) then (1 : Int32) else (0 : Int32)))) + (own_f2 (if kk3 = (1 : Int32) then (1 : Int32) else (0 : Int32))))) : ((own_s4 kk0 kk1 kk2 kk3).getD 1 0) = ct0 := by
  subst hc0 hc1
  rcases h0 with rfl | rfl | rfl
  all_goals rcases h1 with rfl | rfl | rfl
  all_goals rcases h2 with rfl | rfl | rfl
  all_goals rcases h3 with rfl | rfl | rfl
  all_goals decide +kernel
set_option maxHeartbeats 8000000 in
theorem own_c4 {kk0 kk1 kk2 kk3 ct0 ct1 : Int32} (h0 : own_3 kk0) (h1 : own_3 kk1) (h2 : own_3 kk2) (h3 : own_3 kk3) (hc0 : ct0 = ((((own_f2 (if kk0 = (0 : Int32) then (1 : Int32) else (0 : Int32))) + (own_f2 (if kk1 = (0 : Int32) then (1 : Int32) else (0 : Int32)))) + (own_f2 (if kk2 = (0 : Int32) then (1 : Int32) else (0 : Int32)))) + (own_f2 (if kk3 = (0 : Int32) then (1 : Int32) else (0 : Int32))))) (hc1 : ct1 = ((((own_f2 (if kk0 = (1 : Int32) then (1 : Int32) else (0 : Int32))) + (own_f2 (if kk1 = (1 : Int32) then (1 : Int32) else (0 : Int32)))) + (own_f2 (if kk2 = (1 : Int32) then (1 : Int32) else (0 : Int32)))) + (own_f2 (if kk3 = (1 : Int32) then (1 : Int32) else (0 : Int32))))) : ((own_s4 kk0 kk1 kk2 kk3).getD 2 0) = (ct0 + ct1) := by
  subst hc0 hc1
  rcases h0 with rfl | rfl | rfl
  all_goals rcases h1 with rfl | rfl | rfl
  all_goals rcases h2 with rfl | rfl | rfl
  all_goals rcases h3 with rfl | rfl | rfl
  all_goals decide +kernel
set_option maxHeartbeats 8000000 in
theorem own_d4 {kk0 kk1 kk2 kk3 ct0 ct1 : Int32} (h0 : own_3 kk0) (h1 : own_3 kk1) (h2 : own_3 kk2) (h3 : own_3 kk3) (hc0 : ct0 = ((((own_f2 (if kk0 = (0 : Int32) then (1 : Int32) else (0 : Int32))) + (own_f2 (if kk1 = (0 : Int32) then (1 : Int32) else (0 : Int32)))) + (own_f2 (if kk2 = (0 : Int32) then (1 : Int32) else (0 : Int32)))) + (own_f2 (if kk3 = (0 : Int32) then (1 : Int32) else (0 : Int32))))) (hc1 : ct1 = ((((own_f2 (if kk0 = (1 : Int32) then (1 : Int32) else (0 : Int32))) + (own_f2 (if kk1 = (1 : Int32) then (1 : Int32) else (0 : Int32)))) + (own_f2 (if kk2 = (1 : Int32) then (1 : Int32) else (0 : Int32)))) + (own_f2 (if kk3 = (1 : Int32) then (1 : Int32) else (0 : Int32))))) : ((own_s4 kk0 kk1 kk2 kk3).getD 3 0) = (4 : Int32) := by
  subst hc0 hc1
  rcases h0 with rfl | rfl | rfl
  all_goals rcases h1 with rfl | rfl | rfl
  all_goals rcases h2 with rfl | rfl | rfl
  all_goals rcases h3 with rfl | rfl | rfl
  all_goals decide +kernel
set_option maxHeartbeats 8000000 in
theorem own_pb4_0 {kk0 kk1 kk2 kk3 ct0 ct1 pp : Int32} (h0 : own_3 kk0) (h1 : own_3 kk1) (h2 : own_3 kk2) (h3 : own_3 kk3) (hc0 : ct0 = ((((own_f2 (if kk0 = (0 : Int32) then (1 : Int32) else (0 : Int32))) + (own_f2 (if kk1 = (0 : Int32) then (1 : Int32) else (0 : Int32)))) + (own_f2 (if kk2 = (0 : Int32) then (1 : Int32) else (0 : Int32)))) + (own_f2 (if kk3 = (0 : Int32) then (1 : Int32) else (0 : Int32))))) (hc1 : ct1 = ((((own_f2 (if kk0 = (1 : Int32) then (1 : Int32) else (0 : Int32))) + (own_f2 (if kk1 = (1 : Int32) then (1 : Int32) else (0 : Int32)))) + (own_f2 (if kk2 = (1 : Int32) then (1 : Int32) else (0 : Int32)))) + (own_f2 (if kk3 = (1 : Int32) then (1 : Int32) else (0 : Int32))))) (hp : pp = (own_f4 kk0 ct0 ct1 (4 : Int32))) : own_Inb pp 4 := by
  subst hc0 hc1
  subst hp
  rcases h0 with rfl | rfl | rfl
  all_goals rcases h1 with rfl | rfl | rfl
  all_goals rcases h2 with rfl | rfl | rfl
  all_goals rcases h3 with rfl | rfl | rfl
  all_goals exact own_inb (by decide +kernel) (by decide +kernel)
set_option maxHeartbeats 8000000 in
theorem own_g4_0 {kk0 kk1 kk2 kk3 x0 x1 x2 x3 ct0 ct1 pp : Int32} (h0 : own_3 kk0) (h1 : own_3 kk1) (h2 : own_3 kk2) (h3 : own_3 kk3) (hc0 : ct0 = ((((own_f2 (if kk0 = (0 : Int32) then (1 : Int32) else (0 : Int32))) + (own_f2 (if kk1 = (0 : Int32) then (1 : Int32) else (0 : Int32)))) + (own_f2 (if kk2 = (0 : Int32) then (1 : Int32) else (0 : Int32)))) + (own_f2 (if kk3 = (0 : Int32) then (1 : Int32) else (0 : Int32))))) (hc1 : ct1 = ((((own_f2 (if kk0 = (1 : Int32) then (1 : Int32) else (0 : Int32))) + (own_f2 (if kk1 = (1 : Int32) then (1 : Int32) else (0 : Int32)))) + (own_f2 (if kk2 = (1 : Int32) then (1 : Int32) else (0 : Int32)))) + (own_f2 (if kk3 = (1 : Int32) then (1 : Int32) else (0 : Int32))))) (hp : pp = (own_f4 kk0 ct0 ct1 (4 : Int32))) : ((((([(0 : Int32), (0 : Int32), (0 : Int32), (0 : Int32)].set ((own_s4 kk0 kk1 kk2 kk3).getD kk0.toNatClampNeg 0).toNatClampNeg x0).set ((own_inc (own_s4 kk0 kk1 kk2 kk3) kk0).getD kk1.toNatClampNeg 0).toNatClampNeg x1).set ((own_inc (own_inc (own_s4 kk0 kk1 kk2 kk3) kk0) kk1).getD kk2.toNatClampNeg 0).toNatClampNeg x2).set ((own_inc (own_inc (own_inc (own_s4 kk0 kk1 kk2 kk3) kk0) kk1) kk2).getD kk3.toNatClampNeg 0).toNatClampNeg x3).getD pp.toNatClampNeg 0) = x0 := by
  subst hc0 hc1
  subst hp
  rcases h0 with rfl | rfl | rfl
  all_goals rcases h1 with rfl | rfl | rfl
  all_goals rcases h2 with rfl | rfl | rfl
  all_goals rcases h3 with rfl | rfl | rfl
  all_goals rfl
set_option maxHeartbeats 8000000 in
theorem own_pb4_1 {kk0 kk1 kk2 kk3 ct0 ct1 pp : Int32} (h0 : own_3 kk0) (h1 : own_3 kk1) (h2 : own_3 kk2) (h3 : own_3 kk3) (hc0 : ct0 = ((((own_f2 (if kk0 = (0 : Int32) then (1 : Int32) else (0 : Int32))) + (own_f2 (if kk1 = (0 : Int32) then (1 : Int32) else (0 : Int32)))) + (own_f2 (if kk2 = (0 : Int32) then (1 : Int32) else (0 : Int32)))) + (own_f2 (if kk3 = (0 : Int32) then (1 : Int32) else (0 : Int32))))) (hc1 : ct1 = ((((own_f2 (if kk0 = (1 : Int32) then (1 : Int32) else (0 : Int32))) + (own_f2 (if kk1 = (1 : Int32) then (1 : Int32) else (0 : Int32)))) + (own_f2 (if kk2 = (1 : Int32) then (1 : Int32) else (0 : Int32)))) + (own_f2 (if kk3 = (1 : Int32) then (1 : Int32) else (0 : Int32))))) (hp : pp = ((own_f4 kk1 ct0 ct1 (4 : Int32)) + (own_f2 (if kk0 = kk1 then (1 : Int32) else (0 : Int32))))) : own_Inb pp 4 := by
  subst hc0 hc1
  subst hp
  rcases h0 with rfl | rfl | rfl
  all_goals rcases h1 with rfl | rfl | rfl
  all_goals rcases h2 with rfl | rfl | rfl
  all_goals rcases h3 with rfl | rfl | rfl
  all_goals exact own_inb (by decide +kernel) (by decide +kernel)
set_option maxHeartbeats 8000000 in
theorem own_g4_1 {kk0 kk1 kk2 kk3 x0 x1 x2 x3 ct0 ct1 pp : Int32} (h0 : own_3 kk0) (h1 : own_3 kk1) (h2 : own_3 kk2) (h3 : own_3 kk3) (hc0 : ct0 = ((((own_f2 (if kk0 = (0 : Int32) then (1 : Int32) else (0 : Int32))) + (own_f2 (if kk1 = (0 : Int32) then (1 : Int32) else (0 : Int32)))) + (own_f2 (if kk2 = (0 : Int32) then (1 : Int32) else (0 : Int32)))) + (own_f2 (if kk3 = (0 : Int32) then (1 : Int32) else (0 : Int32))))) (hc1 : ct1 = ((((own_f2 (if kk0 = (1 : Int32) then (1 : Int32) else (0 : Int32))) + (own_f2 (if kk1 = (1 : Int32) then (1 : Int32) else (0 : Int32)))) + (own_f2 (if kk2 = (1 : Int32) then (1 : Int32) else (0 : Int32)))) + (own_f2 (if kk3 = (1 : Int32) then (1 : Int32) else (0 : Int32))))) (hp : pp = ((own_f4 kk1 ct0 ct1 (4 : Int32)) + (own_f2 (if kk0 = kk1 then (1 : Int32) else (0 : Int32))))) : ((((([(0 : Int32), (0 : Int32), (0 : Int32), (0 : Int32)].set ((own_s4 kk0 kk1 kk2 kk3).getD kk0.toNatClampNeg 0).toNatClampNeg x0).set ((own_inc (own_s4 kk0 kk1 kk2 kk3) kk0).getD kk1.toNatClampNeg 0).toNatClampNeg x1).set ((own_inc (own_inc (own_s4 kk0 kk1 kk2 kk3) kk0) kk1).getD kk2.toNatClampNeg 0).toNatClampNeg x2).set ((own_inc (own_inc (own_inc (own_s4 kk0 kk1 kk2 kk3) kk0) kk1) kk2).getD kk3.toNatClampNeg 0).toNatClampNeg x3).getD pp.toNatClampNeg 0) = x1 := by
  subst hc0 hc1
  subst hp
  rcases h0 with rfl | rfl | rfl
  all_goals rcases h1 with rfl | rfl | rfl
  all_goals rcases h2 with rfl | rfl | rfl
  all_goals rcases h3 with rfl | rfl | rfl
  all_goals rfl
set_option maxHeartbeats 8000000 in
theorem own_pb4_2 {kk0 kk1 kk2 kk3 ct0 ct1 pp : Int32} (h0 : own_3 kk0) (h1 : own_3 kk1) (h2 : own_3 kk2) (h3 : own_3 kk3) (hc0 : ct0 = ((((own_f2 (if kk0 = (0 : Int32) then (1 : Int32) else (0 : Int32))) + (own_f2 (if kk1 = (0 : Int32) then (1 : Int32) else (0 : Int32)))) + (own_f2 (if kk2 = (0 : Int32) then (1 : Int32) else (0 : Int32)))) + (own_f2 (if kk3 = (0 : Int32) then (1 : Int32) else (0 : Int32))))) (hc1 : ct1 = ((((own_f2 (if kk0 = (1 : Int32) then (1 : Int32) else (0 : Int32))) + (own_f2 (if kk1 = (1 : Int32) then (1 : Int32) else (0 : Int32)))) + (own_f2 (if kk2 = (1 : Int32) then (1 : Int32) else (0 : Int32)))) + (own_f2 (if kk3 = (1 : Int32) then (1 : Int32) else (0 : Int32))))) (hp : pp = (((own_f4 kk2 ct0 ct1 (4 : Int32)) + (own_f2 (if kk0 = kk2 then (1 : Int32) else (0 : Int32)))) + (own_f2 (if kk1 = kk2 then (1 : Int32) else (0 : Int32))))) : own_Inb pp 4 := by
  subst hc0 hc1
  subst hp
  rcases h0 with rfl | rfl | rfl
  all_goals rcases h1 with rfl | rfl | rfl
  all_goals rcases h2 with rfl | rfl | rfl
  all_goals rcases h3 with rfl | rfl | rfl
  all_goals exact own_inb (by decide +kernel) (by decide +kernel)
set_option maxHeartbeats 8000000 in
theorem own_g4_2 {kk0 kk1 kk2 kk3 x0 x1 x2 x3 ct0 ct1 pp : Int32} (h0 : own_3 kk0) (h1 : own_3 kk1) (h2 : own_3 kk2) (h3 : own_3 kk3) (hc0 : ct0 = ((((own_f2 (if kk0 = (0 : Int32) then (1 : Int32) else (0 : Int32))) + (own_f2 (if kk1 = (0 : Int32) then (1 : Int32) else (0 : Int32)))) + (own_f2 (if kk2 = (0 : Int32) then (1 : Int32) else (0 : Int32)))) + (own_f2 (if kk3 = (0 : Int32) then (1 : Int32) else (0 : Int32))))) (hc1 : ct1 = ((((own_f2 (if kk0 = (1 : Int32) then (1 : Int32) else (0 : Int32))) + (own_f2 (if kk1 = (1 : Int32) then (1 : Int32) else (0 : Int32)))) + (own_f2 (if kk2 = (1 : Int32) then (1 : Int32) else (0 : Int32)))) + (own_f2 (if kk3 = (1 : Int32) then (1 : Int32) else (0 : Int32))))) (hp : pp = (((own_f4 kk2 ct0 ct1 (4 : Int32)) + (own_f2 (if kk0 = kk2 then (1 : Int32) else (0 : Int32)))) + (own_f2 (if kk1 = kk2 then (1 : Int32) else (0 : Int32))))) : ((((([(0 : Int32), (0 : Int32), (0 : Int32), (0 : Int32)].set ((own_s4 kk0 kk1 kk2 kk3).getD kk0.toNatClampNeg 0).toNatClampNeg x0).set ((own_inc (own_s4 kk0 kk1 kk2 kk3) kk0).getD kk1.toNatClampNeg 0).toNatClampNeg x1).set ((own_inc (own_inc (own_s4 kk0 kk1 kk2 kk3) kk0) kk1).getD kk2.toNatClampNeg 0).toNatClampNeg x2).set ((own_inc (own_inc (own_inc (own_s4 kk0 kk1 kk2 kk3) kk0) kk1) kk2).getD kk3.toNatClampNeg 0).toNatClampNeg x3).getD pp.toNatClampNeg 0) = x2 := by
  subst hc0 hc1
  subst hp
  rcases h0 with rfl | rfl | rfl
  all_goals rcases h1 with rfl | rfl | rfl
  all_goals rcases h2 with rfl | rfl | rfl
  all_goals rcases h3 with rfl | rfl | rfl
  all_goals rfl
set_option maxHeartbeats 8000000 in
theorem own_pb4_3 {kk0 kk1 kk2 kk3 ct0 ct1 pp : Int32} (h0 : own_3 kk0) (h1 : own_3 kk1) (h2 : own_3 kk2) (h3 : own_3 kk3) (hc0 : ct0 = ((((own_f2 (if kk0 = (0 : Int32) then (1 : Int32) else (0 : Int32))) + (own_f2 (if kk1 = (0 : Int32) then (1 : Int32) else (0 : Int32)))) + (own_f2 (if kk2 = (0 : Int32) then (1 : Int32) else (0 : Int32)))) + (own_f2 (if kk3 = (0 : Int32) then (1 : Int32) else (0 : Int32))))) (hc1 : ct1 = ((((own_f2 (if kk0 = (1 : Int32) then (1 : Int32) else (0 : Int32))) + (own_f2 (if kk1 = (1 : Int32) then (1 : Int32) else (0 : Int32)))) + (own_f2 (if kk2 = (1 : Int32) then (1 : Int32) else (0 : Int32)))) + (own_f2 (if kk3 = (1 : Int32) then (1 : Int32) else (0 : Int32))))) (hp : pp = ((((own_f4 kk3 ct0 ct1 (4 : Int32)) + (own_f2 (if kk0 = kk3 then (1 : Int32) else (0 : Int32)))) + (own_f2 (if kk1 = kk3 then (1 : Int32) else (0 : Int32)))) + (own_f2 (if kk2 = kk3 then (1 : Int32) else (0 : Int32))))) : own_Inb pp 4 := by
  subst hc0 hc1
  subst hp
  rcases h0 with rfl | rfl | rfl
  all_goals rcases h1 with rfl | rfl | rfl
  all_goals rcases h2 with rfl | rfl | rfl
  all_goals rcases h3 with rfl | rfl | rfl
  all_goals exact own_inb (by decide +kernel) (by decide +kernel)
set_option maxHeartbeats 8000000 in
theorem own_g4_3 {kk0 kk1 kk2 kk3 x0 x1 x2 x3 ct0 ct1 pp : Int32} (h0 : own_3 kk0) (h1 : own_3 kk1) (h2 : own_3 kk2) (h3 : own_3 kk3) (hc0 : ct0 = ((((own_f2 (if kk0 = (0 : Int32) then (1 : Int32) else (0 : Int32))) + (own_f2 (if kk1 = (0 : Int32) then (1 : Int32) else (0 : Int32)))) + (own_f2 (if kk2 = (0 : Int32) then (1 : Int32) else (0 : Int32)))) + (own_f2 (if kk3 = (0 : Int32) then (1 : Int32) else (0 : Int32))))) (hc1 : ct1 = ((((own_f2 (if kk0 = (1 : Int32) then (1 : Int32) else (0 : Int32))) + (own_f2 (if kk1 = (1 : Int32) then (1 : Int32) else (0 : Int32)))) + (own_f2 (if kk2 = (1 : Int32) then (1 : Int32) else (0 : Int32)))) + (own_f2 (if kk3 = (1 : Int32) then (1 : Int32) else (0 : Int32))))) (hp : pp = ((((own_f4 kk3 ct0 ct1 (4 : Int32)) + (own_f2 (if kk0 = kk3 then (1 : Int32) else (0 : Int32)))) + (own_f2 (if kk1 = kk3 then (1 : Int32) else (0 : Int32)))) + (own_f2 (if kk2 = kk3 then (1 : Int32) else (0 : Int32))))) : ((((([(0 : Int32), (0 : Int32), (0 : Int32), (0 : Int32)].set ((own_s4 kk0 kk1 kk2 kk3).getD kk0.toNatClampNeg 0).toNatClampNeg x0).set ((own_inc (own_s4 kk0 kk1 kk2 kk3) kk0).getD kk1.toNatClampNeg 0).toNatClampNeg x1).set ((own_inc (own_inc (own_s4 kk0 kk1 kk2 kk3) kk0) kk1).getD kk2.toNatClampNeg 0).toNatClampNeg x2).set ((own_inc (own_inc (own_inc (own_s4 kk0 kk1 kk2 kk3) kk0) kk1) kk2).getD kk3.toNatClampNeg 0).toNatClampNeg x3).getD pp.toNatClampNeg 0) = x3 := by
  subst hc0 hc1
  subst hp
  rcases h0 with rfl | rfl | rfl
  all_goals rcases h1 with rfl | rfl | rfl
  all_goals rcases h2 with rfl | rfl | rfl
  all_goals rcases h3 with rfl | rfl | rfl
  all_goals rfl
theorem pn_0 : plainName "com/example/stevedore/stevedore/MoveGraphGroupedPinLaw" = true := by first | (simp [plainName, overriddenIn]; done) | decide +kernel
theorem pd_0_0 : parseMethodDescriptor "(IIIIII)I" = some ⟨[.int, .int, .int, .int, .int, .int], some .int⟩ := by decide +kernel
theorem pd_0_1 : parseMethodDescriptor "([I[I[I)[I" = some ⟨[(.array .int), (.array .int), (.array .int)], some (.array .int)⟩ := by decide +kernel
theorem pd_0_2 : parseMethodDescriptor "(IIII)I" = some ⟨[.int, .int, .int, .int], some .int⟩ := by decide +kernel
theorem pd_0_3 : parseMethodDescriptor "(Z)I" = some ⟨[.boolean], some .int⟩ := by decide +kernel
theorem ef_0 (m : MethodId) (p1 : Int32) (p2 : Int32) (p3 : Int32) : entryFrame m #[(.int p1), (.int p2), (.int p3)] maxLocals = mkF m 0 #[iv p1, iv p2, iv p3, .unset, .unset, .unset, .unset, .unset, .unset, .unset, .unset, .unset, .unset, .unset, .unset, .unset, .unset, .unset, .unset, .unset, .unset, .unset] [] := by first | (simp [entryFrame, mkF, argsToLocals, Value.category, maxLocals]; done) | rfl
def Q0 (Z : State) (p1 : Int32) (p2 : Int32) (p3 : Int32) (h0 : Heap) (n0 : Nat) (v : Option Value) (h : Heap) (L : List Loc) : Prop := v = some (.int (1 : Int32)) ∧ Fr n0 L
set_option maxRecDepth 65536 in
set_option maxHeartbeats 40000000 in
theorem rm0_c0 (l : Launch) (Z : State) (a0 : Array Value) (hw : ∀ d ∈ tables_1, d.before a0 Z = true) (p1 : Int32) (p2 : Int32) (p3 : Int32) (h0 : Heap) (n0 : Nat) (Z0 : n0 ≤ h0.size) {p : Program} {e : Env} {s : State} {m : MethodId} {below : List Frame} {meth : Method} {c : Code} {T13 : State} {lc : List Loc} {P : Outcome → State → Prop} {h13 : Heap} {b2 : Addr} {kv0 : Int32} {kv1 : Int32} {kv2 : Int32} {kv3 : Int32} {x0 : Int32} {x1 : Int32} {x2 : Int32} {x3 : Int32} (hx : p.tables.exec = Jvm.exec) (hby : c.code = code) (hml : c.maxLocals = 22) (hown : s.vm.findClass "com/example/stevedore/stevedore/MoveGraphGroupedPinLaw" = some m.cls) (hZ : Z.Warmed39 s.vm) (hlocks : meth.locks = false) (hret : meth.sig.returnType = some .boolean) (X13 : Stand p l e room_1 s m #[(.int p1), (.int p2), (.int p3)] below meth c T13 lc 1 4) (e13 : T13.heap = h13) (N13 : Fr n0 lc) (K13 : Keep h0 h13 []) (c14 : own_Ari Z h13 b2 .int [kv0, kv1, kv2, kv3]) (ge2 : n0 ≤ b2) (sz2 : h0.size ≤ b2) (hd_kv0 : kv0 = ((p3 &&& (15 : Int32)) - ((p3 &&& (15 : Int32)) / (3 : Int32)) * (3 : Int32))) (hd_kv1 : kv1 = ((((p3.toUInt32 >>> ((4 : Int32) &&& 31).toUInt32).toInt32) &&& (15 : Int32)) - ((((p3.toUInt32 >>> ((4 : Int32) &&& 31).toUInt32).toInt32) &&& (15 : Int32)) / (3 : Int32)) * (3 : Int32))) (hd_kv2 : kv2 = ((((p3.toUInt32 >>> ((8 : Int32) &&& 31).toUInt32).toInt32) &&& (15 : Int32)) - ((((p3.toUInt32 >>> ((8 : Int32) &&& 31).toUInt32).toInt32) &&& (15 : Int32)) / (3 : Int32)) * (3 : Int32))) (hd_kv3 : kv3 = ((((p3.toUInt32 >>> ((12 : Int32) &&& 31).toUInt32).toInt32) &&& (15 : Int32)) - ((((p3.toUInt32 >>> ((12 : Int32) &&& 31).toUInt32).toInt32) &&& (15 : Int32)) / (3 : Int32)) * (3 : Int32))) (hd_x0 : x0 = (p2 &&& (3 : Int32))) (hd_x1 : x1 = (((p2.toUInt32 >>> ((2 : Int32) &&& 31).toUInt32).toInt32) &&& (3 : Int32))) (hd_x2 : x2 = (((p2.toUInt32 >>> ((4 : Int32) &&& 31).toUInt32).toInt32) &&& (3 : Int32))) (hd_x3 : x3 = (((p2.toUInt32 >>> ((6 : Int32) &&& 31).toUInt32).toInt32) &&& (3 : Int32))) (hd_n : (0 : Int32) = ((p1 &&& (7 : Int32)) - ((p1 &&& (7 : Int32)) / (5 : Int32)) * (5 : Int32))) (hv0 : own_3 kv0) (hv1 : own_3 kv1) (hv2 : own_3 kv2) (hv3 : own_3 kv3) (hP : ∀ o U', (∃ v L, o = .returned v ∧ Q0 Z p1 p2 p3 h0 n0 v U'.heap L ∧ FrameEnd s o U' L room_1.cells room_1.slots) → P o U') : own_G p.tables e below P (T13.setTop (mkF m 87 #[iv p1, iv p2, iv p3, iv (0 : Int32), rv b2, iv x0, iv x1, iv x2, iv x3, .unset, .unset, .unset, .unset, .unset, .unset, .unset, .unset, .unset, .unset, .unset, .unset, .unset] [])) := by
  show own_G p.tables e below _ (T13.setTop (mkF m 87 #[iv p1, iv p2, iv p3, iv (0 : Int32), rv b2, iv x0, iv x1, iv x2, iv x3, .unset, .unset, .unset, .unset, .unset, .unset, .unset, .unset, .unset, .unset, .unset, .unset, .unset] []))
  have hx0 : own_4 x0 := by rw [hd_x0]; exact own_num _
  have hx1 : own_4 x1 := by rw [hd_x1]; exact own_num _
  have hx2 : own_4 x2 := by rw [hd_x2]; exact own_num _
  have hx3 : own_4 x3 := by rw [hd_x3]; exact own_num _
  refine own_step (fun t k => XS.iloadN X13.here hx rfl (hb hby at_87) rfl k) ?_
  obtain ⟨T20, h20, k20, X20, e20, E20, A20, st20⟩ := newP X13 hx hZ (hw _ (List.mem_of_getElem? (i := 0) rfl)) e13 (g := (mkF m 88 #[iv p1, iv p2, iv p3, iv (0 : Int32), rv b2, iv x0, iv x1, iv x2, iv x3, .unset, .unset, .unset, .unset, .unset, .unset, .unset, .unset, .unset, .unset, .unset, .unset, .unset] [(.int (0 : Int32))])) rfl (hb hby at_88) rfl (by decide) (cap := 0) (by decide) (by decide) (by decide) (by decide)
  obtain ⟨b20, g20⟩ : ∃ z, z = h13.size := ⟨_, rfl⟩
  have ne21 : b2 ≠ b20 := Nat.ne_of_lt (Nat.lt_of_lt_of_le c14.lt (Nat.le_of_eq g20.symm))
  have sz20 : h0.size ≤ b20 := Nat.le_trans K13.1 (Nat.le_of_eq g20.symm)
  have ge20 : n0 ≤ b20 := Nat.le_trans Z0 sz20
  have c22 : own_Ari Z h20 b2 .int [kv0, kv1, kv2, kv3] := c14.ext E20
  have K20 : Keep h0 h20 [] := K13.ext E20
  rw [← g20] at A20 st20
  have c23 : own_Ari Z h20 b20 .int [] := own_Ari_new (ty := .int) A20 (by decide) rfl
  refine own_step st20 ?_
  refine own_step (fun t k => XS.astore X20.here hx rfl (hb hby at_90) rfl rfl (l' := #[iv p1, iv p2, iv p3, iv (0 : Int32), rv b2, iv x0, iv x1, iv x2, iv x3, rv b20, .unset, .unset, .unset, .unset, .unset, .unset, .unset, .unset, .unset, .unset, .unset, .unset]) rfl k) ?_
  refine own_step (fun t k => XS.iloadN X20.here hx rfl (hb hby at_92) rfl k) ?_
  show own_G p.tables e below _ (T20.setTop (mkF m 93 #[iv p1, iv p2, iv p3, iv (0 : Int32), rv b2, iv x0, iv x1, iv x2, iv x3, rv b20, .unset, .unset, .unset, .unset, .unset, .unset, .unset, .unset, .unset, .unset, .unset, .unset] [(.int (0 : Int32))]))
  have hk24 : ¬ ((0 : Int32) < (0 : Int32)) := (by decide)
  refine own_step (fun t k => XS.ifYes X20.here hx rfl (pc0 := 93) (pc' := 102) rfl (hb hby at_93) rfl ((if0 _ _).trans (flt hk24).2.2.2) (by decide) (by decide) k) ?_
  show own_G p.tables e below _ (T20.setTop (mkF m 102 #[iv p1, iv p2, iv p3, iv (0 : Int32), rv b2, iv x0, iv x1, iv x2, iv x3, rv b20, .unset, .unset, .unset, .unset, .unset, .unset, .unset, .unset, .unset, .unset, .unset, .unset] []))
  refine own_step (fun t k => XS.iloadN X20.here hx rfl (hb hby at_102) rfl k) ?_
  refine own_step (fun t k => XS.iconst X20.here hx rfl (hb hby at_103) k) ?_
  have hk25 : ¬ ((1 : Int32) < (0 : Int32)) := (by decide)
  refine own_step (fun t k => XS.icmpYes X20.here hx rfl (pc0 := 104) (pc' := 113) rfl (hb hby at_104) rfl ((flt hk25).2.2.2) (by decide) (by decide) k) ?_
  show own_G p.tables e below _ (T20.setTop (mkF m 113 #[iv p1, iv p2, iv p3, iv (0 : Int32), rv b2, iv x0, iv x1, iv x2, iv x3, rv b20, .unset, .unset, .unset, .unset, .unset, .unset, .unset, .unset, .unset, .unset, .unset, .unset] []))
  refine own_step (fun t k => XS.iloadN X20.here hx rfl (hb hby at_113) rfl k) ?_
  refine own_step (fun t k => XS.iconst X20.here hx rfl (hb hby at_114) k) ?_
  have hk26 : ¬ ((2 : Int32) < (0 : Int32)) := (by decide)
  refine own_step (fun t k => XS.icmpYes X20.here hx rfl (pc0 := 115) (pc' := 124) rfl (hb hby at_115) rfl ((flt hk26).2.2.2) (by decide) (by decide) k) ?_
  show own_G p.tables e below _ (T20.setTop (mkF m 124 #[iv p1, iv p2, iv p3, iv (0 : Int32), rv b2, iv x0, iv x1, iv x2, iv x3, rv b20, .unset, .unset, .unset, .unset, .unset, .unset, .unset, .unset, .unset, .unset, .unset, .unset] []))
  refine own_step (fun t k => XS.iloadN X20.here hx rfl (hb hby at_124) rfl k) ?_
  refine own_step (fun t k => XS.iconst X20.here hx rfl (hb hby at_125) k) ?_
  have hk27 : ¬ ((3 : Int32) < (0 : Int32)) := (by decide)
  refine own_step (fun t k => XS.icmpYes X20.here hx rfl (pc0 := 126) (pc' := 135) rfl (hb hby at_126) rfl ((flt hk27).2.2.2) (by decide) (by decide) k) ?_
  show own_G p.tables e below _ (T20.setTop (mkF m 135 #[iv p1, iv p2, iv p3, iv (0 : Int32), rv b2, iv x0, iv x1, iv x2, iv x3, rv b20, .unset, .unset, .unset, .unset, .unset, .unset, .unset, .unset, .unset, .unset, .unset, .unset] []))
  refine own_step (fun t k => XS.aload X20.here hx rfl (hb hby at_135) rfl rfl k) ?_
  refine own_step (fun t k => XS.iload X20.here hx rfl (hb hby at_137) rfl k) ?_
  refine own_step (own_iaload X20 hx hZ e20 c22 (own_i4 hx0 rfl) (g := (mkF m 139 #[iv p1, iv p2, iv p3, iv (0 : Int32), rv b2, iv x0, iv x1, iv x2, iv x3, rv b20, .unset, .unset, .unset, .unset, .unset, .unset, .unset, .unset, .unset, .unset, .unset, .unset] [(.int x0), (.ref b2)])) rfl rfl (hb hby at_139)) ?_
  refine own_nm (([kv0, kv1, kv2, kv3].getD x0.toNatClampNeg 0) : Int32) (fun kk0 => T20.setTop (mkF m 140 #[iv p1, iv p2, iv p3, iv (0 : Int32), rv b2, iv x0, iv x1, iv x2, iv x3, rv b20, .unset, .unset, .unset, .unset, .unset, .unset, .unset, .unset, .unset, .unset, .unset, .unset] [(.int kk0)])) ?_
  intro kk0 hd_kk0
  show own_G p.tables e below _ (T20.setTop (mkF m 140 #[iv p1, iv p2, iv p3, iv (0 : Int32), rv b2, iv x0, iv x1, iv x2, iv x3, rv b20, .unset, .unset, .unset, .unset, .unset, .unset, .unset, .unset, .unset, .unset, .unset, .unset] [(.int kk0)]))
  refine own_step (fun t k => XS.istore X20.here hx rfl (hb hby at_140) rfl (l' := #[iv p1, iv p2, iv p3, iv (0 : Int32), rv b2, iv x0, iv x1, iv x2, iv x3, rv b20, iv kk0, .unset, .unset, .unset, .unset, .unset, .unset, .unset, .unset, .unset, .unset, .unset]) rfl k) ?_
  refine own_step (fun t k => XS.aload X20.here hx rfl (hb hby at_142) rfl rfl k) ?_
  refine own_step (fun t k => XS.iload X20.here hx rfl (hb hby at_144) rfl k) ?_
  refine own_step (own_iaload X20 hx hZ e20 c22 (own_i4 hx1 rfl) (g := (mkF m 146 #[iv p1, iv p2, iv p3, iv (0 : Int32), rv b2, iv x0, iv x1, iv x2, iv x3, rv b20, iv kk0, .unset, .unset, .unset, .unset, .unset, .unset, .unset, .unset, .unset, .unset, .unset] [(.int x1), (.ref b2)])) rfl rfl (hb hby at_146)) ?_
  show own_G p.tables e below _ (T20.setTop (mkF m 147 #[iv p1, iv p2, iv p3, iv (0 : Int32), rv b2, iv x0, iv x1, iv x2, iv x3, rv b20, iv kk0, .unset, .unset, .unset, .unset, .unset, .unset, .unset, .unset, .unset, .unset, .unset] [(.int ([kv0, kv1, kv2, kv3].getD x1.toNatClampNeg 0))]))
  refine own_nm (([kv0, kv1, kv2, kv3].getD x1.toNatClampNeg 0) : Int32) (fun kk1 => T20.setTop (mkF m 147 #[iv p1, iv p2, iv p3, iv (0 : Int32), rv b2, iv x0, iv x1, iv x2, iv x3, rv b20, iv kk0, .unset, .unset, .unset, .unset, .unset, .unset, .unset, .unset, .unset, .unset, .unset] [(.int kk1)])) ?_
  intro kk1 hd_kk1
  show own_G p.tables e below _ (T20.setTop (mkF m 147 #[iv p1, iv p2, iv p3, iv (0 : Int32), rv b2, iv x0, iv x1, iv x2, iv x3, rv b20, iv kk0, .unset, .unset, .unset, .unset, .unset, .unset, .unset, .unset, .unset, .unset, .unset] [(.int kk1)]))
  refine own_step (fun t k => XS.istore X20.here hx rfl (hb hby at_147) rfl (l' := #[iv p1, iv p2, iv p3, iv (0 : Int32), rv b2, iv x0, iv x1, iv x2, iv x3, rv b20, iv kk0, iv kk1, .unset, .unset, .unset, .unset, .unset, .unset, .unset, .unset, .unset, .unset]) rfl k) ?_
  refine own_step (fun t k => XS.aload X20.here hx rfl (hb hby at_149) rfl rfl k) ?_
  refine own_step (fun t k => XS.iload X20.here hx rfl (hb hby at_151) rfl k) ?_
  refine own_step (own_iaload X20 hx hZ e20 c22 (own_i4 hx2 rfl) (g := (mkF m 153 #[iv p1, iv p2, iv p3, iv (0 : Int32), rv b2, iv x0, iv x1, iv x2, iv x3, rv b20, iv kk0, iv kk1, .unset, .unset, .unset, .unset, .unset, .unset, .unset, .unset, .unset, .unset] [(.int x2), (.ref b2)])) rfl rfl (hb hby at_153)) ?_
  show own_G p.tables e below _ (T20.setTop (mkF m 154 #[iv p1, iv p2, iv p3, iv (0 : Int32), rv b2, iv x0, iv x1, iv x2, iv x3, rv b20, iv kk0, iv kk1, .unset, .unset, .unset, .unset, .unset, .unset, .unset, .unset, .unset, .unset] [(.int ([kv0, kv1, kv2, kv3].getD x2.toNatClampNeg 0))]))
  refine own_nm (([kv0, kv1, kv2, kv3].getD x2.toNatClampNeg 0) : Int32) (fun kk2 => T20.setTop (mkF m 154 #[iv p1, iv p2, iv p3, iv (0 : Int32), rv b2, iv x0, iv x1, iv x2, iv x3, rv b20, iv kk0, iv kk1, .unset, .unset, .unset, .unset, .unset, .unset, .unset, .unset, .unset, .unset] [(.int kk2)])) ?_
  intro kk2 hd_kk2
  show own_G p.tables e below _ (T20.setTop (mkF m 154 #[iv p1, iv p2, iv p3, iv (0 : Int32), rv b2, iv x0, iv x1, iv x2, iv x3, rv b20, iv kk0, iv kk1, .unset, .unset, .unset, .unset, .unset, .unset, .unset, .unset, .unset, .unset] [(.int kk2)]))
  refine own_step (fun t k => XS.istore X20.here hx rfl (hb hby at_154) rfl (l' := #[iv p1, iv p2, iv p3, iv (0 : Int32), rv b2, iv x0, iv x1, iv x2, iv x3, rv b20, iv kk0, iv kk1, iv kk2, .unset, .unset, .unset, .unset, .unset, .unset, .unset, .unset, .unset]) rfl k) ?_
  refine own_step (fun t k => XS.aload X20.here hx rfl (hb hby at_156) rfl rfl k) ?_
  refine own_step (fun t k => XS.iload X20.here hx rfl (hb hby at_158) rfl k) ?_
  refine own_step (own_iaload X20 hx hZ e20 c22 (own_i4 hx3 rfl) (g := (mkF m 160 #[iv p1, iv p2, iv p3, iv (0 : Int32), rv b2, iv x0, iv x1, iv x2, iv x3, rv b20, iv kk0, iv kk1, iv kk2, .unset, .unset, .unset, .unset, .unset, .unset, .unset, .unset, .unset] [(.int x3), (.ref b2)])) rfl rfl (hb hby at_160)) ?_
  show own_G p.tables e below _ (T20.setTop (mkF m 161 #[iv p1, iv p2, iv p3, iv (0 : Int32), rv b2, iv x0, iv x1, iv x2, iv x3, rv b20, iv kk0, iv kk1, iv kk2, .unset, .unset, .unset, .unset, .unset, .unset, .unset, .unset, .unset] [(.int ([kv0, kv1, kv2, kv3].getD x3.toNatClampNeg 0))]))
  refine own_nm (([kv0, kv1, kv2, kv3].getD x3.toNatClampNeg 0) : Int32) (fun kk3 => T20.setTop (mkF m 161 #[iv p1, iv p2, iv p3, iv (0 : Int32), rv b2, iv x0, iv x1, iv x2, iv x3, rv b20, iv kk0, iv kk1, iv kk2, .unset, .unset, .unset, .unset, .unset, .unset, .unset, .unset, .unset] [(.int kk3)])) ?_
  intro kk3 hd_kk3
  show own_G p.tables e below _ (T20.setTop (mkF m 161 #[iv p1, iv p2, iv p3, iv (0 : Int32), rv b2, iv x0, iv x1, iv x2, iv x3, rv b20, iv kk0, iv kk1, iv kk2, .unset, .unset, .unset, .unset, .unset, .unset, .unset, .unset, .unset] [(.int kk3)]))
  refine own_step (fun t k => XS.istore X20.here hx rfl (hb hby at_161) rfl (l' := #[iv p1, iv p2, iv p3, iv (0 : Int32), rv b2, iv x0, iv x1, iv x2, iv x3, rv b20, iv kk0, iv kk1, iv kk2, iv kk3, .unset, .unset, .unset, .unset, .unset, .unset, .unset, .unset]) rfl k) ?_
  have h30 : own_3 kk0 := by rw [hd_kk0]; exact own_k3 hv0 hv1 hv2 hv3 hx0
  have h31 : own_3 kk1 := by rw [hd_kk1]; exact own_k3 hv0 hv1 hv2 hv3 hx1
  have h32 : own_3 kk2 := by rw [hd_kk2]; exact own_k3 hv0 hv1 hv2 hv3 hx2
  have h33 : own_3 kk3 := by rw [hd_kk3]; exact own_k3 hv0 hv1 hv2 hv3 hx3
  refine own_step (fun t k => XS.iconst X20.here hx rfl (hb hby at_163) k) ?_
  refine own_step (fun t k => XS.iloadN X20.here hx rfl (hb hby at_164) rfl k) ?_
  refine own_step (fun t k => XS.iload X20.here hx rfl (hb hby at_165) rfl k) ?_
  show own_G p.tables e below _ (T20.setTop (mkF m 167 #[iv p1, iv p2, iv p3, iv (0 : Int32), rv b2, iv x0, iv x1, iv x2, iv x3, rv b20, iv kk0, iv kk1, iv kk2, iv kk3, .unset, .unset, .unset, .unset, .unset, .unset, .unset, .unset] [(.int kk0), (.int (0 : Int32)), (.int (0 : Int32))]))
  refine own_step (fun t k => XS.iload X20.here hx rfl (hb hby at_167) rfl k) ?_
  refine own_step (fun t k => XS.iload X20.here hx rfl (hb hby at_169) rfl k) ?_
  refine own_step (fun t k => XS.iload X20.here hx rfl (hb hby at_171) rfl k) ?_
  obtain ⟨_, _, ⟨T32, L32, k32, n32⟩, -, X32, ⟨Lc32, hQ32, l32, y32, z32⟩, st32⟩ := Jvm.LawKit.callS X20 hx (y := (⟨"com/example/stevedore/stevedore/MoveGraphGroupedPinLaw", "cnt", "(IIIIII)I"⟩ : MethodName)) hown (mvT hZ (hw _ (List.mem_of_getElem? (i := 1) rfl))) (mvT hZ (hw _ (List.mem_of_getElem? (i := 2) rfl))) (mvT hZ (hw _ (List.mem_of_getElem? (i := 3) rfl))) (mvT hZ (hw _ (List.mem_of_getElem? (i := 4) rfl))) (by decide) (backOf (W := 0) (rm1_n0 l Z a0 hw [] (0 : Int32) kk0 kk1 kk2 kk3 h20 n0 (Nat.le_trans Z0 K20.1) ) hZ (hw _ (List.mem_of_getElem? (i := 4) rfl)) (hw _ (List.mem_of_getElem? (i := 3) rfl)) (by decide) (by decide)) (g := (mkF m 173 #[iv p1, iv p2, iv p3, iv (0 : Int32), rv b2, iv x0, iv x1, iv x2, iv x3, rv b20, iv kk0, iv kk1, iv kk2, iv kk3, .unset, .unset, .unset, .unset, .unset, .unset, .unset, .unset] [(.int kk3), (.int kk2), (.int kk1), (.int kk0), (.int (0 : Int32)), (.int (0 : Int32))])) rfl (by rw [hml]; rfl) (argsL := [(.int (0 : Int32)), (.int (0 : Int32)), (.int kk0), (.int kk1), (.int kk2), (.int kk3)]) (rest := []) (lenOf pd_0_0 rfl) rfl (by show 2 * 0 + _ ≤ _; exact Nat.le_of_eq rfl) (hb hby at_173) (fun _ _ => ⟨rfl, e20, (by decide : 2 + 0 ≤ _), (by decide : 4 + 0 ≤ _)⟩)
  dsimp only [Pt.U, Pt.locs, Pt.cells, Pt.slots] at X32 l32 y32 z32 st32 hQ32
  subst y32 z32
  obtain ⟨rfl, N32q, e32⟩ := hQ32
  have N32 : Fr n0 L32 := by rw [l32]; exact Fr.app N13 N32q
  refine own_step st32 ?_
  clear A20 E20 N32q X20 e20 g20 hk24 hk25 hk26 hk27 st20 st32
  show own_G p.tables e below _ (T32.setTop (mkF m 176 #[iv p1, iv p2, iv p3, iv (0 : Int32), rv b2, iv x0, iv x1, iv x2, iv x3, rv b20, iv kk0, iv kk1, iv kk2, iv kk3, .unset, .unset, .unset, .unset, .unset, .unset, .unset, .unset] [(.int ((((own_f2 (0 : Int32)) + (own_f2 (0 : Int32))) + (own_f2 (0 : Int32))) + (own_f2 (0 : Int32))))]))
  refine own_nm (((((own_f2 (0 : Int32)) + (own_f2 (0 : Int32))) + (own_f2 (0 : Int32))) + (own_f2 (0 : Int32))) : Int32) (fun ct0 => T32.setTop (mkF m 176 #[iv p1, iv p2, iv p3, iv (0 : Int32), rv b2, iv x0, iv x1, iv x2, iv x3, rv b20, iv kk0, iv kk1, iv kk2, iv kk3, .unset, .unset, .unset, .unset, .unset, .unset, .unset, .unset] [(.int ct0)])) ?_
  intro ct0 hd_ct0
  show own_G p.tables e below _ (T32.setTop (mkF m 176 #[iv p1, iv p2, iv p3, iv (0 : Int32), rv b2, iv x0, iv x1, iv x2, iv x3, rv b20, iv kk0, iv kk1, iv kk2, iv kk3, .unset, .unset, .unset, .unset, .unset, .unset, .unset, .unset] [(.int ct0)]))
  refine own_step (fun t k => XS.istore X32.here hx rfl (hb hby at_176) rfl (l' := #[iv p1, iv p2, iv p3, iv (0 : Int32), rv b2, iv x0, iv x1, iv x2, iv x3, rv b20, iv kk0, iv kk1, iv kk2, iv kk3, iv ct0, .unset, .unset, .unset, .unset, .unset, .unset, .unset]) rfl k) ?_
  refine own_step (fun t k => XS.iconst X32.here hx rfl (hb hby at_178) k) ?_
  refine own_step (fun t k => XS.iloadN X32.here hx rfl (hb hby at_179) rfl k) ?_
  refine own_step (fun t k => XS.iload X32.here hx rfl (hb hby at_180) rfl k) ?_
  show own_G p.tables e below _ (T32.setTop (mkF m 182 #[iv p1, iv p2, iv p3, iv (0 : Int32), rv b2, iv x0, iv x1, iv x2, iv x3, rv b20, iv kk0, iv kk1, iv kk2, iv kk3, iv ct0, .unset, .unset, .unset, .unset, .unset, .unset, .unset] [(.int kk0), (.int (0 : Int32)), (.int (1 : Int32))]))
  refine own_step (fun t k => XS.iload X32.here hx rfl (hb hby at_182) rfl k) ?_
  refine own_step (fun t k => XS.iload X32.here hx rfl (hb hby at_184) rfl k) ?_
  refine own_step (fun t k => XS.iload X32.here hx rfl (hb hby at_186) rfl k) ?_
  obtain ⟨_, _, ⟨T34, L34, k34, n34⟩, -, X34, ⟨Lc34, hQ34, l34, y34, z34⟩, st34⟩ := Jvm.LawKit.callS X32 hx (y := (⟨"com/example/stevedore/stevedore/MoveGraphGroupedPinLaw", "cnt", "(IIIIII)I"⟩ : MethodName)) hown (mvT hZ (hw _ (List.mem_of_getElem? (i := 1) rfl))) (mvT hZ (hw _ (List.mem_of_getElem? (i := 2) rfl))) (mvT hZ (hw _ (List.mem_of_getElem? (i := 3) rfl))) (mvT hZ (hw _ (List.mem_of_getElem? (i := 4) rfl))) (by decide) (backOf (W := 0) (rm1_n0 l Z a0 hw [] (1 : Int32) kk0 kk1 kk2 kk3 h20 n0 (Nat.le_trans Z0 K20.1) ) hZ (hw _ (List.mem_of_getElem? (i := 4) rfl)) (hw _ (List.mem_of_getElem? (i := 3) rfl)) (by decide) (by decide)) (g := (mkF m 188 #[iv p1, iv p2, iv p3, iv (0 : Int32), rv b2, iv x0, iv x1, iv x2, iv x3, rv b20, iv kk0, iv kk1, iv kk2, iv kk3, iv ct0, .unset, .unset, .unset, .unset, .unset, .unset, .unset] [(.int kk3), (.int kk2), (.int kk1), (.int kk0), (.int (0 : Int32)), (.int (1 : Int32))])) rfl (by rw [hml]; rfl) (argsL := [(.int (1 : Int32)), (.int (0 : Int32)), (.int kk0), (.int kk1), (.int kk2), (.int kk3)]) (rest := []) (lenOf pd_0_0 rfl) rfl (by show 2 * 0 + _ ≤ _; exact Nat.le_of_eq rfl) (hb hby at_188) (fun _ _ => ⟨rfl, e32, (by decide : 2 + 0 ≤ _), (by decide : 4 + 0 ≤ _)⟩)
  dsimp only [Pt.U, Pt.locs, Pt.cells, Pt.slots] at X34 l34 y34 z34 st34 hQ34
  subst y34 z34
  obtain ⟨rfl, N34q, e34⟩ := hQ34
  have N34 : Fr n0 L34 := by rw [l34]; exact Fr.app N32 N34q
  refine own_step st34 ?_
  show own_G p.tables e below _ (T34.setTop (mkF m 191 #[iv p1, iv p2, iv p3, iv (0 : Int32), rv b2, iv x0, iv x1, iv x2, iv x3, rv b20, iv kk0, iv kk1, iv kk2, iv kk3, iv ct0, .unset, .unset, .unset, .unset, .unset, .unset, .unset] [(.int ((((own_f2 (0 : Int32)) + (own_f2 (0 : Int32))) + (own_f2 (0 : Int32))) + (own_f2 (0 : Int32))))]))
  refine own_nm (((((own_f2 (0 : Int32)) + (own_f2 (0 : Int32))) + (own_f2 (0 : Int32))) + (own_f2 (0 : Int32))) : Int32) (fun ct1 => T34.setTop (mkF m 191 #[iv p1, iv p2, iv p3, iv (0 : Int32), rv b2, iv x0, iv x1, iv x2, iv x3, rv b20, iv kk0, iv kk1, iv kk2, iv kk3, iv ct0, .unset, .unset, .unset, .unset, .unset, .unset, .unset] [(.int ct1)])) ?_
  intro ct1 hd_ct1
  show own_G p.tables e below _ (T34.setTop (mkF m 191 #[iv p1, iv p2, iv p3, iv (0 : Int32), rv b2, iv x0, iv x1, iv x2, iv x3, rv b20, iv kk0, iv kk1, iv kk2, iv kk3, iv ct0, .unset, .unset, .unset, .unset, .unset, .unset, .unset] [(.int ct1)]))
  refine own_step (fun t k => XS.istore X34.here hx rfl (hb hby at_191) rfl (l' := #[iv p1, iv p2, iv p3, iv (0 : Int32), rv b2, iv x0, iv x1, iv x2, iv x3, rv b20, iv kk0, iv kk1, iv kk2, iv kk3, iv ct0, iv ct1, .unset, .unset, .unset, .unset, .unset, .unset]) rfl k) ?_
  refine own_step (fun t k => XS.iconst X34.here hx rfl (hb hby at_193) k) ?_
  obtain ⟨T36, h36, k36, X36, e36, E36, A36, B36, st36⟩ := newPE X34 hx hZ (hw _ (List.mem_of_getElem? (i := 0) rfl)) e34 (g := (mkF m 194 #[iv p1, iv p2, iv p3, iv (0 : Int32), rv b2, iv x0, iv x1, iv x2, iv x3, rv b20, iv kk0, iv kk1, iv kk2, iv kk3, iv ct0, iv ct1, .unset, .unset, .unset, .unset, .unset, .unset] [(.int (4 : Int32))])) rfl (hb hby at_194) rfl (by decide) (cap := 4) (by decide) (by decide) (by decide) (by decide) (ad := "[I") (by decide)
  obtain ⟨b36, g36⟩ : ∃ z, z = h20.size := ⟨_, rfl⟩
  have ne37 : b2 ≠ b36 := Nat.ne_of_lt (Nat.lt_of_lt_of_le c22.lt (Nat.le_of_eq g36.symm))
  have ne38 : b20 ≠ b36 := Nat.ne_of_lt (Nat.lt_of_lt_of_le c23.lt (Nat.le_of_eq g36.symm))
  have sz36 : h0.size ≤ b36 := Nat.le_trans K20.1 (Nat.le_of_eq g36.symm)
  have ge36 : n0 ≤ b36 := Nat.le_trans Z0 sz36
  have c39 : own_Ari Z h36 b2 .int [kv0, kv1, kv2, kv3] := c22.ext E36
  have c40 : own_Ari Z h36 b20 .int [] := c23.ext E36
  have K36 : Keep h0 h36 [] := K20.ext E36
  rw [← g36] at A36 B36 st36
  have c41 : own_Ari Z h36 b36 .int [(0 : Int32), (0 : Int32), (0 : Int32), (0 : Int32)] := own_Ari_new (ty := .int) A36 (by decide) rfl
  refine own_step st36 ?_
  refine own_step (fun t k => XS.astore X36.here hx rfl (hb hby at_196) rfl rfl (l' := #[iv p1, iv p2, iv p3, iv (0 : Int32), rv b2, iv x0, iv x1, iv x2, iv x3, rv b20, iv kk0, iv kk1, iv kk2, iv kk3, iv ct0, iv ct1, rv b36, .unset, .unset, .unset, .unset, .unset]) rfl k) ?_
  clear A36 E36 K20 N32 N34q X32 X34 c22 c23 e32 e34 g36 st34 st36
  show own_G p.tables e below _ (T36.setTop (mkF m 198 #[iv p1, iv p2, iv p3, iv (0 : Int32), rv b2, iv x0, iv x1, iv x2, iv x3, rv b20, iv kk0, iv kk1, iv kk2, iv kk3, iv ct0, iv ct1, rv b36, .unset, .unset, .unset, .unset, .unset] []))
  refine own_step (fun t k => XS.aload X36.here hx rfl (hb hby at_198) rfl rfl k) ?_
  refine own_step (fun t k => XS.aload X36.here hx rfl (hb hby at_200) rfl rfl k) ?_
  refine own_step (fun t k => XS.aload X36.here hx rfl (hb hby at_202) rfl rfl k) ?_
  obtain ⟨_, _, ⟨T42, L42, k42, n42⟩, -, X42, ⟨Lc42, hQ42, l42, y42, z42⟩, st42⟩ := Jvm.LawKit.callS X36 hx (y := (⟨"com/example/stevedore/stevedore/MoveGraph", "grouped", "([I[I[I)[I"⟩ : MethodName)) hown (mvT hZ (hw _ (List.mem_of_getElem? (i := 8) rfl))) (mvT hZ (hw _ (List.mem_of_getElem? (i := 9) rfl))) (mvT hZ (hw _ (List.mem_of_getElem? (i := 10) rfl))) (mvT hZ (hw _ (List.mem_of_getElem? (i := 11) rfl))) (by decide) (backOf (W := 0) (rm3_n0 l Z a0 hw [] b20 b2 b36 kv0 kv1 kv2 kv3 h36 n0 (Nat.le_trans Z0 K36.1) c40 c39 c41 B36 ge36 ne38 ne37) hZ (hw _ (List.mem_of_getElem? (i := 11) rfl)) (hw _ (List.mem_of_getElem? (i := 10) rfl)) (by decide) (by decide)) (g := (mkF m 204 #[iv p1, iv p2, iv p3, iv (0 : Int32), rv b2, iv x0, iv x1, iv x2, iv x3, rv b20, iv kk0, iv kk1, iv kk2, iv kk3, iv ct0, iv ct1, rv b36, .unset, .unset, .unset, .unset, .unset] [(.ref b36), (.ref b2), (.ref b20)])) rfl (by rw [hml]; rfl) (argsL := [(.ref b20), (.ref b2), (.ref b36)]) (rest := []) (lenOf pd_0_1 rfl) rfl (by show 2 * 0 + _ ≤ _; exact Nat.le_of_eq rfl) (hb hby at_204) (fun _ _ => ⟨rfl, e36, (by decide : 3 + 2 ≤ _), (by decide : 8 + 4 ≤ _)⟩)
  dsimp only [Pt.U, Pt.locs, Pt.cells, Pt.slots] at X42 l42 y42 z42 st42 hQ42
  subst y42 z42
  obtain ⟨bx42_rb, rfl, N42q, K42q, w42_0, w42_1, sx42_0⟩ := hQ42
  have c43 : own_Ari Z T42.heap b2 .int [kv0, kv1, kv2, kv3] := c39.keep K42q (ninS ne37 nin0)
  have c44 : own_Ari Z T42.heap b20 .int [] := c40.keep K42q (ninS ne38 nin0)
  have c45 : Exa Z T42.heap b36 "[I" := B36.keep K42q
  have sz42_0 : h0.size ≤ bx42_rb := Nat.le_trans K36.1 sx42_0
  have ge42_0 : n0 ≤ bx42_rb := Nat.le_trans Z0 sz42_0
  have ne47 : b2 ≠ bx42_rb := Nat.ne_of_lt (Nat.lt_of_lt_of_le c39.lt sx42_0)
  have ne48 : b20 ≠ bx42_rb := Nat.ne_of_lt (Nat.lt_of_lt_of_le c40.lt sx42_0)
  have ne49 : b36 ≠ bx42_rb := Nat.ne_of_lt (Nat.lt_of_lt_of_le B36.lt sx42_0)
  have K42 : Keep h0 T42.heap [] := K36.trans K42q (allS (Or.inr sz36) all0)
  have N42 : Fr n0 L42 := by rw [l42]; exact Fr.app N34 N42q
  refine own_step st42 ?_
  clear B36 K36 K42q N34 N42q X36 c39 c40 c41 e36 st42 sx42_0
  show own_G p.tables e below _ (T42.setTop (mkF m 207 #[iv p1, iv p2, iv p3, iv (0 : Int32), rv b2, iv x0, iv x1, iv x2, iv x3, rv b20, iv kk0, iv kk1, iv kk2, iv kk3, iv ct0, iv ct1, rv b36, .unset, .unset, .unset, .unset, .unset] [(.ref bx42_rb)]))
  refine own_step (fun t k => XS.astore X42.here hx rfl (hb hby at_207) rfl rfl (l' := #[iv p1, iv p2, iv p3, iv (0 : Int32), rv b2, iv x0, iv x1, iv x2, iv x3, rv b20, iv kk0, iv kk1, iv kk2, iv kk3, iv ct0, iv ct1, rv b36, rv bx42_rb, .unset, .unset, .unset, .unset]) rfl k) ?_
  refine own_step (fun t k => XS.aload X42.here hx rfl (hb hby at_209) rfl rfl k) ?_
  refine own_step (own_lenI X42 hx hZ rfl w42_1 (g := (mkF m 211 #[iv p1, iv p2, iv p3, iv (0 : Int32), rv b2, iv x0, iv x1, iv x2, iv x3, rv b20, iv kk0, iv kk1, iv kk2, iv kk3, iv ct0, iv ct1, rv b36, rv bx42_rb, .unset, .unset, .unset, .unset] [(.ref bx42_rb)])) rfl rfl (hb hby at_211)) ?_
  refine own_step (fun t k => XS.iloadN X42.here hx rfl (hb hby at_212) rfl k) ?_
  show own_G p.tables e below _ (T42.setTop (mkF m 213 #[iv p1, iv p2, iv p3, iv (0 : Int32), rv b2, iv x0, iv x1, iv x2, iv x3, rv b20, iv kk0, iv kk1, iv kk2, iv kk3, iv ct0, iv ct1, rv b36, rv bx42_rb, .unset, .unset, .unset, .unset] [(.int (0 : Int32)), (.int (0 : Int32))]))
  have hk50 : (0 : Int32) = (0 : Int32) := rfl
  refine own_step (fun t k => XS.icmpYes X42.here hx rfl (pc0 := 213) (pc' := 218) rfl (hb hby at_213) rfl ((teq hk50).1) (by decide) (by decide) k) ?_
  show own_G p.tables e below _ (T42.setTop (mkF m 218 #[iv p1, iv p2, iv p3, iv (0 : Int32), rv b2, iv x0, iv x1, iv x2, iv x3, rv b20, iv kk0, iv kk1, iv kk2, iv kk3, iv ct0, iv ct1, rv b36, rv bx42_rb, .unset, .unset, .unset, .unset] []))
  refine own_step (fun t k => XS.aload X42.here hx rfl (hb hby at_218) rfl rfl k) ?_
  refine own_step (fun t k => XS.iconst X42.here hx rfl (hb hby at_220) k) ?_
  refine own_step (own_iaload X42 hx hZ rfl w42_0 (own_inb (by decide) (by rw [own_s0_len]; decide)) (g := (mkF m 221 #[iv p1, iv p2, iv p3, iv (0 : Int32), rv b2, iv x0, iv x1, iv x2, iv x3, rv b20, iv kk0, iv kk1, iv kk2, iv kk3, iv ct0, iv ct1, rv b36, rv bx42_rb, .unset, .unset, .unset, .unset] [(.int (0 : Int32)), (.ref b36)])) rfl rfl (hb hby at_221)) ?_
  have hk51 : ((own_s0).getD 0 0) = (0 : Int32) := own_a0 (kk0 := kk0) (kk1 := kk1) (kk2 := kk2) (kk3 := kk3) (ct0 := ct0) (ct1 := ct1)  hd_ct0 hd_ct1
  refine own_step (fun t k => XS.ifNo X42.here hx rfl (hb hby at_222) rfl ((if0 _ _).trans (teq hk51).2) k) ?_
  show own_G p.tables e below _ (T42.setTop (mkF m 225 #[iv p1, iv p2, iv p3, iv (0 : Int32), rv b2, iv x0, iv x1, iv x2, iv x3, rv b20, iv kk0, iv kk1, iv kk2, iv kk3, iv ct0, iv ct1, rv b36, rv bx42_rb, .unset, .unset, .unset, .unset] []))
  refine own_step (fun t k => XS.aload X42.here hx rfl (hb hby at_225) rfl rfl k) ?_
  refine own_step (fun t k => XS.iconst X42.here hx rfl (hb hby at_227) k) ?_
  refine own_step (own_iaload X42 hx hZ rfl w42_0 (own_inb (by decide) (by rw [own_s0_len]; decide)) (g := (mkF m 228 #[iv p1, iv p2, iv p3, iv (0 : Int32), rv b2, iv x0, iv x1, iv x2, iv x3, rv b20, iv kk0, iv kk1, iv kk2, iv kk3, iv ct0, iv ct1, rv b36, rv bx42_rb, .unset, .unset, .unset, .unset] [(.int (1 : Int32)), (.ref b36)])) rfl rfl (hb hby at_228)) ?_
  refine own_step (fun t k => XS.iload X42.here hx rfl (hb hby at_229) rfl k) ?_
  show own_G p.tables e below _ (T42.setTop (mkF m 231 #[iv p1, iv p2, iv p3, iv (0 : Int32), rv b2, iv x0, iv x1, iv x2, iv x3, rv b20, iv kk0, iv kk1, iv kk2, iv kk3, iv ct0, iv ct1, rv b36, rv bx42_rb, .unset, .unset, .unset, .unset] [(.int ct0), (.int ((own_s0).getD 1 0))]))
  have hk52 : ((own_s0).getD 1 0) = ct0 := own_b0 (kk0 := kk0) (kk1 := kk1) (kk2 := kk2) (kk3 := kk3) (ct0 := ct0) (ct1 := ct1)  hd_ct0 hd_ct1
  refine own_step (fun t k => XS.icmpNo X42.here hx rfl (hb hby at_231) rfl ((teq hk52).2) k) ?_
  show own_G p.tables e below _ (T42.setTop (mkF m 234 #[iv p1, iv p2, iv p3, iv (0 : Int32), rv b2, iv x0, iv x1, iv x2, iv x3, rv b20, iv kk0, iv kk1, iv kk2, iv kk3, iv ct0, iv ct1, rv b36, rv bx42_rb, .unset, .unset, .unset, .unset] []))
  refine own_step (fun t k => XS.aload X42.here hx rfl (hb hby at_234) rfl rfl k) ?_
  refine own_step (fun t k => XS.iconst X42.here hx rfl (hb hby at_236) k) ?_
  refine own_step (own_iaload X42 hx hZ rfl w42_0 (own_inb (by decide) (by rw [own_s0_len]; decide)) (g := (mkF m 237 #[iv p1, iv p2, iv p3, iv (0 : Int32), rv b2, iv x0, iv x1, iv x2, iv x3, rv b20, iv kk0, iv kk1, iv kk2, iv kk3, iv ct0, iv ct1, rv b36, rv bx42_rb, .unset, .unset, .unset, .unset] [(.int (2 : Int32)), (.ref b36)])) rfl rfl (hb hby at_237)) ?_
  refine own_step (fun t k => XS.iload X42.here hx rfl (hb hby at_238) rfl k) ?_
  show own_G p.tables e below _ (T42.setTop (mkF m 240 #[iv p1, iv p2, iv p3, iv (0 : Int32), rv b2, iv x0, iv x1, iv x2, iv x3, rv b20, iv kk0, iv kk1, iv kk2, iv kk3, iv ct0, iv ct1, rv b36, rv bx42_rb, .unset, .unset, .unset, .unset] [(.int ct0), (.int ((own_s0).getD 2 0))]))
  refine own_step (fun t k => XS.iload X42.here hx rfl (hb hby at_240) rfl k) ?_
  refine own_step (fun t k => XS.iadd X42.here hx rfl (hb hby at_242) rfl k) ?_
  have hk53 : ((own_s0).getD 2 0) = (ct0 + ct1) := own_c0 (kk0 := kk0) (kk1 := kk1) (kk2 := kk2) (kk3 := kk3) (ct0 := ct0) (ct1 := ct1)  hd_ct0 hd_ct1
  refine own_step (fun t k => XS.icmpNo X42.here hx rfl (hb hby at_243) rfl ((teq hk53).2) k) ?_
  show own_G p.tables e below _ (T42.setTop (mkF m 246 #[iv p1, iv p2, iv p3, iv (0 : Int32), rv b2, iv x0, iv x1, iv x2, iv x3, rv b20, iv kk0, iv kk1, iv kk2, iv kk3, iv ct0, iv ct1, rv b36, rv bx42_rb, .unset, .unset, .unset, .unset] []))
  refine own_step (fun t k => XS.aload X42.here hx rfl (hb hby at_246) rfl rfl k) ?_
  refine own_step (fun t k => XS.iconst X42.here hx rfl (hb hby at_248) k) ?_
  refine own_step (own_iaload X42 hx hZ rfl w42_0 (own_inb (by decide) (by rw [own_s0_len]; decide)) (g := (mkF m 249 #[iv p1, iv p2, iv p3, iv (0 : Int32), rv b2, iv x0, iv x1, iv x2, iv x3, rv b20, iv kk0, iv kk1, iv kk2, iv kk3, iv ct0, iv ct1, rv b36, rv bx42_rb, .unset, .unset, .unset, .unset] [(.int (3 : Int32)), (.ref b36)])) rfl rfl (hb hby at_249)) ?_
  refine own_step (fun t k => XS.iloadN X42.here hx rfl (hb hby at_250) rfl k) ?_
  show own_G p.tables e below _ (T42.setTop (mkF m 251 #[iv p1, iv p2, iv p3, iv (0 : Int32), rv b2, iv x0, iv x1, iv x2, iv x3, rv b20, iv kk0, iv kk1, iv kk2, iv kk3, iv ct0, iv ct1, rv b36, rv bx42_rb, .unset, .unset, .unset, .unset] [(.int (0 : Int32)), (.int ((own_s0).getD 3 0))]))
  have hk54 : ((own_s0).getD 3 0) = (0 : Int32) := own_d0 (kk0 := kk0) (kk1 := kk1) (kk2 := kk2) (kk3 := kk3) (ct0 := ct0) (ct1 := ct1)  hd_ct0 hd_ct1
  refine own_step (fun t k => XS.icmpYes X42.here hx rfl (pc0 := 251) (pc' := 256) rfl (hb hby at_251) rfl ((teq hk54).1) (by decide) (by decide) k) ?_
  show own_G p.tables e below _ (T42.setTop (mkF m 256 #[iv p1, iv p2, iv p3, iv (0 : Int32), rv b2, iv x0, iv x1, iv x2, iv x3, rv b20, iv kk0, iv kk1, iv kk2, iv kk3, iv ct0, iv ct1, rv b36, rv bx42_rb, .unset, .unset, .unset, .unset] []))
  refine own_step (fun t k => XS.iload X42.here hx rfl (hb hby at_256) rfl k) ?_
  refine own_step (fun t k => XS.iload X42.here hx rfl (hb hby at_258) rfl k) ?_
  refine own_step (fun t k => XS.iload X42.here hx rfl (hb hby at_260) rfl k) ?_
  refine own_step (fun t k => XS.iloadN X42.here hx rfl (hb hby at_262) rfl k) ?_
  show own_G p.tables e below _ (T42.setTop (mkF m 263 #[iv p1, iv p2, iv p3, iv (0 : Int32), rv b2, iv x0, iv x1, iv x2, iv x3, rv b20, iv kk0, iv kk1, iv kk2, iv kk3, iv ct0, iv ct1, rv b36, rv bx42_rb, .unset, .unset, .unset, .unset] [(.int (0 : Int32)), (.int ct1), (.int ct0), (.int kk0)]))
  obtain ⟨_, _, ⟨T55, L55, k55, n55⟩, -, X55, ⟨Lc55, hQ55, l55, y55, z55⟩, st55⟩ := Jvm.LawKit.callS X42 hx (y := (⟨"com/example/stevedore/stevedore/MoveGraphGroupedPinLaw", "se", "(IIII)I"⟩ : MethodName)) hown (mvT hZ (hw _ (List.mem_of_getElem? (i := 21) rfl))) (mvT hZ (hw _ (List.mem_of_getElem? (i := 22) rfl))) (mvT hZ (hw _ (List.mem_of_getElem? (i := 3) rfl))) (mvT hZ (hw _ (List.mem_of_getElem? (i := 23) rfl))) (by decide) (backOf (W := 0) (rm4 l Z a0 hw [] kk0 ct0 ct1 (0 : Int32) T42.heap n0 (Nat.le_trans Z0 K42.1) ) hZ (hw _ (List.mem_of_getElem? (i := 23) rfl)) (hw _ (List.mem_of_getElem? (i := 3) rfl)) (by decide) (by decide)) (g := (mkF m 263 #[iv p1, iv p2, iv p3, iv (0 : Int32), rv b2, iv x0, iv x1, iv x2, iv x3, rv b20, iv kk0, iv kk1, iv kk2, iv kk3, iv ct0, iv ct1, rv b36, rv bx42_rb, .unset, .unset, .unset, .unset] [(.int (0 : Int32)), (.int ct1), (.int ct0), (.int kk0)])) rfl (by rw [hml]; rfl) (argsL := [(.int kk0), (.int ct0), (.int ct1), (.int (0 : Int32))]) (rest := []) (lenOf pd_0_2 rfl) rfl (by show 2 * 0 + _ ≤ _; exact Nat.le_of_eq rfl) (hb hby at_263) (fun _ _ => ⟨rfl, rfl, (by decide : 5 + 0 ≤ _), (by decide : 12 + 0 ≤ _)⟩)
  dsimp only [Pt.U, Pt.locs, Pt.cells, Pt.slots] at X55 l55 y55 z55 st55 hQ55
  subst y55 z55
  obtain ⟨rfl, N55q, e55⟩ := hQ55
  have N55 : Fr n0 L55 := by rw [l55]; exact Fr.app N42 N55q
  refine own_step st55 ?_
  refine own_nm ((own_f4 kk0 ct0 ct1 (0 : Int32)) : Int32) (fun pp0 => T55.setTop (mkF m 266 #[iv p1, iv p2, iv p3, iv (0 : Int32), rv b2, iv x0, iv x1, iv x2, iv x3, rv b20, iv kk0, iv kk1, iv kk2, iv kk3, iv ct0, iv ct1, rv b36, rv bx42_rb, .unset, .unset, .unset, .unset] [(.int pp0)])) ?_
  intro pp0 hd_pp0
  show own_G p.tables e below _ (T55.setTop (mkF m 266 #[iv p1, iv p2, iv p3, iv (0 : Int32), rv b2, iv x0, iv x1, iv x2, iv x3, rv b20, iv kk0, iv kk1, iv kk2, iv kk3, iv ct0, iv ct1, rv b36, rv bx42_rb, .unset, .unset, .unset, .unset] [(.int pp0)]))
  refine own_step (fun t k => XS.istore X55.here hx rfl (hb hby at_266) rfl (l' := #[iv p1, iv p2, iv p3, iv (0 : Int32), rv b2, iv x0, iv x1, iv x2, iv x3, rv b20, iv kk0, iv kk1, iv kk2, iv kk3, iv ct0, iv ct1, rv b36, rv bx42_rb, iv pp0, .unset, .unset, .unset]) rfl k) ?_
  refine own_step (fun t k => XS.iload X55.here hx rfl (hb hby at_268) rfl k) ?_
  refine own_step (fun t k => XS.iload X55.here hx rfl (hb hby at_270) rfl k) ?_
  refine own_step (fun t k => XS.iload X55.here hx rfl (hb hby at_272) rfl k) ?_
  show own_G p.tables e below _ (T55.setTop (mkF m 274 #[iv p1, iv p2, iv p3, iv (0 : Int32), rv b2, iv x0, iv x1, iv x2, iv x3, rv b20, iv kk0, iv kk1, iv kk2, iv kk3, iv ct0, iv ct1, rv b36, rv bx42_rb, iv pp0, .unset, .unset, .unset] [(.int ct1), (.int ct0), (.int kk1)]))
  refine own_step (fun t k => XS.iloadN X55.here hx rfl (hb hby at_274) rfl k) ?_
  obtain ⟨_, _, ⟨T57, L57, k57, n57⟩, -, X57, ⟨Lc57, hQ57, l57, y57, z57⟩, st57⟩ := Jvm.LawKit.callS X55 hx (y := (⟨"com/example/stevedore/stevedore/MoveGraphGroupedPinLaw", "se", "(IIII)I"⟩ : MethodName)) hown (mvT hZ (hw _ (List.mem_of_getElem? (i := 21) rfl))) (mvT hZ (hw _ (List.mem_of_getElem? (i := 22) rfl))) (mvT hZ (hw _ (List.mem_of_getElem? (i := 3) rfl))) (mvT hZ (hw _ (List.mem_of_getElem? (i := 23) rfl))) (by decide) (backOf (W := 0) (rm4 l Z a0 hw [] kk1 ct0 ct1 (0 : Int32) T42.heap n0 (Nat.le_trans Z0 K42.1) ) hZ (hw _ (List.mem_of_getElem? (i := 23) rfl)) (hw _ (List.mem_of_getElem? (i := 3) rfl)) (by decide) (by decide)) (g := (mkF m 275 #[iv p1, iv p2, iv p3, iv (0 : Int32), rv b2, iv x0, iv x1, iv x2, iv x3, rv b20, iv kk0, iv kk1, iv kk2, iv kk3, iv ct0, iv ct1, rv b36, rv bx42_rb, iv pp0, .unset, .unset, .unset] [(.int (0 : Int32)), (.int ct1), (.int ct0), (.int kk1)])) rfl (by rw [hml]; rfl) (argsL := [(.int kk1), (.int ct0), (.int ct1), (.int (0 : Int32))]) (rest := []) (lenOf pd_0_2 rfl) rfl (by show 2 * 0 + _ ≤ _; exact Nat.le_of_eq rfl) (hb hby at_275) (fun _ _ => ⟨rfl, e55, (by decide : 5 + 0 ≤ _), (by decide : 12 + 0 ≤ _)⟩)
  dsimp only [Pt.U, Pt.locs, Pt.cells, Pt.slots] at X57 l57 y57 z57 st57 hQ57
  subst y57 z57
  obtain ⟨rfl, N57q, e57⟩ := hQ57
  have N57 : Fr n0 L57 := by rw [l57]; exact Fr.app N55 N57q
  refine own_step st57 ?_
  refine own_step (fun t k => XS.iload X57.here hx rfl (hb hby at_278) rfl k) ?_
  refine own_step (fun t k => XS.iload X57.here hx rfl (hb hby at_280) rfl k) ?_
  clear N42 N55 N55q N57q X42 X55 e55 hk50 hk51 hk52 hk53 hk54 st55 st57
  show own_G p.tables e below _ (T57.setTop (mkF m 282 #[iv p1, iv p2, iv p3, iv (0 : Int32), rv b2, iv x0, iv x1, iv x2, iv x3, rv b20, iv kk0, iv kk1, iv kk2, iv kk3, iv ct0, iv ct1, rv b36, rv bx42_rb, iv pp0, .unset, .unset, .unset] [(.int kk1), (.int kk0), (.int (own_f4 kk1 ct0 ct1 (0 : Int32)))]))
  refine own_imp (B := T57.setTop (mkF m 290 #[iv p1, iv p2, iv p3, iv (0 : Int32), rv b2, iv x0, iv x1, iv x2, iv x3, rv b20, iv kk0, iv kk1, iv kk2, iv kk3, iv ct0, iv ct1, rv b36, rv bx42_rb, iv pp0, .unset, .unset, .unset] [(.int (if kk0 = kk1 then (1 : Int32) else (0 : Int32))), (.int (own_f4 kk1 ct0 ct1 (0 : Int32)))])) (fun k0 => ?_) ?_
  · by_cases hc58 : kk0 = kk1
    · simp only [if_pos hc58] at k0
      refine own_step (fun t k => XS.icmpNo X57.here hx rfl (hb hby at_282) rfl ((teq hc58).2) k) ?_
      show own_G p.tables e below _ (T57.setTop (mkF m 285 #[iv p1, iv p2, iv p3, iv (0 : Int32), rv b2, iv x0, iv x1, iv x2, iv x3, rv b20, iv kk0, iv kk1, iv kk2, iv kk3, iv ct0, iv ct1, rv b36, rv bx42_rb, iv pp0, .unset, .unset, .unset] [(.int (own_f4 kk1 ct0 ct1 (0 : Int32)))]))
      refine own_step (fun t k => XS.iconst X57.here hx rfl (hb hby at_285) k) ?_
      refine own_step (fun t k => XS.goto X57.here hx rfl (pc0 := 286) (pc' := 290) rfl (hb hby at_286) (by decide) (by decide) k) ?_
      exact k0
    · simp only [if_neg hc58] at k0
      refine own_step (fun t k => XS.icmpYes X57.here hx rfl (pc0 := 282) (pc' := 289) rfl (hb hby at_282) rfl ((feq hc58).2) (by decide) (by decide) k) ?_
      show own_G p.tables e below _ (T57.setTop (mkF m 289 #[iv p1, iv p2, iv p3, iv (0 : Int32), rv b2, iv x0, iv x1, iv x2, iv x3, rv b20, iv kk0, iv kk1, iv kk2, iv kk3, iv ct0, iv ct1, rv b36, rv bx42_rb, iv pp0, .unset, .unset, .unset] [(.int (own_f4 kk1 ct0 ct1 (0 : Int32)))]))
      refine own_step (fun t k => XS.iconst X57.here hx rfl (hb hby at_289) k) ?_
      exact k0
  show own_G p.tables e below _ (T57.setTop (mkF m 290 #[iv p1, iv p2, iv p3, iv (0 : Int32), rv b2, iv x0, iv x1, iv x2, iv x3, rv b20, iv kk0, iv kk1, iv kk2, iv kk3, iv ct0, iv ct1, rv b36, rv bx42_rb, iv pp0, .unset, .unset, .unset] [(.int (if kk0 = kk1 then (1 : Int32) else (0 : Int32))), (.int (own_f4 kk1 ct0 ct1 (0 : Int32)))]))
  obtain ⟨_, _, ⟨T59, L59, k59, n59⟩, -, X59, ⟨Lc59, hQ59, l59, y59, z59⟩, st59⟩ := Jvm.LawKit.callS X57 hx (y := (⟨"com/example/stevedore/stevedore/MoveGraphGroupedPinLaw", "one", "(Z)I"⟩ : MethodName)) hown (mvT hZ (hw _ (List.mem_of_getElem? (i := 5) rfl))) (mvT hZ (hw _ (List.mem_of_getElem? (i := 6) rfl))) (mvT hZ (hw _ (List.mem_of_getElem? (i := 3) rfl))) (mvT hZ (hw _ (List.mem_of_getElem? (i := 7) rfl))) (by decide) (backOf (W := 1) (rm2 l Z a0 hw [] (if kk0 = kk1 then (1 : Int32) else (0 : Int32)) T42.heap n0 (Nat.le_trans Z0 K42.1) ) hZ (hw _ (List.mem_of_getElem? (i := 7) rfl)) (hw _ (List.mem_of_getElem? (i := 3) rfl)) (by decide) (by decide)) (g := (mkF m 290 #[iv p1, iv p2, iv p3, iv (0 : Int32), rv b2, iv x0, iv x1, iv x2, iv x3, rv b20, iv kk0, iv kk1, iv kk2, iv kk3, iv ct0, iv ct1, rv b36, rv bx42_rb, iv pp0, .unset, .unset, .unset] [(.int (if kk0 = kk1 then (1 : Int32) else (0 : Int32))), (.int (own_f4 kk1 ct0 ct1 (0 : Int32)))])) rfl (by rw [hml]; rfl) (argsL := [(.int (if kk0 = kk1 then (1 : Int32) else (0 : Int32)))]) (rest := [(.int (own_f4 kk1 ct0 ct1 (0 : Int32)))]) (lenOf pd_0_3 rfl) rfl (by show 2 * 0 + _ ≤ _; exact Nat.le_of_eq rfl) (hb hby at_290) (fun _ _ => ⟨rfl, e57, (by decide : 5 + 0 ≤ _), (by decide : 12 + 0 ≤ _)⟩)
  dsimp only [Pt.U, Pt.locs, Pt.cells, Pt.slots] at X59 l59 y59 z59 st59 hQ59
  subst y59 z59
  obtain ⟨rfl, N59q, e59⟩ := hQ59
  have N59 : Fr n0 L59 := by rw [l59]; exact Fr.app N57 N59q
  refine own_step st59 ?_
  refine own_step (fun t k => XS.iadd X59.here hx rfl (hb hby at_293) rfl k) ?_
  refine own_nm (((own_f4 kk1 ct0 ct1 (0 : Int32)) + (own_f2 (if kk0 = kk1 then (1 : Int32) else (0 : Int32)))) : Int32) (fun pp1 => T59.setTop (mkF m 294 #[iv p1, iv p2, iv p3, iv (0 : Int32), rv b2, iv x0, iv x1, iv x2, iv x3, rv b20, iv kk0, iv kk1, iv kk2, iv kk3, iv ct0, iv ct1, rv b36, rv bx42_rb, iv pp0, .unset, .unset, .unset] [(.int pp1)])) ?_
  intro pp1 hd_pp1
  show own_G p.tables e below _ (T59.setTop (mkF m 294 #[iv p1, iv p2, iv p3, iv (0 : Int32), rv b2, iv x0, iv x1, iv x2, iv x3, rv b20, iv kk0, iv kk1, iv kk2, iv kk3, iv ct0, iv ct1, rv b36, rv bx42_rb, iv pp0, .unset, .unset, .unset] [(.int pp1)]))
  refine own_step (fun t k => XS.istore X59.here hx rfl (hb hby at_294) rfl (l' := #[iv p1, iv p2, iv p3, iv (0 : Int32), rv b2, iv x0, iv x1, iv x2, iv x3, rv b20, iv kk0, iv kk1, iv kk2, iv kk3, iv ct0, iv ct1, rv b36, rv bx42_rb, iv pp0, iv pp1, .unset, .unset]) rfl k) ?_
  refine own_step (fun t k => XS.iload X59.here hx rfl (hb hby at_296) rfl k) ?_
  refine own_step (fun t k => XS.iload X59.here hx rfl (hb hby at_298) rfl k) ?_
  refine own_step (fun t k => XS.iload X59.here hx rfl (hb hby at_300) rfl k) ?_
  show own_G p.tables e below _ (T59.setTop (mkF m 302 #[iv p1, iv p2, iv p3, iv (0 : Int32), rv b2, iv x0, iv x1, iv x2, iv x3, rv b20, iv kk0, iv kk1, iv kk2, iv kk3, iv ct0, iv ct1, rv b36, rv bx42_rb, iv pp0, iv pp1, .unset, .unset] [(.int ct1), (.int ct0), (.int kk2)]))
  refine own_step (fun t k => XS.iloadN X59.here hx rfl (hb hby at_302) rfl k) ?_
  obtain ⟨_, _, ⟨T61, L61, k61, n61⟩, -, X61, ⟨Lc61, hQ61, l61, y61, z61⟩, st61⟩ := Jvm.LawKit.callS X59 hx (y := (⟨"com/example/stevedore/stevedore/MoveGraphGroupedPinLaw", "se", "(IIII)I"⟩ : MethodName)) hown (mvT hZ (hw _ (List.mem_of_getElem? (i := 21) rfl))) (mvT hZ (hw _ (List.mem_of_getElem? (i := 22) rfl))) (mvT hZ (hw _ (List.mem_of_getElem? (i := 3) rfl))) (mvT hZ (hw _ (List.mem_of_getElem? (i := 23) rfl))) (by decide) (backOf (W := 0) (rm4 l Z a0 hw [] kk2 ct0 ct1 (0 : Int32) T42.heap n0 (Nat.le_trans Z0 K42.1) ) hZ (hw _ (List.mem_of_getElem? (i := 23) rfl)) (hw _ (List.mem_of_getElem? (i := 3) rfl)) (by decide) (by decide)) (g := (mkF m 303 #[iv p1, iv p2, iv p3, iv (0 : Int32), rv b2, iv x0, iv x1, iv x2, iv x3, rv b20, iv kk0, iv kk1, iv kk2, iv kk3, iv ct0, iv ct1, rv b36, rv bx42_rb, iv pp0, iv pp1, .unset, .unset] [(.int (0 : Int32)), (.int ct1), (.int ct0), (.int kk2)])) rfl (by rw [hml]; rfl) (argsL := [(.int kk2), (.int ct0), (.int ct1), (.int (0 : Int32))]) (rest := []) (lenOf pd_0_2 rfl) rfl (by show 2 * 0 + _ ≤ _; exact Nat.le_of_eq rfl) (hb hby at_303) (fun _ _ => ⟨rfl, e59, (by decide : 5 + 0 ≤ _), (by decide : 12 + 0 ≤ _)⟩)
  dsimp only [Pt.U, Pt.locs, Pt.cells, Pt.slots] at X61 l61 y61 z61 st61 hQ61
  subst y61 z61
  obtain ⟨rfl, N61q, e61⟩ := hQ61
  have N61 : Fr n0 L61 := by rw [l61]; exact Fr.app N59 N61q
  refine own_step st61 ?_
  refine own_step (fun t k => XS.iload X61.here hx rfl (hb hby at_306) rfl k) ?_
  refine own_step (fun t k => XS.iload X61.here hx rfl (hb hby at_308) rfl k) ?_
  clear N57 N59 N59q N61q X57 X59 e57 e59 st59 st61
  show own_G p.tables e below _ (T61.setTop (mkF m 310 #[iv p1, iv p2, iv p3, iv (0 : Int32), rv b2, iv x0, iv x1, iv x2, iv x3, rv b20, iv kk0, iv kk1, iv kk2, iv kk3, iv ct0, iv ct1, rv b36, rv bx42_rb, iv pp0, iv pp1, .unset, .unset] [(.int kk2), (.int kk0), (.int (own_f4 kk2 ct0 ct1 (0 : Int32)))]))
  refine own_imp (B := T61.setTop (mkF m 318 #[iv p1, iv p2, iv p3, iv (0 : Int32), rv b2, iv x0, iv x1, iv x2, iv x3, rv b20, iv kk0, iv kk1, iv kk2, iv kk3, iv ct0, iv ct1, rv b36, rv bx42_rb, iv pp0, iv pp1, .unset, .unset] [(.int (if kk0 = kk2 then (1 : Int32) else (0 : Int32))), (.int (own_f4 kk2 ct0 ct1 (0 : Int32)))])) (fun k0 => ?_) ?_
  · by_cases hc62 : kk0 = kk2
    · simp only [if_pos hc62] at k0
      refine own_step (fun t k => XS.icmpNo X61.here hx rfl (hb hby at_310) rfl ((teq hc62).2) k) ?_
      show own_G p.tables e below _ (T61.setTop (mkF m 313 #[iv p1, iv p2, iv p3, iv (0 : Int32), rv b2, iv x0, iv x1, iv x2, iv x3, rv b20, iv kk0, iv kk1, iv kk2, iv kk3, iv ct0, iv ct1, rv b36, rv bx42_rb, iv pp0, iv pp1, .unset, .unset] [(.int (own_f4 kk2 ct0 ct1 (0 : Int32)))]))
      refine own_step (fun t k => XS.iconst X61.here hx rfl (hb hby at_313) k) ?_
      refine own_step (fun t k => XS.goto X61.here hx rfl (pc0 := 314) (pc' := 318) rfl (hb hby at_314) (by decide) (by decide) k) ?_
      exact k0
    · simp only [if_neg hc62] at k0
      refine own_step (fun t k => XS.icmpYes X61.here hx rfl (pc0 := 310) (pc' := 317) rfl (hb hby at_310) rfl ((feq hc62).2) (by decide) (by decide) k) ?_
      show own_G p.tables e below _ (T61.setTop (mkF m 317 #[iv p1, iv p2, iv p3, iv (0 : Int32), rv b2, iv x0, iv x1, iv x2, iv x3, rv b20, iv kk0, iv kk1, iv kk2, iv kk3, iv ct0, iv ct1, rv b36, rv bx42_rb, iv pp0, iv pp1, .unset, .unset] [(.int (own_f4 kk2 ct0 ct1 (0 : Int32)))]))
      refine own_step (fun t k => XS.iconst X61.here hx rfl (hb hby at_317) k) ?_
      exact k0
  show own_G p.tables e below _ (T61.setTop (mkF m 318 #[iv p1, iv p2, iv p3, iv (0 : Int32), rv b2, iv x0, iv x1, iv x2, iv x3, rv b20, iv kk0, iv kk1, iv kk2, iv kk3, iv ct0, iv ct1, rv b36, rv bx42_rb, iv pp0, iv pp1, .unset, .unset] [(.int (if kk0 = kk2 then (1 : Int32) else (0 : Int32))), (.int (own_f4 kk2 ct0 ct1 (0 : Int32)))]))
  obtain ⟨_, _, ⟨T63, L63, k63, n63⟩, -, X63, ⟨Lc63, hQ63, l63, y63, z63⟩, st63⟩ := Jvm.LawKit.callS X61 hx (y := (⟨"com/example/stevedore/stevedore/MoveGraphGroupedPinLaw", "one", "(Z)I"⟩ : MethodName)) hown (mvT hZ (hw _ (List.mem_of_getElem? (i := 5) rfl))) (mvT hZ (hw _ (List.mem_of_getElem? (i := 6) rfl))) (mvT hZ (hw _ (List.mem_of_getElem? (i := 3) rfl))) (mvT hZ (hw _ (List.mem_of_getElem? (i := 7) rfl))) (by decide) (backOf (W := 1) (rm2 l Z a0 hw [] (if kk0 = kk2 then (1 : Int32) else (0 : Int32)) T42.heap n0 (Nat.le_trans Z0 K42.1) ) hZ (hw _ (List.mem_of_getElem? (i := 7) rfl)) (hw _ (List.mem_of_getElem? (i := 3) rfl)) (by decide) (by decide)) (g := (mkF m 318 #[iv p1, iv p2, iv p3, iv (0 : Int32), rv b2, iv x0, iv x1, iv x2, iv x3, rv b20, iv kk0, iv kk1, iv kk2, iv kk3, iv ct0, iv ct1, rv b36, rv bx42_rb, iv pp0, iv pp1, .unset, .unset] [(.int (if kk0 = kk2 then (1 : Int32) else (0 : Int32))), (.int (own_f4 kk2 ct0 ct1 (0 : Int32)))])) rfl (by rw [hml]; rfl) (argsL := [(.int (if kk0 = kk2 then (1 : Int32) else (0 : Int32)))]) (rest := [(.int (own_f4 kk2 ct0 ct1 (0 : Int32)))]) (lenOf pd_0_3 rfl) rfl (by show 2 * 0 + _ ≤ _; exact Nat.le_of_eq rfl) (hb hby at_318) (fun _ _ => ⟨rfl, e61, (by decide : 5 + 0 ≤ _), (by decide : 12 + 0 ≤ _)⟩)
  dsimp only [Pt.U, Pt.locs, Pt.cells, Pt.slots] at X63 l63 y63 z63 st63 hQ63
  subst y63 z63
  obtain ⟨rfl, N63q, e63⟩ := hQ63
  have N63 : Fr n0 L63 := by rw [l63]; exact Fr.app N61 N63q
  refine own_step st63 ?_
  refine own_step (fun t k => XS.iadd X63.here hx rfl (hb hby at_321) rfl k) ?_
  refine own_step (fun t k => XS.iload X63.here hx rfl (hb hby at_322) rfl k) ?_
  refine own_step (fun t k => XS.iload X63.here hx rfl (hb hby at_324) rfl k) ?_
  show own_G p.tables e below _ (T63.setTop (mkF m 326 #[iv p1, iv p2, iv p3, iv (0 : Int32), rv b2, iv x0, iv x1, iv x2, iv x3, rv b20, iv kk0, iv kk1, iv kk2, iv kk3, iv ct0, iv ct1, rv b36, rv bx42_rb, iv pp0, iv pp1, .unset, .unset] [(.int kk2), (.int kk1), (.int ((own_f4 kk2 ct0 ct1 (0 : Int32)) + (own_f2 (if kk0 = kk2 then (1 : Int32) else (0 : Int32)))))]))
  refine own_imp (B := T63.setTop (mkF m 334 #[iv p1, iv p2, iv p3, iv (0 : Int32), rv b2, iv x0, iv x1, iv x2, iv x3, rv b20, iv kk0, iv kk1, iv kk2, iv kk3, iv ct0, iv ct1, rv b36, rv bx42_rb, iv pp0, iv pp1, .unset, .unset] [(.int (if kk1 = kk2 then (1 : Int32) else (0 : Int32))), (.int ((own_f4 kk2 ct0 ct1 (0 : Int32)) + (own_f2 (if kk0 = kk2 then (1 : Int32) else (0 : Int32)))))])) (fun k0 => ?_) ?_
  · by_cases hc64 : kk1 = kk2
    · simp only [if_pos hc64] at k0
      refine own_step (fun t k => XS.icmpNo X63.here hx rfl (hb hby at_326) rfl ((teq hc64).2) k) ?_
      show own_G p.tables e below _ (T63.setTop (mkF m 329 #[iv p1, iv p2, iv p3, iv (0 : Int32), rv b2, iv x0, iv x1, iv x2, iv x3, rv b20, iv kk0, iv kk1, iv kk2, iv kk3, iv ct0, iv ct1, rv b36, rv bx42_rb, iv pp0, iv pp1, .unset, .unset] [(.int ((own_f4 kk2 ct0 ct1 (0 : Int32)) + (own_f2 (if kk0 = kk2 then (1 : Int32) else (0 : Int32)))))]))
      refine own_step (fun t k => XS.iconst X63.here hx rfl (hb hby at_329) k) ?_
      refine own_step (fun t k => XS.goto X63.here hx rfl (pc0 := 330) (pc' := 334) rfl (hb hby at_330) (by decide) (by decide) k) ?_
      exact k0
    · simp only [if_neg hc64] at k0
      refine own_step (fun t k => XS.icmpYes X63.here hx rfl (pc0 := 326) (pc' := 333) rfl (hb hby at_326) rfl ((feq hc64).2) (by decide) (by decide) k) ?_
      show own_G p.tables e below _ (T63.setTop (mkF m 333 #[iv p1, iv p2, iv p3, iv (0 : Int32), rv b2, iv x0, iv x1, iv x2, iv x3, rv b20, iv kk0, iv kk1, iv kk2, iv kk3, iv ct0, iv ct1, rv b36, rv bx42_rb, iv pp0, iv pp1, .unset, .unset] [(.int ((own_f4 kk2 ct0 ct1 (0 : Int32)) + (own_f2 (if kk0 = kk2 then (1 : Int32) else (0 : Int32)))))]))
      refine own_step (fun t k => XS.iconst X63.here hx rfl (hb hby at_333) k) ?_
      exact k0
  show own_G p.tables e below _ (T63.setTop (mkF m 334 #[iv p1, iv p2, iv p3, iv (0 : Int32), rv b2, iv x0, iv x1, iv x2, iv x3, rv b20, iv kk0, iv kk1, iv kk2, iv kk3, iv ct0, iv ct1, rv b36, rv bx42_rb, iv pp0, iv pp1, .unset, .unset] [(.int (if kk1 = kk2 then (1 : Int32) else (0 : Int32))), (.int ((own_f4 kk2 ct0 ct1 (0 : Int32)) + (own_f2 (if kk0 = kk2 then (1 : Int32) else (0 : Int32)))))]))
  obtain ⟨_, _, ⟨T65, L65, k65, n65⟩, -, X65, ⟨Lc65, hQ65, l65, y65, z65⟩, st65⟩ := Jvm.LawKit.callS X63 hx (y := (⟨"com/example/stevedore/stevedore/MoveGraphGroupedPinLaw", "one", "(Z)I"⟩ : MethodName)) hown (mvT hZ (hw _ (List.mem_of_getElem? (i := 5) rfl))) (mvT hZ (hw _ (List.mem_of_getElem? (i := 6) rfl))) (mvT hZ (hw _ (List.mem_of_getElem? (i := 3) rfl))) (mvT hZ (hw _ (List.mem_of_getElem? (i := 7) rfl))) (by decide) (backOf (W := 1) (rm2 l Z a0 hw [] (if kk1 = kk2 then (1 : Int32) else (0 : Int32)) T42.heap n0 (Nat.le_trans Z0 K42.1) ) hZ (hw _ (List.mem_of_getElem? (i := 7) rfl)) (hw _ (List.mem_of_getElem? (i := 3) rfl)) (by decide) (by decide)) (g := (mkF m 334 #[iv p1, iv p2, iv p3, iv (0 : Int32), rv b2, iv x0, iv x1, iv x2, iv x3, rv b20, iv kk0, iv kk1, iv kk2, iv kk3, iv ct0, iv ct1, rv b36, rv bx42_rb, iv pp0, iv pp1, .unset, .unset] [(.int (if kk1 = kk2 then (1 : Int32) else (0 : Int32))), (.int ((own_f4 kk2 ct0 ct1 (0 : Int32)) + (own_f2 (if kk0 = kk2 then (1 : Int32) else (0 : Int32)))))])) rfl (by rw [hml]; rfl) (argsL := [(.int (if kk1 = kk2 then (1 : Int32) else (0 : Int32)))]) (rest := [(.int ((own_f4 kk2 ct0 ct1 (0 : Int32)) + (own_f2 (if kk0 = kk2 then (1 : Int32) else (0 : Int32)))))]) (lenOf pd_0_3 rfl) rfl (by show 2 * 0 + _ ≤ _; exact Nat.le_of_eq rfl) (hb hby at_334) (fun _ _ => ⟨rfl, e63, (by decide : 5 + 0 ≤ _), (by decide : 12 + 0 ≤ _)⟩)
  dsimp only [Pt.U, Pt.locs, Pt.cells, Pt.slots] at X65 l65 y65 z65 st65 hQ65
  subst y65 z65
  obtain ⟨rfl, N65q, e65⟩ := hQ65
  have N65 : Fr n0 L65 := by rw [l65]; exact Fr.app N63 N65q
  refine own_step st65 ?_
  refine own_step (fun t k => XS.iadd X65.here hx rfl (hb hby at_337) rfl k) ?_
  refine own_nm ((((own_f4 kk2 ct0 ct1 (0 : Int32)) + (own_f2 (if kk0 = kk2 then (1 : Int32) else (0 : Int32)))) + (own_f2 (if kk1 = kk2 then (1 : Int32) else (0 : Int32)))) : Int32) (fun pp2 => T65.setTop (mkF m 338 #[iv p1, iv p2, iv p3, iv (0 : Int32), rv b2, iv x0, iv x1, iv x2, iv x3, rv b20, iv kk0, iv kk1, iv kk2, iv kk3, iv ct0, iv ct1, rv b36, rv bx42_rb, iv pp0, iv pp1, .unset, .unset] [(.int pp2)])) ?_
  intro pp2 hd_pp2
  clear N61 N63 N63q N65q X61 X63 e61 e63 st63 st65
  show own_G p.tables e below _ (T65.setTop (mkF m 338 #[iv p1, iv p2, iv p3, iv (0 : Int32), rv b2, iv x0, iv x1, iv x2, iv x3, rv b20, iv kk0, iv kk1, iv kk2, iv kk3, iv ct0, iv ct1, rv b36, rv bx42_rb, iv pp0, iv pp1, .unset, .unset] [(.int pp2)]))
  refine own_step (fun t k => XS.istore X65.here hx rfl (hb hby at_338) rfl (l' := #[iv p1, iv p2, iv p3, iv (0 : Int32), rv b2, iv x0, iv x1, iv x2, iv x3, rv b20, iv kk0, iv kk1, iv kk2, iv kk3, iv ct0, iv ct1, rv b36, rv bx42_rb, iv pp0, iv pp1, iv pp2, .unset]) rfl k) ?_
  refine own_step (fun t k => XS.iload X65.here hx rfl (hb hby at_340) rfl k) ?_
  refine own_step (fun t k => XS.iload X65.here hx rfl (hb hby at_342) rfl k) ?_
  refine own_step (fun t k => XS.iload X65.here hx rfl (hb hby at_344) rfl k) ?_
  show own_G p.tables e below _ (T65.setTop (mkF m 346 #[iv p1, iv p2, iv p3, iv (0 : Int32), rv b2, iv x0, iv x1, iv x2, iv x3, rv b20, iv kk0, iv kk1, iv kk2, iv kk3, iv ct0, iv ct1, rv b36, rv bx42_rb, iv pp0, iv pp1, iv pp2, .unset] [(.int ct1), (.int ct0), (.int kk3)]))
  refine own_step (fun t k => XS.iloadN X65.here hx rfl (hb hby at_346) rfl k) ?_
  obtain ⟨_, _, ⟨T67, L67, k67, n67⟩, -, X67, ⟨Lc67, hQ67, l67, y67, z67⟩, st67⟩ := Jvm.LawKit.callS X65 hx (y := (⟨"com/example/stevedore/stevedore/MoveGraphGroupedPinLaw", "se", "(IIII)I"⟩ : MethodName)) hown (mvT hZ (hw _ (List.mem_of_getElem? (i := 21) rfl))) (mvT hZ (hw _ (List.mem_of_getElem? (i := 22) rfl))) (mvT hZ (hw _ (List.mem_of_getElem? (i := 3) rfl))) (mvT hZ (hw _ (List.mem_of_getElem? (i := 23) rfl))) (by decide) (backOf (W := 0) (rm4 l Z a0 hw [] kk3 ct0 ct1 (0 : Int32) T42.heap n0 (Nat.le_trans Z0 K42.1) ) hZ (hw _ (List.mem_of_getElem? (i := 23) rfl)) (hw _ (List.mem_of_getElem? (i := 3) rfl)) (by decide) (by decide)) (g := (mkF m 347 #[iv p1, iv p2, iv p3, iv (0 : Int32), rv b2, iv x0, iv x1, iv x2, iv x3, rv b20, iv kk0, iv kk1, iv kk2, iv kk3, iv ct0, iv ct1, rv b36, rv bx42_rb, iv pp0, iv pp1, iv pp2, .unset] [(.int (0 : Int32)), (.int ct1), (.int ct0), (.int kk3)])) rfl (by rw [hml]; rfl) (argsL := [(.int kk3), (.int ct0), (.int ct1), (.int (0 : Int32))]) (rest := []) (lenOf pd_0_2 rfl) rfl (by show 2 * 0 + _ ≤ _; exact Nat.le_of_eq rfl) (hb hby at_347) (fun _ _ => ⟨rfl, e65, (by decide : 5 + 0 ≤ _), (by decide : 12 + 0 ≤ _)⟩)
  dsimp only [Pt.U, Pt.locs, Pt.cells, Pt.slots] at X67 l67 y67 z67 st67 hQ67
  subst y67 z67
  obtain ⟨rfl, N67q, e67⟩ := hQ67
  have N67 : Fr n0 L67 := by rw [l67]; exact Fr.app N65 N67q
  refine own_step st67 ?_
  refine own_step (fun t k => XS.iload X67.here hx rfl (hb hby at_350) rfl k) ?_
  refine own_step (fun t k => XS.iload X67.here hx rfl (hb hby at_352) rfl k) ?_
  show own_G p.tables e below _ (T67.setTop (mkF m 354 #[iv p1, iv p2, iv p3, iv (0 : Int32), rv b2, iv x0, iv x1, iv x2, iv x3, rv b20, iv kk0, iv kk1, iv kk2, iv kk3, iv ct0, iv ct1, rv b36, rv bx42_rb, iv pp0, iv pp1, iv pp2, .unset] [(.int kk3), (.int kk0), (.int (own_f4 kk3 ct0 ct1 (0 : Int32)))]))
  refine own_imp (B := T67.setTop (mkF m 362 #[iv p1, iv p2, iv p3, iv (0 : Int32), rv b2, iv x0, iv x1, iv x2, iv x3, rv b20, iv kk0, iv kk1, iv kk2, iv kk3, iv ct0, iv ct1, rv b36, rv bx42_rb, iv pp0, iv pp1, iv pp2, .unset] [(.int (if kk0 = kk3 then (1 : Int32) else (0 : Int32))), (.int (own_f4 kk3 ct0 ct1 (0 : Int32)))])) (fun k0 => ?_) ?_
  · by_cases hc68 : kk0 = kk3
    · simp only [if_pos hc68] at k0
      refine own_step (fun t k => XS.icmpNo X67.here hx rfl (hb hby at_354) rfl ((teq hc68).2) k) ?_
      show own_G p.tables e below _ (T67.setTop (mkF m 357 #[iv p1, iv p2, iv p3, iv (0 : Int32), rv b2, iv x0, iv x1, iv x2, iv x3, rv b20, iv kk0, iv kk1, iv kk2, iv kk3, iv ct0, iv ct1, rv b36, rv bx42_rb, iv pp0, iv pp1, iv pp2, .unset] [(.int (own_f4 kk3 ct0 ct1 (0 : Int32)))]))
      refine own_step (fun t k => XS.iconst X67.here hx rfl (hb hby at_357) k) ?_
      refine own_step (fun t k => XS.goto X67.here hx rfl (pc0 := 358) (pc' := 362) rfl (hb hby at_358) (by decide) (by decide) k) ?_
      exact k0
    · simp only [if_neg hc68] at k0
      refine own_step (fun t k => XS.icmpYes X67.here hx rfl (pc0 := 354) (pc' := 361) rfl (hb hby at_354) rfl ((feq hc68).2) (by decide) (by decide) k) ?_
      show own_G p.tables e below _ (T67.setTop (mkF m 361 #[iv p1, iv p2, iv p3, iv (0 : Int32), rv b2, iv x0, iv x1, iv x2, iv x3, rv b20, iv kk0, iv kk1, iv kk2, iv kk3, iv ct0, iv ct1, rv b36, rv bx42_rb, iv pp0, iv pp1, iv pp2, .unset] [(.int (own_f4 kk3 ct0 ct1 (0 : Int32)))]))
      refine own_step (fun t k => XS.iconst X67.here hx rfl (hb hby at_361) k) ?_
      exact k0
  show own_G p.tables e below _ (T67.setTop (mkF m 362 #[iv p1, iv p2, iv p3, iv (0 : Int32), rv b2, iv x0, iv x1, iv x2, iv x3, rv b20, iv kk0, iv kk1, iv kk2, iv kk3, iv ct0, iv ct1, rv b36, rv bx42_rb, iv pp0, iv pp1, iv pp2, .unset] [(.int (if kk0 = kk3 then (1 : Int32) else (0 : Int32))), (.int (own_f4 kk3 ct0 ct1 (0 : Int32)))]))
  obtain ⟨_, _, ⟨T69, L69, k69, n69⟩, -, X69, ⟨Lc69, hQ69, l69, y69, z69⟩, st69⟩ := Jvm.LawKit.callS X67 hx (y := (⟨"com/example/stevedore/stevedore/MoveGraphGroupedPinLaw", "one", "(Z)I"⟩ : MethodName)) hown (mvT hZ (hw _ (List.mem_of_getElem? (i := 5) rfl))) (mvT hZ (hw _ (List.mem_of_getElem? (i := 6) rfl))) (mvT hZ (hw _ (List.mem_of_getElem? (i := 3) rfl))) (mvT hZ (hw _ (List.mem_of_getElem? (i := 7) rfl))) (by decide) (backOf (W := 1) (rm2 l Z a0 hw [] (if kk0 = kk3 then (1 : Int32) else (0 : Int32)) T42.heap n0 (Nat.le_trans Z0 K42.1) ) hZ (hw _ (List.mem_of_getElem? (i := 7) rfl)) (hw _ (List.mem_of_getElem? (i := 3) rfl)) (by decide) (by decide)) (g := (mkF m 362 #[iv p1, iv p2, iv p3, iv (0 : Int32), rv b2, iv x0, iv x1, iv x2, iv x3, rv b20, iv kk0, iv kk1, iv kk2, iv kk3, iv ct0, iv ct1, rv b36, rv bx42_rb, iv pp0, iv pp1, iv pp2, .unset] [(.int (if kk0 = kk3 then (1 : Int32) else (0 : Int32))), (.int (own_f4 kk3 ct0 ct1 (0 : Int32)))])) rfl (by rw [hml]; rfl) (argsL := [(.int (if kk0 = kk3 then (1 : Int32) else (0 : Int32)))]) (rest := [(.int (own_f4 kk3 ct0 ct1 (0 : Int32)))]) (lenOf pd_0_3 rfl) rfl (by show 2 * 0 + _ ≤ _; exact Nat.le_of_eq rfl) (hb hby at_362) (fun _ _ => ⟨rfl, e67, (by decide : 5 + 0 ≤ _), (by decide : 12 + 0 ≤ _)⟩)
  dsimp only [Pt.U, Pt.locs, Pt.cells, Pt.slots] at X69 l69 y69 z69 st69 hQ69
  subst y69 z69
  obtain ⟨rfl, N69q, e69⟩ := hQ69
  have N69 : Fr n0 L69 := by rw [l69]; exact Fr.app N67 N69q
  refine own_step st69 ?_
  refine own_step (fun t k => XS.iadd X69.here hx rfl (hb hby at_365) rfl k) ?_
  refine own_step (fun t k => XS.iload X69.here hx rfl (hb hby at_366) rfl k) ?_
  refine own_step (fun t k => XS.iload X69.here hx rfl (hb hby at_368) rfl k) ?_
  clear N65 N67 N67q N69q X65 X67 e65 e67 st67 st69
  show own_G p.tables e below _ (T69.setTop (mkF m 370 #[iv p1, iv p2, iv p3, iv (0 : Int32), rv b2, iv x0, iv x1, iv x2, iv x3, rv b20, iv kk0, iv kk1, iv kk2, iv kk3, iv ct0, iv ct1, rv b36, rv bx42_rb, iv pp0, iv pp1, iv pp2, .unset] [(.int kk3), (.int kk1), (.int ((own_f4 kk3 ct0 ct1 (0 : Int32)) + (own_f2 (if kk0 = kk3 then (1 : Int32) else (0 : Int32)))))]))
  refine own_imp (B := T69.setTop (mkF m 378 #[iv p1, iv p2, iv p3, iv (0 : Int32), rv b2, iv x0, iv x1, iv x2, iv x3, rv b20, iv kk0, iv kk1, iv kk2, iv kk3, iv ct0, iv ct1, rv b36, rv bx42_rb, iv pp0, iv pp1, iv pp2, .unset] [(.int (if kk1 = kk3 then (1 : Int32) else (0 : Int32))), (.int ((own_f4 kk3 ct0 ct1 (0 : Int32)) + (own_f2 (if kk0 = kk3 then (1 : Int32) else (0 : Int32)))))])) (fun k0 => ?_) ?_
  · by_cases hc70 : kk1 = kk3
    · simp only [if_pos hc70] at k0
      refine own_step (fun t k => XS.icmpNo X69.here hx rfl (hb hby at_370) rfl ((teq hc70).2) k) ?_
      show own_G p.tables e below _ (T69.setTop (mkF m 373 #[iv p1, iv p2, iv p3, iv (0 : Int32), rv b2, iv x0, iv x1, iv x2, iv x3, rv b20, iv kk0, iv kk1, iv kk2, iv kk3, iv ct0, iv ct1, rv b36, rv bx42_rb, iv pp0, iv pp1, iv pp2, .unset] [(.int ((own_f4 kk3 ct0 ct1 (0 : Int32)) + (own_f2 (if kk0 = kk3 then (1 : Int32) else (0 : Int32)))))]))
      refine own_step (fun t k => XS.iconst X69.here hx rfl (hb hby at_373) k) ?_
      refine own_step (fun t k => XS.goto X69.here hx rfl (pc0 := 374) (pc' := 378) rfl (hb hby at_374) (by decide) (by decide) k) ?_
      exact k0
    · simp only [if_neg hc70] at k0
      refine own_step (fun t k => XS.icmpYes X69.here hx rfl (pc0 := 370) (pc' := 377) rfl (hb hby at_370) rfl ((feq hc70).2) (by decide) (by decide) k) ?_
      show own_G p.tables e below _ (T69.setTop (mkF m 377 #[iv p1, iv p2, iv p3, iv (0 : Int32), rv b2, iv x0, iv x1, iv x2, iv x3, rv b20, iv kk0, iv kk1, iv kk2, iv kk3, iv ct0, iv ct1, rv b36, rv bx42_rb, iv pp0, iv pp1, iv pp2, .unset] [(.int ((own_f4 kk3 ct0 ct1 (0 : Int32)) + (own_f2 (if kk0 = kk3 then (1 : Int32) else (0 : Int32)))))]))
      refine own_step (fun t k => XS.iconst X69.here hx rfl (hb hby at_377) k) ?_
      exact k0
  show own_G p.tables e below _ (T69.setTop (mkF m 378 #[iv p1, iv p2, iv p3, iv (0 : Int32), rv b2, iv x0, iv x1, iv x2, iv x3, rv b20, iv kk0, iv kk1, iv kk2, iv kk3, iv ct0, iv ct1, rv b36, rv bx42_rb, iv pp0, iv pp1, iv pp2, .unset] [(.int (if kk1 = kk3 then (1 : Int32) else (0 : Int32))), (.int ((own_f4 kk3 ct0 ct1 (0 : Int32)) + (own_f2 (if kk0 = kk3 then (1 : Int32) else (0 : Int32)))))]))
  obtain ⟨_, _, ⟨T71, L71, k71, n71⟩, -, X71, ⟨Lc71, hQ71, l71, y71, z71⟩, st71⟩ := Jvm.LawKit.callS X69 hx (y := (⟨"com/example/stevedore/stevedore/MoveGraphGroupedPinLaw", "one", "(Z)I"⟩ : MethodName)) hown (mvT hZ (hw _ (List.mem_of_getElem? (i := 5) rfl))) (mvT hZ (hw _ (List.mem_of_getElem? (i := 6) rfl))) (mvT hZ (hw _ (List.mem_of_getElem? (i := 3) rfl))) (mvT hZ (hw _ (List.mem_of_getElem? (i := 7) rfl))) (by decide) (backOf (W := 1) (rm2 l Z a0 hw [] (if kk1 = kk3 then (1 : Int32) else (0 : Int32)) T42.heap n0 (Nat.le_trans Z0 K42.1) ) hZ (hw _ (List.mem_of_getElem? (i := 7) rfl)) (hw _ (List.mem_of_getElem? (i := 3) rfl)) (by decide) (by decide)) (g := (mkF m 378 #[iv p1, iv p2, iv p3, iv (0 : Int32), rv b2, iv x0, iv x1, iv x2, iv x3, rv b20, iv kk0, iv kk1, iv kk2, iv kk3, iv ct0, iv ct1, rv b36, rv bx42_rb, iv pp0, iv pp1, iv pp2, .unset] [(.int (if kk1 = kk3 then (1 : Int32) else (0 : Int32))), (.int ((own_f4 kk3 ct0 ct1 (0 : Int32)) + (own_f2 (if kk0 = kk3 then (1 : Int32) else (0 : Int32)))))])) rfl (by rw [hml]; rfl) (argsL := [(.int (if kk1 = kk3 then (1 : Int32) else (0 : Int32)))]) (rest := [(.int ((own_f4 kk3 ct0 ct1 (0 : Int32)) + (own_f2 (if kk0 = kk3 then (1 : Int32) else (0 : Int32)))))]) (lenOf pd_0_3 rfl) rfl (by show 2 * 0 + _ ≤ _; exact Nat.le_of_eq rfl) (hb hby at_378) (fun _ _ => ⟨rfl, e69, (by decide : 5 + 0 ≤ _), (by decide : 12 + 0 ≤ _)⟩)
  dsimp only [Pt.U, Pt.locs, Pt.cells, Pt.slots] at X71 l71 y71 z71 st71 hQ71
  subst y71 z71
  obtain ⟨rfl, N71q, e71⟩ := hQ71
  have N71 : Fr n0 L71 := by rw [l71]; exact Fr.app N69 N71q
  refine own_step st71 ?_
  refine own_step (fun t k => XS.iadd X71.here hx rfl (hb hby at_381) rfl k) ?_
  refine own_step (fun t k => XS.iload X71.here hx rfl (hb hby at_382) rfl k) ?_
  refine own_step (fun t k => XS.iload X71.here hx rfl (hb hby at_384) rfl k) ?_
  show own_G p.tables e below _ (T71.setTop (mkF m 386 #[iv p1, iv p2, iv p3, iv (0 : Int32), rv b2, iv x0, iv x1, iv x2, iv x3, rv b20, iv kk0, iv kk1, iv kk2, iv kk3, iv ct0, iv ct1, rv b36, rv bx42_rb, iv pp0, iv pp1, iv pp2, .unset] [(.int kk3), (.int kk2), (.int (((own_f4 kk3 ct0 ct1 (0 : Int32)) + (own_f2 (if kk0 = kk3 then (1 : Int32) else (0 : Int32)))) + (own_f2 (if kk1 = kk3 then (1 : Int32) else (0 : Int32)))))]))
  refine own_imp (B := T71.setTop (mkF m 394 #[iv p1, iv p2, iv p3, iv (0 : Int32), rv b2, iv x0, iv x1, iv x2, iv x3, rv b20, iv kk0, iv kk1, iv kk2, iv kk3, iv ct0, iv ct1, rv b36, rv bx42_rb, iv pp0, iv pp1, iv pp2, .unset] [(.int (if kk2 = kk3 then (1 : Int32) else (0 : Int32))), (.int (((own_f4 kk3 ct0 ct1 (0 : Int32)) + (own_f2 (if kk0 = kk3 then (1 : Int32) else (0 : Int32)))) + (own_f2 (if kk1 = kk3 then (1 : Int32) else (0 : Int32)))))])) (fun k0 => ?_) ?_
  · by_cases hc72 : kk2 = kk3
    · simp only [if_pos hc72] at k0
      refine own_step (fun t k => XS.icmpNo X71.here hx rfl (hb hby at_386) rfl ((teq hc72).2) k) ?_
      show own_G p.tables e below _ (T71.setTop (mkF m 389 #[iv p1, iv p2, iv p3, iv (0 : Int32), rv b2, iv x0, iv x1, iv x2, iv x3, rv b20, iv kk0, iv kk1, iv kk2, iv kk3, iv ct0, iv ct1, rv b36, rv bx42_rb, iv pp0, iv pp1, iv pp2, .unset] [(.int (((own_f4 kk3 ct0 ct1 (0 : Int32)) + (own_f2 (if kk0 = kk3 then (1 : Int32) else (0 : Int32)))) + (own_f2 (if kk1 = kk3 then (1 : Int32) else (0 : Int32)))))]))
      refine own_step (fun t k => XS.iconst X71.here hx rfl (hb hby at_389) k) ?_
      refine own_step (fun t k => XS.goto X71.here hx rfl (pc0 := 390) (pc' := 394) rfl (hb hby at_390) (by decide) (by decide) k) ?_
      exact k0
    · simp only [if_neg hc72] at k0
      refine own_step (fun t k => XS.icmpYes X71.here hx rfl (pc0 := 386) (pc' := 393) rfl (hb hby at_386) rfl ((feq hc72).2) (by decide) (by decide) k) ?_
      show own_G p.tables e below _ (T71.setTop (mkF m 393 #[iv p1, iv p2, iv p3, iv (0 : Int32), rv b2, iv x0, iv x1, iv x2, iv x3, rv b20, iv kk0, iv kk1, iv kk2, iv kk3, iv ct0, iv ct1, rv b36, rv bx42_rb, iv pp0, iv pp1, iv pp2, .unset] [(.int (((own_f4 kk3 ct0 ct1 (0 : Int32)) + (own_f2 (if kk0 = kk3 then (1 : Int32) else (0 : Int32)))) + (own_f2 (if kk1 = kk3 then (1 : Int32) else (0 : Int32)))))]))
      refine own_step (fun t k => XS.iconst X71.here hx rfl (hb hby at_393) k) ?_
      exact k0
  show own_G p.tables e below _ (T71.setTop (mkF m 394 #[iv p1, iv p2, iv p3, iv (0 : Int32), rv b2, iv x0, iv x1, iv x2, iv x3, rv b20, iv kk0, iv kk1, iv kk2, iv kk3, iv ct0, iv ct1, rv b36, rv bx42_rb, iv pp0, iv pp1, iv pp2, .unset] [(.int (if kk2 = kk3 then (1 : Int32) else (0 : Int32))), (.int (((own_f4 kk3 ct0 ct1 (0 : Int32)) + (own_f2 (if kk0 = kk3 then (1 : Int32) else (0 : Int32)))) + (own_f2 (if kk1 = kk3 then (1 : Int32) else (0 : Int32)))))]))
  obtain ⟨_, _, ⟨T73, L73, k73, n73⟩, -, X73, ⟨Lc73, hQ73, l73, y73, z73⟩, st73⟩ := Jvm.LawKit.callS X71 hx (y := (⟨"com/example/stevedore/stevedore/MoveGraphGroupedPinLaw", "one", "(Z)I"⟩ : MethodName)) hown (mvT hZ (hw _ (List.mem_of_getElem? (i := 5) rfl))) (mvT hZ (hw _ (List.mem_of_getElem? (i := 6) rfl))) (mvT hZ (hw _ (List.mem_of_getElem? (i := 3) rfl))) (mvT hZ (hw _ (List.mem_of_getElem? (i := 7) rfl))) (by decide) (backOf (W := 1) (rm2 l Z a0 hw [] (if kk2 = kk3 then (1 : Int32) else (0 : Int32)) T42.heap n0 (Nat.le_trans Z0 K42.1) ) hZ (hw _ (List.mem_of_getElem? (i := 7) rfl)) (hw _ (List.mem_of_getElem? (i := 3) rfl)) (by decide) (by decide)) (g := (mkF m 394 #[iv p1, iv p2, iv p3, iv (0 : Int32), rv b2, iv x0, iv x1, iv x2, iv x3, rv b20, iv kk0, iv kk1, iv kk2, iv kk3, iv ct0, iv ct1, rv b36, rv bx42_rb, iv pp0, iv pp1, iv pp2, .unset] [(.int (if kk2 = kk3 then (1 : Int32) else (0 : Int32))), (.int (((own_f4 kk3 ct0 ct1 (0 : Int32)) + (own_f2 (if kk0 = kk3 then (1 : Int32) else (0 : Int32)))) + (own_f2 (if kk1 = kk3 then (1 : Int32) else (0 : Int32)))))])) rfl (by rw [hml]; rfl) (argsL := [(.int (if kk2 = kk3 then (1 : Int32) else (0 : Int32)))]) (rest := [(.int (((own_f4 kk3 ct0 ct1 (0 : Int32)) + (own_f2 (if kk0 = kk3 then (1 : Int32) else (0 : Int32)))) + (own_f2 (if kk1 = kk3 then (1 : Int32) else (0 : Int32)))))]) (lenOf pd_0_3 rfl) rfl (by show 2 * 0 + _ ≤ _; exact Nat.le_of_eq rfl) (hb hby at_394) (fun _ _ => ⟨rfl, e71, (by decide : 5 + 0 ≤ _), (by decide : 12 + 0 ≤ _)⟩)
  dsimp only [Pt.U, Pt.locs, Pt.cells, Pt.slots] at X73 l73 y73 z73 st73 hQ73
  subst y73 z73
  obtain ⟨rfl, N73q, e73⟩ := hQ73
  have N73 : Fr n0 L73 := by rw [l73]; exact Fr.app N71 N73q
  refine own_step st73 ?_
  refine own_step (fun t k => XS.iadd X73.here hx rfl (hb hby at_397) rfl k) ?_
  refine own_nm (((((own_f4 kk3 ct0 ct1 (0 : Int32)) + (own_f2 (if kk0 = kk3 then (1 : Int32) else (0 : Int32)))) + (own_f2 (if kk1 = kk3 then (1 : Int32) else (0 : Int32)))) + (own_f2 (if kk2 = kk3 then (1 : Int32) else (0 : Int32)))) : Int32) (fun pp3 => T73.setTop (mkF m 398 #[iv p1, iv p2, iv p3, iv (0 : Int32), rv b2, iv x0, iv x1, iv x2, iv x3, rv b20, iv kk0, iv kk1, iv kk2, iv kk3, iv ct0, iv ct1, rv b36, rv bx42_rb, iv pp0, iv pp1, iv pp2, .unset] [(.int pp3)])) ?_
  intro pp3 hd_pp3
  clear N69 N71 N71q N73q X69 X71 e69 e71 st71 st73
  show own_G p.tables e below _ (T73.setTop (mkF m 398 #[iv p1, iv p2, iv p3, iv (0 : Int32), rv b2, iv x0, iv x1, iv x2, iv x3, rv b20, iv kk0, iv kk1, iv kk2, iv kk3, iv ct0, iv ct1, rv b36, rv bx42_rb, iv pp0, iv pp1, iv pp2, .unset] [(.int pp3)]))
  refine own_step (fun t k => XS.istore X73.here hx rfl (hb hby at_398) rfl (l' := #[iv p1, iv p2, iv p3, iv (0 : Int32), rv b2, iv x0, iv x1, iv x2, iv x3, rv b20, iv kk0, iv kk1, iv kk2, iv kk3, iv ct0, iv ct1, rv b36, rv bx42_rb, iv pp0, iv pp1, iv pp2, iv pp3]) rfl k) ?_
  refine own_step (fun t k => XS.iloadN X73.here hx rfl (hb hby at_400) rfl k) ?_
  have hk75 : ¬ ((0 : Int32) < (0 : Int32)) := (by decide)
  refine own_step (fun t k => XS.ifYes X73.here hx rfl (pc0 := 401) (pc' := 416) rfl (hb hby at_401) rfl ((if0 _ _).trans (flt hk75).2.2.2) (by decide) (by decide) k) ?_
  show own_G p.tables e below _ (T73.setTop (mkF m 416 #[iv p1, iv p2, iv p3, iv (0 : Int32), rv b2, iv x0, iv x1, iv x2, iv x3, rv b20, iv kk0, iv kk1, iv kk2, iv kk3, iv ct0, iv ct1, rv b36, rv bx42_rb, iv pp0, iv pp1, iv pp2, iv pp3] []))
  refine own_step (fun t k => XS.iloadN X73.here hx rfl (hb hby at_416) rfl k) ?_
  refine own_step (fun t k => XS.iconst X73.here hx rfl (hb hby at_417) k) ?_
  have hk76 : ¬ ((1 : Int32) < (0 : Int32)) := (by decide)
  refine own_step (fun t k => XS.icmpYes X73.here hx rfl (pc0 := 418) (pc' := 433) rfl (hb hby at_418) rfl ((flt hk76).2.2.2) (by decide) (by decide) k) ?_
  show own_G p.tables e below _ (T73.setTop (mkF m 433 #[iv p1, iv p2, iv p3, iv (0 : Int32), rv b2, iv x0, iv x1, iv x2, iv x3, rv b20, iv kk0, iv kk1, iv kk2, iv kk3, iv ct0, iv ct1, rv b36, rv bx42_rb, iv pp0, iv pp1, iv pp2, iv pp3] []))
  refine own_step (fun t k => XS.iloadN X73.here hx rfl (hb hby at_433) rfl k) ?_
  refine own_step (fun t k => XS.iconst X73.here hx rfl (hb hby at_434) k) ?_
  have hk77 : ¬ ((2 : Int32) < (0 : Int32)) := (by decide)
  refine own_step (fun t k => XS.icmpYes X73.here hx rfl (pc0 := 435) (pc' := 450) rfl (hb hby at_435) rfl ((flt hk77).2.2.2) (by decide) (by decide) k) ?_
  show own_G p.tables e below _ (T73.setTop (mkF m 450 #[iv p1, iv p2, iv p3, iv (0 : Int32), rv b2, iv x0, iv x1, iv x2, iv x3, rv b20, iv kk0, iv kk1, iv kk2, iv kk3, iv ct0, iv ct1, rv b36, rv bx42_rb, iv pp0, iv pp1, iv pp2, iv pp3] []))
  refine own_step (fun t k => XS.iloadN X73.here hx rfl (hb hby at_450) rfl k) ?_
  refine own_step (fun t k => XS.iconst X73.here hx rfl (hb hby at_451) k) ?_
  have hk78 : ¬ ((3 : Int32) < (0 : Int32)) := (by decide)
  refine own_step (fun t k => XS.icmpYes X73.here hx rfl (pc0 := 452) (pc' := 467) rfl (hb hby at_452) rfl ((flt hk78).2.2.2) (by decide) (by decide) k) ?_
  show own_G p.tables e below _ (T73.setTop (mkF m 467 #[iv p1, iv p2, iv p3, iv (0 : Int32), rv b2, iv x0, iv x1, iv x2, iv x3, rv b20, iv kk0, iv kk1, iv kk2, iv kk3, iv ct0, iv ct1, rv b36, rv bx42_rb, iv pp0, iv pp1, iv pp2, iv pp3] []))
  refine own_step (fun t k => XS.iconst X73.here hx rfl (hb hby at_467) k) ?_
  obtain ⟨fs, hr, hrun, hended, hW, hsame⟩ := X73.leave (v := some (.int (1 : Int32))) (fun h => by rw [hret] at h; cases h) hlocks
  refine own_done (retN X73 hx (t := .boolean) hret (by simp) (hb hby at_468) hr) hrun hended (hP _ _ ⟨_, _, rfl, ?_, ⟨_, rfl⟩, hW, hsame.mono (by decide) (by decide)⟩)
  show Q0 Z p1 p2 p3 h0 n0 _ T73.heap _
  rw [e73]
  exact ⟨rfl, N73⟩
set_option maxRecDepth 65536 in
set_option maxHeartbeats 40000000 in
theorem rm0_c1 (l : Launch) (Z : State) (a0 : Array Value) (hw : ∀ d ∈ tables_1, d.before a0 Z = true) (p1 : Int32) (p2 : Int32) (p3 : Int32) (h0 : Heap) (n0 : Nat) (Z0 : n0 ≤ h0.size) {p : Program} {e : Env} {s : State} {m : MethodId} {below : List Frame} {meth : Method} {c : Code} {T13 : State} {lc : List Loc} {P : Outcome → State → Prop} {h13 : Heap} {b2 : Addr} {kv0 : Int32} {kv1 : Int32} {kv2 : Int32} {kv3 : Int32} {x0 : Int32} {x1 : Int32} {x2 : Int32} {x3 : Int32} (hx : p.tables.exec = Jvm.exec) (hby : c.code = code) (hml : c.maxLocals = 22) (hown : s.vm.findClass "com/example/stevedore/stevedore/MoveGraphGroupedPinLaw" = some m.cls) (hZ : Z.Warmed39 s.vm) (hlocks : meth.locks = false) (hret : meth.sig.returnType = some .boolean) (X13 : Stand p l e room_1 s m #[(.int p1), (.int p2), (.int p3)] below meth c T13 lc 1 4) (e13 : T13.heap = h13) (N13 : Fr n0 lc) (K13 : Keep h0 h13 []) (c14 : own_Ari Z h13 b2 .int [kv0, kv1, kv2, kv3]) (ge2 : n0 ≤ b2) (sz2 : h0.size ≤ b2) (hd_kv0 : kv0 = ((p3 &&& (15 : Int32)) - ((p3 &&& (15 : Int32)) / (3 : Int32)) * (3 : Int32))) (hd_kv1 : kv1 = ((((p3.toUInt32 >>> ((4 : Int32) &&& 31).toUInt32).toInt32) &&& (15 : Int32)) - ((((p3.toUInt32 >>> ((4 : Int32) &&& 31).toUInt32).toInt32) &&& (15 : Int32)) / (3 : Int32)) * (3 : Int32))) (hd_kv2 : kv2 = ((((p3.toUInt32 >>> ((8 : Int32) &&& 31).toUInt32).toInt32) &&& (15 : Int32)) - ((((p3.toUInt32 >>> ((8 : Int32) &&& 31).toUInt32).toInt32) &&& (15 : Int32)) / (3 : Int32)) * (3 : Int32))) (hd_kv3 : kv3 = ((((p3.toUInt32 >>> ((12 : Int32) &&& 31).toUInt32).toInt32) &&& (15 : Int32)) - ((((p3.toUInt32 >>> ((12 : Int32) &&& 31).toUInt32).toInt32) &&& (15 : Int32)) / (3 : Int32)) * (3 : Int32))) (hd_x0 : x0 = (p2 &&& (3 : Int32))) (hd_x1 : x1 = (((p2.toUInt32 >>> ((2 : Int32) &&& 31).toUInt32).toInt32) &&& (3 : Int32))) (hd_x2 : x2 = (((p2.toUInt32 >>> ((4 : Int32) &&& 31).toUInt32).toInt32) &&& (3 : Int32))) (hd_x3 : x3 = (((p2.toUInt32 >>> ((6 : Int32) &&& 31).toUInt32).toInt32) &&& (3 : Int32))) (hd_n : (1 : Int32) = ((p1 &&& (7 : Int32)) - ((p1 &&& (7 : Int32)) / (5 : Int32)) * (5 : Int32))) (hv0 : own_3 kv0) (hv1 : own_3 kv1) (hv2 : own_3 kv2) (hv3 : own_3 kv3) (hP : ∀ o U', (∃ v L, o = .returned v ∧ Q0 Z p1 p2 p3 h0 n0 v U'.heap L ∧ FrameEnd s o U' L room_1.cells room_1.slots) → P o U') : own_G p.tables e below P (T13.setTop (mkF m 87 #[iv p1, iv p2, iv p3, iv (1 : Int32), rv b2, iv x0, iv x1, iv x2, iv x3, .unset, .unset, .unset, .unset, .unset, .unset, .unset, .unset, .unset, .unset, .unset, .unset, .unset] [])) := by
  show own_G p.tables e below _ (T13.setTop (mkF m 87 #[iv p1, iv p2, iv p3, iv (1 : Int32), rv b2, iv x0, iv x1, iv x2, iv x3, .unset, .unset, .unset, .unset, .unset, .unset, .unset, .unset, .unset, .unset, .unset, .unset, .unset] []))
  have hx0 : own_4 x0 := by rw [hd_x0]; exact own_num _
  have hx1 : own_4 x1 := by rw [hd_x1]; exact own_num _
  have hx2 : own_4 x2 := by rw [hd_x2]; exact own_num _
  have hx3 : own_4 x3 := by rw [hd_x3]; exact own_num _
  refine own_step (fun t k => XS.iloadN X13.here hx rfl (hb hby at_87) rfl k) ?_
  obtain ⟨T79, h79, k79, X79, e79, E79, A79, st79⟩ := newP X13 hx hZ (hw _ (List.mem_of_getElem? (i := 0) rfl)) e13 (g := (mkF m 88 #[iv p1, iv p2, iv p3, iv (1 : Int32), rv b2, iv x0, iv x1, iv x2, iv x3, .unset, .unset, .unset, .unset, .unset, .unset, .unset, .unset, .unset, .unset, .unset, .unset, .unset] [(.int (1 : Int32))])) rfl (hb hby at_88) rfl (by decide) (cap := 1) (by decide) (by decide) (by decide) (by decide)
  obtain ⟨b79, g79⟩ : ∃ z, z = h13.size := ⟨_, rfl⟩
  have ne80 : b2 ≠ b79 := Nat.ne_of_lt (Nat.lt_of_lt_of_le c14.lt (Nat.le_of_eq g79.symm))
  have sz79 : h0.size ≤ b79 := Nat.le_trans K13.1 (Nat.le_of_eq g79.symm)
  have ge79 : n0 ≤ b79 := Nat.le_trans Z0 sz79
  have c81 : own_Ari Z h79 b2 .int [kv0, kv1, kv2, kv3] := c14.ext E79
  have K79 : Keep h0 h79 [] := K13.ext E79
  rw [← g79] at A79 st79
  have c82 : own_Ari Z h79 b79 .int [(0 : Int32)] := own_Ari_new (ty := .int) A79 (by decide) rfl
  refine own_step st79 ?_
  refine own_step (fun t k => XS.astore X79.here hx rfl (hb hby at_90) rfl rfl (l' := #[iv p1, iv p2, iv p3, iv (1 : Int32), rv b2, iv x0, iv x1, iv x2, iv x3, rv b79, .unset, .unset, .unset, .unset, .unset, .unset, .unset, .unset, .unset, .unset, .unset, .unset]) rfl k) ?_
  refine own_step (fun t k => XS.iloadN X79.here hx rfl (hb hby at_92) rfl k) ?_
  show own_G p.tables e below _ (T79.setTop (mkF m 93 #[iv p1, iv p2, iv p3, iv (1 : Int32), rv b2, iv x0, iv x1, iv x2, iv x3, rv b79, .unset, .unset, .unset, .unset, .unset, .unset, .unset, .unset, .unset, .unset, .unset, .unset] [(.int (1 : Int32))]))
  have hk83 : (0 : Int32) < (1 : Int32) := (by decide)
  refine own_step (fun t k => XS.ifNo X79.here hx rfl (hb hby at_93) rfl ((if0 _ _).trans (tlt hk83).2.2.2) k) ?_
  show own_G p.tables e below _ (T79.setTop (mkF m 96 #[iv p1, iv p2, iv p3, iv (1 : Int32), rv b2, iv x0, iv x1, iv x2, iv x3, rv b79, .unset, .unset, .unset, .unset, .unset, .unset, .unset, .unset, .unset, .unset, .unset, .unset] []))
  refine own_step (fun t k => XS.aload X79.here hx rfl (hb hby at_96) rfl rfl k) ?_
  refine own_step (fun t k => XS.iconst X79.here hx rfl (hb hby at_98) k) ?_
  refine own_step (fun t k => XS.iload X79.here hx rfl (hb hby at_99) rfl k) ?_
  obtain ⟨T84, h84, X84, e84, W84, c84, st84⟩ := own_iastore X79 hx hZ e79 c82 (own_inb (by decide) (Nat.le_of_ble_eq_true rfl)) (g := (mkF m 101 #[iv p1, iv p2, iv p3, iv (1 : Int32), rv b2, iv x0, iv x1, iv x2, iv x3, rv b79, .unset, .unset, .unset, .unset, .unset, .unset, .unset, .unset, .unset, .unset, .unset, .unset] [(.int x0), (.int (0 : Int32)), (.ref b79)])) rfl rfl (hb hby at_101)
  have N84 := Fr.snoc X84 N13 ge79
  have c85 : own_Ari Z h84 b79 .int [x0] := c84
  have c86 : own_Ari Z h84 b2 .int [kv0, kv1, kv2, kv3] := c81.other W84 ne80
  have K84 : Keep h0 h84 [] := K79.wr W84 (Or.inr sz79)
  refine own_step st84 ?_
  clear A79 E79 K79 W84 X79 c81 c82 c84 e79 g79 hk83 st79 st84
  show own_G p.tables e below _ (T84.setTop (mkF m 102 #[iv p1, iv p2, iv p3, iv (1 : Int32), rv b2, iv x0, iv x1, iv x2, iv x3, rv b79, .unset, .unset, .unset, .unset, .unset, .unset, .unset, .unset, .unset, .unset, .unset, .unset] []))
  refine own_step (fun t k => XS.iloadN X84.here hx rfl (hb hby at_102) rfl k) ?_
  refine own_step (fun t k => XS.iconst X84.here hx rfl (hb hby at_103) k) ?_
  have hk88 : ¬ ((1 : Int32) < (1 : Int32)) := (by decide)
  refine own_step (fun t k => XS.icmpYes X84.here hx rfl (pc0 := 104) (pc' := 113) rfl (hb hby at_104) rfl ((flt hk88).2.2.2) (by decide) (by decide) k) ?_
  show own_G p.tables e below _ (T84.setTop (mkF m 113 #[iv p1, iv p2, iv p3, iv (1 : Int32), rv b2, iv x0, iv x1, iv x2, iv x3, rv b79, .unset, .unset, .unset, .unset, .unset, .unset, .unset, .unset, .unset, .unset, .unset, .unset] []))
  refine own_step (fun t k => XS.iloadN X84.here hx rfl (hb hby at_113) rfl k) ?_
  refine own_step (fun t k => XS.iconst X84.here hx rfl (hb hby at_114) k) ?_
  have hk89 : ¬ ((2 : Int32) < (1 : Int32)) := (by decide)
  refine own_step (fun t k => XS.icmpYes X84.here hx rfl (pc0 := 115) (pc' := 124) rfl (hb hby at_115) rfl ((flt hk89).2.2.2) (by decide) (by decide) k) ?_
  show own_G p.tables e below _ (T84.setTop (mkF m 124 #[iv p1, iv p2, iv p3, iv (1 : Int32), rv b2, iv x0, iv x1, iv x2, iv x3, rv b79, .unset, .unset, .unset, .unset, .unset, .unset, .unset, .unset, .unset, .unset, .unset, .unset] []))
  refine own_step (fun t k => XS.iloadN X84.here hx rfl (hb hby at_124) rfl k) ?_
  refine own_step (fun t k => XS.iconst X84.here hx rfl (hb hby at_125) k) ?_
  have hk90 : ¬ ((3 : Int32) < (1 : Int32)) := (by decide)
  refine own_step (fun t k => XS.icmpYes X84.here hx rfl (pc0 := 126) (pc' := 135) rfl (hb hby at_126) rfl ((flt hk90).2.2.2) (by decide) (by decide) k) ?_
  show own_G p.tables e below _ (T84.setTop (mkF m 135 #[iv p1, iv p2, iv p3, iv (1 : Int32), rv b2, iv x0, iv x1, iv x2, iv x3, rv b79, .unset, .unset, .unset, .unset, .unset, .unset, .unset, .unset, .unset, .unset, .unset, .unset] []))
  refine own_step (fun t k => XS.aload X84.here hx rfl (hb hby at_135) rfl rfl k) ?_
  refine own_step (fun t k => XS.iload X84.here hx rfl (hb hby at_137) rfl k) ?_
  refine own_step (own_iaload X84 hx hZ e84 c86 (own_i4 hx0 rfl) (g := (mkF m 139 #[iv p1, iv p2, iv p3, iv (1 : Int32), rv b2, iv x0, iv x1, iv x2, iv x3, rv b79, .unset, .unset, .unset, .unset, .unset, .unset, .unset, .unset, .unset, .unset, .unset, .unset] [(.int x0), (.ref b2)])) rfl rfl (hb hby at_139)) ?_
  refine own_nm (([kv0, kv1, kv2, kv3].getD x0.toNatClampNeg 0) : Int32) (fun kk0 => T84.setTop (mkF m 140 #[iv p1, iv p2, iv p3, iv (1 : Int32), rv b2, iv x0, iv x1, iv x2, iv x3, rv b79, .unset, .unset, .unset, .unset, .unset, .unset, .unset, .unset, .unset, .unset, .unset, .unset] [(.int kk0)])) ?_
  intro kk0 hd_kk0
  show own_G p.tables e below _ (T84.setTop (mkF m 140 #[iv p1, iv p2, iv p3, iv (1 : Int32), rv b2, iv x0, iv x1, iv x2, iv x3, rv b79, .unset, .unset, .unset, .unset, .unset, .unset, .unset, .unset, .unset, .unset, .unset, .unset] [(.int kk0)]))
  refine own_step (fun t k => XS.istore X84.here hx rfl (hb hby at_140) rfl (l' := #[iv p1, iv p2, iv p3, iv (1 : Int32), rv b2, iv x0, iv x1, iv x2, iv x3, rv b79, iv kk0, .unset, .unset, .unset, .unset, .unset, .unset, .unset, .unset, .unset, .unset, .unset]) rfl k) ?_
  refine own_step (fun t k => XS.aload X84.here hx rfl (hb hby at_142) rfl rfl k) ?_
  refine own_step (fun t k => XS.iload X84.here hx rfl (hb hby at_144) rfl k) ?_
  refine own_step (own_iaload X84 hx hZ e84 c86 (own_i4 hx1 rfl) (g := (mkF m 146 #[iv p1, iv p2, iv p3, iv (1 : Int32), rv b2, iv x0, iv x1, iv x2, iv x3, rv b79, iv kk0, .unset, .unset, .unset, .unset, .unset, .unset, .unset, .unset, .unset, .unset, .unset] [(.int x1), (.ref b2)])) rfl rfl (hb hby at_146)) ?_
  show own_G p.tables e below _ (T84.setTop (mkF m 147 #[iv p1, iv p2, iv p3, iv (1 : Int32), rv b2, iv x0, iv x1, iv x2, iv x3, rv b79, iv kk0, .unset, .unset, .unset, .unset, .unset, .unset, .unset, .unset, .unset, .unset, .unset] [(.int ([kv0, kv1, kv2, kv3].getD x1.toNatClampNeg 0))]))
  refine own_nm (([kv0, kv1, kv2, kv3].getD x1.toNatClampNeg 0) : Int32) (fun kk1 => T84.setTop (mkF m 147 #[iv p1, iv p2, iv p3, iv (1 : Int32), rv b2, iv x0, iv x1, iv x2, iv x3, rv b79, iv kk0, .unset, .unset, .unset, .unset, .unset, .unset, .unset, .unset, .unset, .unset, .unset] [(.int kk1)])) ?_
  intro kk1 hd_kk1
  show own_G p.tables e below _ (T84.setTop (mkF m 147 #[iv p1, iv p2, iv p3, iv (1 : Int32), rv b2, iv x0, iv x1, iv x2, iv x3, rv b79, iv kk0, .unset, .unset, .unset, .unset, .unset, .unset, .unset, .unset, .unset, .unset, .unset] [(.int kk1)]))
  refine own_step (fun t k => XS.istore X84.here hx rfl (hb hby at_147) rfl (l' := #[iv p1, iv p2, iv p3, iv (1 : Int32), rv b2, iv x0, iv x1, iv x2, iv x3, rv b79, iv kk0, iv kk1, .unset, .unset, .unset, .unset, .unset, .unset, .unset, .unset, .unset, .unset]) rfl k) ?_
  refine own_step (fun t k => XS.aload X84.here hx rfl (hb hby at_149) rfl rfl k) ?_
  refine own_step (fun t k => XS.iload X84.here hx rfl (hb hby at_151) rfl k) ?_
  refine own_step (own_iaload X84 hx hZ e84 c86 (own_i4 hx2 rfl) (g := (mkF m 153 #[iv p1, iv p2, iv p3, iv (1 : Int32), rv b2, iv x0, iv x1, iv x2, iv x3, rv b79, iv kk0, iv kk1, .unset, .unset, .unset, .unset, .unset, .unset, .unset, .unset, .unset, .unset] [(.int x2), (.ref b2)])) rfl rfl (hb hby at_153)) ?_
  show own_G p.tables e below _ (T84.setTop (mkF m 154 #[iv p1, iv p2, iv p3, iv (1 : Int32), rv b2, iv x0, iv x1, iv x2, iv x3, rv b79, iv kk0, iv kk1, .unset, .unset, .unset, .unset, .unset, .unset, .unset, .unset, .unset, .unset] [(.int ([kv0, kv1, kv2, kv3].getD x2.toNatClampNeg 0))]))
  refine own_nm (([kv0, kv1, kv2, kv3].getD x2.toNatClampNeg 0) : Int32) (fun kk2 => T84.setTop (mkF m 154 #[iv p1, iv p2, iv p3, iv (1 : Int32), rv b2, iv x0, iv x1, iv x2, iv x3, rv b79, iv kk0, iv kk1, .unset, .unset, .unset, .unset, .unset, .unset, .unset, .unset, .unset, .unset] [(.int kk2)])) ?_
  intro kk2 hd_kk2
  show own_G p.tables e below _ (T84.setTop (mkF m 154 #[iv p1, iv p2, iv p3, iv (1 : Int32), rv b2, iv x0, iv x1, iv x2, iv x3, rv b79, iv kk0, iv kk1, .unset, .unset, .unset, .unset, .unset, .unset, .unset, .unset, .unset, .unset] [(.int kk2)]))
  refine own_step (fun t k => XS.istore X84.here hx rfl (hb hby at_154) rfl (l' := #[iv p1, iv p2, iv p3, iv (1 : Int32), rv b2, iv x0, iv x1, iv x2, iv x3, rv b79, iv kk0, iv kk1, iv kk2, .unset, .unset, .unset, .unset, .unset, .unset, .unset, .unset, .unset]) rfl k) ?_
  refine own_step (fun t k => XS.aload X84.here hx rfl (hb hby at_156) rfl rfl k) ?_
  refine own_step (fun t k => XS.iload X84.here hx rfl (hb hby at_158) rfl k) ?_
  refine own_step (own_iaload X84 hx hZ e84 c86 (own_i4 hx3 rfl) (g := (mkF m 160 #[iv p1, iv p2, iv p3, iv (1 : Int32), rv b2, iv x0, iv x1, iv x2, iv x3, rv b79, iv kk0, iv kk1, iv kk2, .unset, .unset, .unset, .unset, .unset, .unset, .unset, .unset, .unset] [(.int x3), (.ref b2)])) rfl rfl (hb hby at_160)) ?_
  show own_G p.tables e below _ (T84.setTop (mkF m 161 #[iv p1, iv p2, iv p3, iv (1 : Int32), rv b2, iv x0, iv x1, iv x2, iv x3, rv b79, iv kk0, iv kk1, iv kk2, .unset, .unset, .unset, .unset, .unset, .unset, .unset, .unset, .unset] [(.int ([kv0, kv1, kv2, kv3].getD x3.toNatClampNeg 0))]))
  refine own_nm (([kv0, kv1, kv2, kv3].getD x3.toNatClampNeg 0) : Int32) (fun kk3 => T84.setTop (mkF m 161 #[iv p1, iv p2, iv p3, iv (1 : Int32), rv b2, iv x0, iv x1, iv x2, iv x3, rv b79, iv kk0, iv kk1, iv kk2, .unset, .unset, .unset, .unset, .unset, .unset, .unset, .unset, .unset] [(.int kk3)])) ?_
  intro kk3 hd_kk3
  show own_G p.tables e below _ (T84.setTop (mkF m 161 #[iv p1, iv p2, iv p3, iv (1 : Int32), rv b2, iv x0, iv x1, iv x2, iv x3, rv b79, iv kk0, iv kk1, iv kk2, .unset, .unset, .unset, .unset, .unset, .unset, .unset, .unset, .unset] [(.int kk3)]))
  refine own_step (fun t k => XS.istore X84.here hx rfl (hb hby at_161) rfl (l' := #[iv p1, iv p2, iv p3, iv (1 : Int32), rv b2, iv x0, iv x1, iv x2, iv x3, rv b79, iv kk0, iv kk1, iv kk2, iv kk3, .unset, .unset, .unset, .unset, .unset, .unset, .unset, .unset]) rfl k) ?_
  have h30 : own_3 kk0 := by rw [hd_kk0]; exact own_k3 hv0 hv1 hv2 hv3 hx0
  have h31 : own_3 kk1 := by rw [hd_kk1]; exact own_k3 hv0 hv1 hv2 hv3 hx1
  have h32 : own_3 kk2 := by rw [hd_kk2]; exact own_k3 hv0 hv1 hv2 hv3 hx2
  have h33 : own_3 kk3 := by rw [hd_kk3]; exact own_k3 hv0 hv1 hv2 hv3 hx3
  refine own_step (fun t k => XS.iconst X84.here hx rfl (hb hby at_163) k) ?_
  refine own_step (fun t k => XS.iloadN X84.here hx rfl (hb hby at_164) rfl k) ?_
  refine own_step (fun t k => XS.iload X84.here hx rfl (hb hby at_165) rfl k) ?_
  show own_G p.tables e below _ (T84.setTop (mkF m 167 #[iv p1, iv p2, iv p3, iv (1 : Int32), rv b2, iv x0, iv x1, iv x2, iv x3, rv b79, iv kk0, iv kk1, iv kk2, iv kk3, .unset, .unset, .unset, .unset, .unset, .unset, .unset, .unset] [(.int kk0), (.int (1 : Int32)), (.int (0 : Int32))]))
  refine own_step (fun t k => XS.iload X84.here hx rfl (hb hby at_167) rfl k) ?_
  refine own_step (fun t k => XS.iload X84.here hx rfl (hb hby at_169) rfl k) ?_
  refine own_step (fun t k => XS.iload X84.here hx rfl (hb hby at_171) rfl k) ?_
  obtain ⟨_, _, ⟨T95, L95, k95, n95⟩, -, X95, ⟨Lc95, hQ95, l95, y95, z95⟩, st95⟩ := Jvm.LawKit.callS X84 hx (y := (⟨"com/example/stevedore/stevedore/MoveGraphGroupedPinLaw", "cnt", "(IIIIII)I"⟩ : MethodName)) hown (mvT hZ (hw _ (List.mem_of_getElem? (i := 1) rfl))) (mvT hZ (hw _ (List.mem_of_getElem? (i := 2) rfl))) (mvT hZ (hw _ (List.mem_of_getElem? (i := 3) rfl))) (mvT hZ (hw _ (List.mem_of_getElem? (i := 4) rfl))) (by decide) (backOf (W := 0) (rm1_n1 l Z a0 hw [] (0 : Int32) kk0 kk1 kk2 kk3 h84 n0 (Nat.le_trans Z0 K84.1) ) hZ (hw _ (List.mem_of_getElem? (i := 4) rfl)) (hw _ (List.mem_of_getElem? (i := 3) rfl)) (by decide) (by decide)) (g := (mkF m 173 #[iv p1, iv p2, iv p3, iv (1 : Int32), rv b2, iv x0, iv x1, iv x2, iv x3, rv b79, iv kk0, iv kk1, iv kk2, iv kk3, .unset, .unset, .unset, .unset, .unset, .unset, .unset, .unset] [(.int kk3), (.int kk2), (.int kk1), (.int kk0), (.int (1 : Int32)), (.int (0 : Int32))])) rfl (by rw [hml]; rfl) (argsL := [(.int (0 : Int32)), (.int (1 : Int32)), (.int kk0), (.int kk1), (.int kk2), (.int kk3)]) (rest := []) (lenOf pd_0_0 rfl) rfl (by show 2 * 0 + _ ≤ _; exact Nat.le_of_eq rfl) (hb hby at_173) (fun _ _ => ⟨rfl, e84, (by decide : 2 + 0 ≤ _), (by decide : 5 + 0 ≤ _)⟩)
  dsimp only [Pt.U, Pt.locs, Pt.cells, Pt.slots] at X95 l95 y95 z95 st95 hQ95
  subst y95 z95
  obtain ⟨rfl, N95q, e95⟩ := hQ95
  have N95 : Fr n0 L95 := by rw [l95]; exact Fr.app N84 N95q
  refine own_step st95 ?_
  show own_G p.tables e below _ (T95.setTop (mkF m 176 #[iv p1, iv p2, iv p3, iv (1 : Int32), rv b2, iv x0, iv x1, iv x2, iv x3, rv b79, iv kk0, iv kk1, iv kk2, iv kk3, .unset, .unset, .unset, .unset, .unset, .unset, .unset, .unset] [(.int ((((own_f2 (if kk0 = (0 : Int32) then (1 : Int32) else (0 : Int32))) + (own_f2 (0 : Int32))) + (own_f2 (0 : Int32))) + (own_f2 (0 : Int32))))]))
  refine own_nm (((((own_f2 (if kk0 = (0 : Int32) then (1 : Int32) else (0 : Int32))) + (own_f2 (0 : Int32))) + (own_f2 (0 : Int32))) + (own_f2 (0 : Int32))) : Int32) (fun ct0 => T95.setTop (mkF m 176 #[iv p1, iv p2, iv p3, iv (1 : Int32), rv b2, iv x0, iv x1, iv x2, iv x3, rv b79, iv kk0, iv kk1, iv kk2, iv kk3, .unset, .unset, .unset, .unset, .unset, .unset, .unset, .unset] [(.int ct0)])) ?_
  intro ct0 hd_ct0
  show own_G p.tables e below _ (T95.setTop (mkF m 176 #[iv p1, iv p2, iv p3, iv (1 : Int32), rv b2, iv x0, iv x1, iv x2, iv x3, rv b79, iv kk0, iv kk1, iv kk2, iv kk3, .unset, .unset, .unset, .unset, .unset, .unset, .unset, .unset] [(.int ct0)]))
  refine own_step (fun t k => XS.istore X95.here hx rfl (hb hby at_176) rfl (l' := #[iv p1, iv p2, iv p3, iv (1 : Int32), rv b2, iv x0, iv x1, iv x2, iv x3, rv b79, iv kk0, iv kk1, iv kk2, iv kk3, iv ct0, .unset, .unset, .unset, .unset, .unset, .unset, .unset]) rfl k) ?_
  refine own_step (fun t k => XS.iconst X95.here hx rfl (hb hby at_178) k) ?_
  refine own_step (fun t k => XS.iloadN X95.here hx rfl (hb hby at_179) rfl k) ?_
  refine own_step (fun t k => XS.iload X95.here hx rfl (hb hby at_180) rfl k) ?_
  show own_G p.tables e below _ (T95.setTop (mkF m 182 #[iv p1, iv p2, iv p3, iv (1 : Int32), rv b2, iv x0, iv x1, iv x2, iv x3, rv b79, iv kk0, iv kk1, iv kk2, iv kk3, iv ct0, .unset, .unset, .unset, .unset, .unset, .unset, .unset] [(.int kk0), (.int (1 : Int32)), (.int (1 : Int32))]))
  refine own_step (fun t k => XS.iload X95.here hx rfl (hb hby at_182) rfl k) ?_
  refine own_step (fun t k => XS.iload X95.here hx rfl (hb hby at_184) rfl k) ?_
  refine own_step (fun t k => XS.iload X95.here hx rfl (hb hby at_186) rfl k) ?_
  obtain ⟨_, _, ⟨T97, L97, k97, n97⟩, -, X97, ⟨Lc97, hQ97, l97, y97, z97⟩, st97⟩ := Jvm.LawKit.callS X95 hx (y := (⟨"com/example/stevedore/stevedore/MoveGraphGroupedPinLaw", "cnt", "(IIIIII)I"⟩ : MethodName)) hown (mvT hZ (hw _ (List.mem_of_getElem? (i := 1) rfl))) (mvT hZ (hw _ (List.mem_of_getElem? (i := 2) rfl))) (mvT hZ (hw _ (List.mem_of_getElem? (i := 3) rfl))) (mvT hZ (hw _ (List.mem_of_getElem? (i := 4) rfl))) (by decide) (backOf (W := 0) (rm1_n1 l Z a0 hw [] (1 : Int32) kk0 kk1 kk2 kk3 h84 n0 (Nat.le_trans Z0 K84.1) ) hZ (hw _ (List.mem_of_getElem? (i := 4) rfl)) (hw _ (List.mem_of_getElem? (i := 3) rfl)) (by decide) (by decide)) (g := (mkF m 188 #[iv p1, iv p2, iv p3, iv (1 : Int32), rv b2, iv x0, iv x1, iv x2, iv x3, rv b79, iv kk0, iv kk1, iv kk2, iv kk3, iv ct0, .unset, .unset, .unset, .unset, .unset, .unset, .unset] [(.int kk3), (.int kk2), (.int kk1), (.int kk0), (.int (1 : Int32)), (.int (1 : Int32))])) rfl (by rw [hml]; rfl) (argsL := [(.int (1 : Int32)), (.int (1 : Int32)), (.int kk0), (.int kk1), (.int kk2), (.int kk3)]) (rest := []) (lenOf pd_0_0 rfl) rfl (by show 2 * 0 + _ ≤ _; exact Nat.le_of_eq rfl) (hb hby at_188) (fun _ _ => ⟨rfl, e95, (by decide : 2 + 0 ≤ _), (by decide : 5 + 0 ≤ _)⟩)
  dsimp only [Pt.U, Pt.locs, Pt.cells, Pt.slots] at X97 l97 y97 z97 st97 hQ97
  subst y97 z97
  obtain ⟨rfl, N97q, e97⟩ := hQ97
  have N97 : Fr n0 L97 := by rw [l97]; exact Fr.app N95 N97q
  refine own_step st97 ?_
  clear N84 N95 N95q N97q X84 X95 e84 e95 hk88 hk89 hk90 st95 st97
  show own_G p.tables e below _ (T97.setTop (mkF m 191 #[iv p1, iv p2, iv p3, iv (1 : Int32), rv b2, iv x0, iv x1, iv x2, iv x3, rv b79, iv kk0, iv kk1, iv kk2, iv kk3, iv ct0, .unset, .unset, .unset, .unset, .unset, .unset, .unset] [(.int ((((own_f2 (if kk0 = (1 : Int32) then (1 : Int32) else (0 : Int32))) + (own_f2 (0 : Int32))) + (own_f2 (0 : Int32))) + (own_f2 (0 : Int32))))]))
  refine own_nm (((((own_f2 (if kk0 = (1 : Int32) then (1 : Int32) else (0 : Int32))) + (own_f2 (0 : Int32))) + (own_f2 (0 : Int32))) + (own_f2 (0 : Int32))) : Int32) (fun ct1 => T97.setTop (mkF m 191 #[iv p1, iv p2, iv p3, iv (1 : Int32), rv b2, iv x0, iv x1, iv x2, iv x3, rv b79, iv kk0, iv kk1, iv kk2, iv kk3, iv ct0, .unset, .unset, .unset, .unset, .unset, .unset, .unset] [(.int ct1)])) ?_
  intro ct1 hd_ct1
  show own_G p.tables e below _ (T97.setTop (mkF m 191 #[iv p1, iv p2, iv p3, iv (1 : Int32), rv b2, iv x0, iv x1, iv x2, iv x3, rv b79, iv kk0, iv kk1, iv kk2, iv kk3, iv ct0, .unset, .unset, .unset, .unset, .unset, .unset, .unset] [(.int ct1)]))
  refine own_step (fun t k => XS.istore X97.here hx rfl (hb hby at_191) rfl (l' := #[iv p1, iv p2, iv p3, iv (1 : Int32), rv b2, iv x0, iv x1, iv x2, iv x3, rv b79, iv kk0, iv kk1, iv kk2, iv kk3, iv ct0, iv ct1, .unset, .unset, .unset, .unset, .unset, .unset]) rfl k) ?_
  refine own_step (fun t k => XS.iconst X97.here hx rfl (hb hby at_193) k) ?_
  obtain ⟨T99, h99, k99, X99, e99, E99, A99, B99, st99⟩ := newPE X97 hx hZ (hw _ (List.mem_of_getElem? (i := 0) rfl)) e97 (g := (mkF m 194 #[iv p1, iv p2, iv p3, iv (1 : Int32), rv b2, iv x0, iv x1, iv x2, iv x3, rv b79, iv kk0, iv kk1, iv kk2, iv kk3, iv ct0, iv ct1, .unset, .unset, .unset, .unset, .unset, .unset] [(.int (4 : Int32))])) rfl (hb hby at_194) rfl (by decide) (cap := 4) (by decide) (by decide) (by decide) (by decide) (ad := "[I") (by decide)
  obtain ⟨b99, g99⟩ : ∃ z, z = h84.size := ⟨_, rfl⟩
  have ne100 : b2 ≠ b99 := Nat.ne_of_lt (Nat.lt_of_lt_of_le c86.lt (Nat.le_of_eq g99.symm))
  have ne101 : b79 ≠ b99 := Nat.ne_of_lt (Nat.lt_of_lt_of_le c85.lt (Nat.le_of_eq g99.symm))
  have sz99 : h0.size ≤ b99 := Nat.le_trans K84.1 (Nat.le_of_eq g99.symm)
  have ge99 : n0 ≤ b99 := Nat.le_trans Z0 sz99
  have c102 : own_Ari Z h99 b2 .int [kv0, kv1, kv2, kv3] := c86.ext E99
  have c103 : own_Ari Z h99 b79 .int [x0] := c85.ext E99
  have K99 : Keep h0 h99 [] := K84.ext E99
  rw [← g99] at A99 B99 st99
  have c104 : own_Ari Z h99 b99 .int [(0 : Int32), (0 : Int32), (0 : Int32), (0 : Int32)] := own_Ari_new (ty := .int) A99 (by decide) rfl
  refine own_step st99 ?_
  refine own_step (fun t k => XS.astore X99.here hx rfl (hb hby at_196) rfl rfl (l' := #[iv p1, iv p2, iv p3, iv (1 : Int32), rv b2, iv x0, iv x1, iv x2, iv x3, rv b79, iv kk0, iv kk1, iv kk2, iv kk3, iv ct0, iv ct1, rv b99, .unset, .unset, .unset, .unset, .unset]) rfl k) ?_
  show own_G p.tables e below _ (T99.setTop (mkF m 198 #[iv p1, iv p2, iv p3, iv (1 : Int32), rv b2, iv x0, iv x1, iv x2, iv x3, rv b79, iv kk0, iv kk1, iv kk2, iv kk3, iv ct0, iv ct1, rv b99, .unset, .unset, .unset, .unset, .unset] []))
  refine own_step (fun t k => XS.aload X99.here hx rfl (hb hby at_198) rfl rfl k) ?_
  refine own_step (fun t k => XS.aload X99.here hx rfl (hb hby at_200) rfl rfl k) ?_
  refine own_step (fun t k => XS.aload X99.here hx rfl (hb hby at_202) rfl rfl k) ?_
  obtain ⟨_, _, ⟨T105, L105, k105, n105⟩, -, X105, ⟨Lc105, hQ105, l105, y105, z105⟩, st105⟩ := Jvm.LawKit.callS X99 hx (y := (⟨"com/example/stevedore/stevedore/MoveGraph", "grouped", "([I[I[I)[I"⟩ : MethodName)) hown (mvT hZ (hw _ (List.mem_of_getElem? (i := 8) rfl))) (mvT hZ (hw _ (List.mem_of_getElem? (i := 9) rfl))) (mvT hZ (hw _ (List.mem_of_getElem? (i := 10) rfl))) (mvT hZ (hw _ (List.mem_of_getElem? (i := 11) rfl))) (by decide) (backOf (W := 0) (rm3_n1 l Z a0 hw [] b79 b2 b99 x0 kv0 kv1 kv2 kv3 kk0 h99 n0 (Nat.le_trans Z0 K99.1) c103 c102 c104 B99 (hx0 : own_4 x0) (hd_kk0.symm : ([kv0, kv1, kv2, kv3].getD x0.toNatClampNeg 0) = kk0) (h30 : own_3 kk0) ge99 ne101 ne100) hZ (hw _ (List.mem_of_getElem? (i := 11) rfl)) (hw _ (List.mem_of_getElem? (i := 10) rfl)) (by decide) (by decide)) (g := (mkF m 204 #[iv p1, iv p2, iv p3, iv (1 : Int32), rv b2, iv x0, iv x1, iv x2, iv x3, rv b79, iv kk0, iv kk1, iv kk2, iv kk3, iv ct0, iv ct1, rv b99, .unset, .unset, .unset, .unset, .unset] [(.ref b99), (.ref b2), (.ref b79)])) rfl (by rw [hml]; rfl) (argsL := [(.ref b79), (.ref b2), (.ref b99)]) (rest := []) (lenOf pd_0_1 rfl) rfl (by show 2 * 0 + _ ≤ _; exact Nat.le_of_eq rfl) (hb hby at_204) (fun _ _ => ⟨rfl, e99, (by decide : 3 + 2 ≤ _), (by decide : 9 + 5 ≤ _)⟩)
  dsimp only [Pt.U, Pt.locs, Pt.cells, Pt.slots] at X105 l105 y105 z105 st105 hQ105
  subst y105 z105
  obtain ⟨bx105_rb, rfl, N105q, K105q, w105_0, w105_1, sx105_0⟩ := hQ105
  have c106 : own_Ari Z T105.heap b2 .int [kv0, kv1, kv2, kv3] := c102.keep K105q (ninS ne100 nin0)
  have c107 : own_Ari Z T105.heap b79 .int [x0] := c103.keep K105q (ninS ne101 nin0)
  have c108 : Exa Z T105.heap b99 "[I" := B99.keep K105q
  have sz105_0 : h0.size ≤ bx105_rb := Nat.le_trans K99.1 sx105_0
  have ge105_0 : n0 ≤ bx105_rb := Nat.le_trans Z0 sz105_0
  have ne110 : b2 ≠ bx105_rb := Nat.ne_of_lt (Nat.lt_of_lt_of_le c102.lt sx105_0)
  have ne111 : b79 ≠ bx105_rb := Nat.ne_of_lt (Nat.lt_of_lt_of_le c103.lt sx105_0)
  have ne112 : b99 ≠ bx105_rb := Nat.ne_of_lt (Nat.lt_of_lt_of_le B99.lt sx105_0)
  have K105 : Keep h0 T105.heap [] := K99.trans K105q (allS (Or.inr sz99) all0)
  have N105 : Fr n0 L105 := by rw [l105]; exact Fr.app N97 N105q
  refine own_step st105 ?_
  clear A99 B99 E99 K105q K84 K99 N105q N97 X97 X99 c102 c103 c104 c85 c86 e97 e99 g99 st105 st99 sx105_0
  show own_G p.tables e below _ (T105.setTop (mkF m 207 #[iv p1, iv p2, iv p3, iv (1 : Int32), rv b2, iv x0, iv x1, iv x2, iv x3, rv b79, iv kk0, iv kk1, iv kk2, iv kk3, iv ct0, iv ct1, rv b99, .unset, .unset, .unset, .unset, .unset] [(.ref bx105_rb)]))
  refine own_step (fun t k => XS.astore X105.here hx rfl (hb hby at_207) rfl rfl (l' := #[iv p1, iv p2, iv p3, iv (1 : Int32), rv b2, iv x0, iv x1, iv x2, iv x3, rv b79, iv kk0, iv kk1, iv kk2, iv kk3, iv ct0, iv ct1, rv b99, rv bx105_rb, .unset, .unset, .unset, .unset]) rfl k) ?_
  refine own_step (fun t k => XS.aload X105.here hx rfl (hb hby at_209) rfl rfl k) ?_
  refine own_step (own_lenI X105 hx hZ rfl w105_1 (g := (mkF m 211 #[iv p1, iv p2, iv p3, iv (1 : Int32), rv b2, iv x0, iv x1, iv x2, iv x3, rv b79, iv kk0, iv kk1, iv kk2, iv kk3, iv ct0, iv ct1, rv b99, rv bx105_rb, .unset, .unset, .unset, .unset] [(.ref bx105_rb)])) rfl rfl (hb hby at_211)) ?_
  show own_G p.tables e below _ (T105.setTop (mkF m 212 #[iv p1, iv p2, iv p3, iv (1 : Int32), rv b2, iv x0, iv x1, iv x2, iv x3, rv b79, iv kk0, iv kk1, iv kk2, iv kk3, iv ct0, iv ct1, rv b99, rv bx105_rb, .unset, .unset, .unset, .unset] [(.int (([(0 : Int32)].set ((own_s1 kk0).getD kk0.toNatClampNeg 0).toNatClampNeg x0).length.toInt32))]))
  rw [show (([(0 : Int32)].set ((own_s1 kk0).getD kk0.toNatClampNeg 0).toNatClampNeg x0).length.toInt32) = (1 : Int32) from by simp only [List.length_set]; rfl]
  show own_G p.tables e below _ (T105.setTop (mkF m 212 #[iv p1, iv p2, iv p3, iv (1 : Int32), rv b2, iv x0, iv x1, iv x2, iv x3, rv b79, iv kk0, iv kk1, iv kk2, iv kk3, iv ct0, iv ct1, rv b99, rv bx105_rb, .unset, .unset, .unset, .unset] [(.int (1 : Int32))]))
  refine own_step (fun t k => XS.iloadN X105.here hx rfl (hb hby at_212) rfl k) ?_
  have hk113 : (1 : Int32) = (1 : Int32) := rfl
  refine own_step (fun t k => XS.icmpYes X105.here hx rfl (pc0 := 213) (pc' := 218) rfl (hb hby at_213) rfl ((teq hk113).1) (by decide) (by decide) k) ?_
  show own_G p.tables e below _ (T105.setTop (mkF m 218 #[iv p1, iv p2, iv p3, iv (1 : Int32), rv b2, iv x0, iv x1, iv x2, iv x3, rv b79, iv kk0, iv kk1, iv kk2, iv kk3, iv ct0, iv ct1, rv b99, rv bx105_rb, .unset, .unset, .unset, .unset] []))
  refine own_step (fun t k => XS.aload X105.here hx rfl (hb hby at_218) rfl rfl k) ?_
  refine own_step (fun t k => XS.iconst X105.here hx rfl (hb hby at_220) k) ?_
  refine own_step (own_iaload X105 hx hZ rfl w105_0 (own_inb (by decide) (by rw [own_s1_len]; decide)) (g := (mkF m 221 #[iv p1, iv p2, iv p3, iv (1 : Int32), rv b2, iv x0, iv x1, iv x2, iv x3, rv b79, iv kk0, iv kk1, iv kk2, iv kk3, iv ct0, iv ct1, rv b99, rv bx105_rb, .unset, .unset, .unset, .unset] [(.int (0 : Int32)), (.ref b99)])) rfl rfl (hb hby at_221)) ?_
  have hk114 : ((own_s1 kk0).getD 0 0) = (0 : Int32) := own_a1 (kk0 := kk0) (kk1 := kk1) (kk2 := kk2) (kk3 := kk3) (ct0 := ct0) (ct1 := ct1) h30 hd_ct0 hd_ct1
  refine own_step (fun t k => XS.ifNo X105.here hx rfl (hb hby at_222) rfl ((if0 _ _).trans (teq hk114).2) k) ?_
  show own_G p.tables e below _ (T105.setTop (mkF m 225 #[iv p1, iv p2, iv p3, iv (1 : Int32), rv b2, iv x0, iv x1, iv x2, iv x3, rv b79, iv kk0, iv kk1, iv kk2, iv kk3, iv ct0, iv ct1, rv b99, rv bx105_rb, .unset, .unset, .unset, .unset] []))
  refine own_step (fun t k => XS.aload X105.here hx rfl (hb hby at_225) rfl rfl k) ?_
  refine own_step (fun t k => XS.iconst X105.here hx rfl (hb hby at_227) k) ?_
  refine own_step (own_iaload X105 hx hZ rfl w105_0 (own_inb (by decide) (by rw [own_s1_len]; decide)) (g := (mkF m 228 #[iv p1, iv p2, iv p3, iv (1 : Int32), rv b2, iv x0, iv x1, iv x2, iv x3, rv b79, iv kk0, iv kk1, iv kk2, iv kk3, iv ct0, iv ct1, rv b99, rv bx105_rb, .unset, .unset, .unset, .unset] [(.int (1 : Int32)), (.ref b99)])) rfl rfl (hb hby at_228)) ?_
  refine own_step (fun t k => XS.iload X105.here hx rfl (hb hby at_229) rfl k) ?_
  show own_G p.tables e below _ (T105.setTop (mkF m 231 #[iv p1, iv p2, iv p3, iv (1 : Int32), rv b2, iv x0, iv x1, iv x2, iv x3, rv b79, iv kk0, iv kk1, iv kk2, iv kk3, iv ct0, iv ct1, rv b99, rv bx105_rb, .unset, .unset, .unset, .unset] [(.int ct0), (.int ((own_s1 kk0).getD 1 0))]))
  have hk115 : ((own_s1 kk0).getD 1 0) = ct0 := own_b1 (kk0 := kk0) (kk1 := kk1) (kk2 := kk2) (kk3 := kk3) (ct0 := ct0) (ct1 := ct1) h30 hd_ct0 hd_ct1
  refine own_step (fun t k => XS.icmpNo X105.here hx rfl (hb hby at_231) rfl ((teq hk115).2) k) ?_
  show own_G p.tables e below _ (T105.setTop (mkF m 234 #[iv p1, iv p2, iv p3, iv (1 : Int32), rv b2, iv x0, iv x1, iv x2, iv x3, rv b79, iv kk0, iv kk1, iv kk2, iv kk3, iv ct0, iv ct1, rv b99, rv bx105_rb, .unset, .unset, .unset, .unset] []))
  refine own_step (fun t k => XS.aload X105.here hx rfl (hb hby at_234) rfl rfl k) ?_
  refine own_step (fun t k => XS.iconst X105.here hx rfl (hb hby at_236) k) ?_
  refine own_step (own_iaload X105 hx hZ rfl w105_0 (own_inb (by decide) (by rw [own_s1_len]; decide)) (g := (mkF m 237 #[iv p1, iv p2, iv p3, iv (1 : Int32), rv b2, iv x0, iv x1, iv x2, iv x3, rv b79, iv kk0, iv kk1, iv kk2, iv kk3, iv ct0, iv ct1, rv b99, rv bx105_rb, .unset, .unset, .unset, .unset] [(.int (2 : Int32)), (.ref b99)])) rfl rfl (hb hby at_237)) ?_
  refine own_step (fun t k => XS.iload X105.here hx rfl (hb hby at_238) rfl k) ?_
  show own_G p.tables e below _ (T105.setTop (mkF m 240 #[iv p1, iv p2, iv p3, iv (1 : Int32), rv b2, iv x0, iv x1, iv x2, iv x3, rv b79, iv kk0, iv kk1, iv kk2, iv kk3, iv ct0, iv ct1, rv b99, rv bx105_rb, .unset, .unset, .unset, .unset] [(.int ct0), (.int ((own_s1 kk0).getD 2 0))]))
  refine own_step (fun t k => XS.iload X105.here hx rfl (hb hby at_240) rfl k) ?_
  refine own_step (fun t k => XS.iadd X105.here hx rfl (hb hby at_242) rfl k) ?_
  have hk116 : ((own_s1 kk0).getD 2 0) = (ct0 + ct1) := own_c1 (kk0 := kk0) (kk1 := kk1) (kk2 := kk2) (kk3 := kk3) (ct0 := ct0) (ct1 := ct1) h30 hd_ct0 hd_ct1
  refine own_step (fun t k => XS.icmpNo X105.here hx rfl (hb hby at_243) rfl ((teq hk116).2) k) ?_
  show own_G p.tables e below _ (T105.setTop (mkF m 246 #[iv p1, iv p2, iv p3, iv (1 : Int32), rv b2, iv x0, iv x1, iv x2, iv x3, rv b79, iv kk0, iv kk1, iv kk2, iv kk3, iv ct0, iv ct1, rv b99, rv bx105_rb, .unset, .unset, .unset, .unset] []))
  refine own_step (fun t k => XS.aload X105.here hx rfl (hb hby at_246) rfl rfl k) ?_
  refine own_step (fun t k => XS.iconst X105.here hx rfl (hb hby at_248) k) ?_
  refine own_step (own_iaload X105 hx hZ rfl w105_0 (own_inb (by decide) (by rw [own_s1_len]; decide)) (g := (mkF m 249 #[iv p1, iv p2, iv p3, iv (1 : Int32), rv b2, iv x0, iv x1, iv x2, iv x3, rv b79, iv kk0, iv kk1, iv kk2, iv kk3, iv ct0, iv ct1, rv b99, rv bx105_rb, .unset, .unset, .unset, .unset] [(.int (3 : Int32)), (.ref b99)])) rfl rfl (hb hby at_249)) ?_
  refine own_step (fun t k => XS.iloadN X105.here hx rfl (hb hby at_250) rfl k) ?_
  show own_G p.tables e below _ (T105.setTop (mkF m 251 #[iv p1, iv p2, iv p3, iv (1 : Int32), rv b2, iv x0, iv x1, iv x2, iv x3, rv b79, iv kk0, iv kk1, iv kk2, iv kk3, iv ct0, iv ct1, rv b99, rv bx105_rb, .unset, .unset, .unset, .unset] [(.int (1 : Int32)), (.int ((own_s1 kk0).getD 3 0))]))
  have hk117 : ((own_s1 kk0).getD 3 0) = (1 : Int32) := own_d1 (kk0 := kk0) (kk1 := kk1) (kk2 := kk2) (kk3 := kk3) (ct0 := ct0) (ct1 := ct1) h30 hd_ct0 hd_ct1
  refine own_step (fun t k => XS.icmpYes X105.here hx rfl (pc0 := 251) (pc' := 256) rfl (hb hby at_251) rfl ((teq hk117).1) (by decide) (by decide) k) ?_
  show own_G p.tables e below _ (T105.setTop (mkF m 256 #[iv p1, iv p2, iv p3, iv (1 : Int32), rv b2, iv x0, iv x1, iv x2, iv x3, rv b79, iv kk0, iv kk1, iv kk2, iv kk3, iv ct0, iv ct1, rv b99, rv bx105_rb, .unset, .unset, .unset, .unset] []))
  refine own_step (fun t k => XS.iload X105.here hx rfl (hb hby at_256) rfl k) ?_
  refine own_step (fun t k => XS.iload X105.here hx rfl (hb hby at_258) rfl k) ?_
  refine own_step (fun t k => XS.iload X105.here hx rfl (hb hby at_260) rfl k) ?_
  refine own_step (fun t k => XS.iloadN X105.here hx rfl (hb hby at_262) rfl k) ?_
  show own_G p.tables e below _ (T105.setTop (mkF m 263 #[iv p1, iv p2, iv p3, iv (1 : Int32), rv b2, iv x0, iv x1, iv x2, iv x3, rv b79, iv kk0, iv kk1, iv kk2, iv kk3, iv ct0, iv ct1, rv b99, rv bx105_rb, .unset, .unset, .unset, .unset] [(.int (1 : Int32)), (.int ct1), (.int ct0), (.int kk0)]))
  obtain ⟨_, _, ⟨T118, L118, k118, n118⟩, -, X118, ⟨Lc118, hQ118, l118, y118, z118⟩, st118⟩ := Jvm.LawKit.callS X105 hx (y := (⟨"com/example/stevedore/stevedore/MoveGraphGroupedPinLaw", "se", "(IIII)I"⟩ : MethodName)) hown (mvT hZ (hw _ (List.mem_of_getElem? (i := 21) rfl))) (mvT hZ (hw _ (List.mem_of_getElem? (i := 22) rfl))) (mvT hZ (hw _ (List.mem_of_getElem? (i := 3) rfl))) (mvT hZ (hw _ (List.mem_of_getElem? (i := 23) rfl))) (by decide) (backOf (W := 0) (rm4 l Z a0 hw [] kk0 ct0 ct1 (1 : Int32) T105.heap n0 (Nat.le_trans Z0 K105.1) ) hZ (hw _ (List.mem_of_getElem? (i := 23) rfl)) (hw _ (List.mem_of_getElem? (i := 3) rfl)) (by decide) (by decide)) (g := (mkF m 263 #[iv p1, iv p2, iv p3, iv (1 : Int32), rv b2, iv x0, iv x1, iv x2, iv x3, rv b79, iv kk0, iv kk1, iv kk2, iv kk3, iv ct0, iv ct1, rv b99, rv bx105_rb, .unset, .unset, .unset, .unset] [(.int (1 : Int32)), (.int ct1), (.int ct0), (.int kk0)])) rfl (by rw [hml]; rfl) (argsL := [(.int kk0), (.int ct0), (.int ct1), (.int (1 : Int32))]) (rest := []) (lenOf pd_0_2 rfl) rfl (by show 2 * 0 + _ ≤ _; exact Nat.le_of_eq rfl) (hb hby at_263) (fun _ _ => ⟨rfl, rfl, (by decide : 5 + 0 ≤ _), (by decide : 14 + 0 ≤ _)⟩)
  dsimp only [Pt.U, Pt.locs, Pt.cells, Pt.slots] at X118 l118 y118 z118 st118 hQ118
  subst y118 z118
  obtain ⟨rfl, N118q, e118⟩ := hQ118
  have N118 : Fr n0 L118 := by rw [l118]; exact Fr.app N105 N118q
  refine own_step st118 ?_
  refine own_nm ((own_f4 kk0 ct0 ct1 (1 : Int32)) : Int32) (fun pp0 => T118.setTop (mkF m 266 #[iv p1, iv p2, iv p3, iv (1 : Int32), rv b2, iv x0, iv x1, iv x2, iv x3, rv b79, iv kk0, iv kk1, iv kk2, iv kk3, iv ct0, iv ct1, rv b99, rv bx105_rb, .unset, .unset, .unset, .unset] [(.int pp0)])) ?_
  intro pp0 hd_pp0
  show own_G p.tables e below _ (T118.setTop (mkF m 266 #[iv p1, iv p2, iv p3, iv (1 : Int32), rv b2, iv x0, iv x1, iv x2, iv x3, rv b79, iv kk0, iv kk1, iv kk2, iv kk3, iv ct0, iv ct1, rv b99, rv bx105_rb, .unset, .unset, .unset, .unset] [(.int pp0)]))
  refine own_step (fun t k => XS.istore X118.here hx rfl (hb hby at_266) rfl (l' := #[iv p1, iv p2, iv p3, iv (1 : Int32), rv b2, iv x0, iv x1, iv x2, iv x3, rv b79, iv kk0, iv kk1, iv kk2, iv kk3, iv ct0, iv ct1, rv b99, rv bx105_rb, iv pp0, .unset, .unset, .unset]) rfl k) ?_
  refine own_step (fun t k => XS.iload X118.here hx rfl (hb hby at_268) rfl k) ?_
  refine own_step (fun t k => XS.iload X118.here hx rfl (hb hby at_270) rfl k) ?_
  refine own_step (fun t k => XS.iload X118.here hx rfl (hb hby at_272) rfl k) ?_
  show own_G p.tables e below _ (T118.setTop (mkF m 274 #[iv p1, iv p2, iv p3, iv (1 : Int32), rv b2, iv x0, iv x1, iv x2, iv x3, rv b79, iv kk0, iv kk1, iv kk2, iv kk3, iv ct0, iv ct1, rv b99, rv bx105_rb, iv pp0, .unset, .unset, .unset] [(.int ct1), (.int ct0), (.int kk1)]))
  refine own_step (fun t k => XS.iloadN X118.here hx rfl (hb hby at_274) rfl k) ?_
  obtain ⟨_, _, ⟨T120, L120, k120, n120⟩, -, X120, ⟨Lc120, hQ120, l120, y120, z120⟩, st120⟩ := Jvm.LawKit.callS X118 hx (y := (⟨"com/example/stevedore/stevedore/MoveGraphGroupedPinLaw", "se", "(IIII)I"⟩ : MethodName)) hown (mvT hZ (hw _ (List.mem_of_getElem? (i := 21) rfl))) (mvT hZ (hw _ (List.mem_of_getElem? (i := 22) rfl))) (mvT hZ (hw _ (List.mem_of_getElem? (i := 3) rfl))) (mvT hZ (hw _ (List.mem_of_getElem? (i := 23) rfl))) (by decide) (backOf (W := 0) (rm4 l Z a0 hw [] kk1 ct0 ct1 (1 : Int32) T105.heap n0 (Nat.le_trans Z0 K105.1) ) hZ (hw _ (List.mem_of_getElem? (i := 23) rfl)) (hw _ (List.mem_of_getElem? (i := 3) rfl)) (by decide) (by decide)) (g := (mkF m 275 #[iv p1, iv p2, iv p3, iv (1 : Int32), rv b2, iv x0, iv x1, iv x2, iv x3, rv b79, iv kk0, iv kk1, iv kk2, iv kk3, iv ct0, iv ct1, rv b99, rv bx105_rb, iv pp0, .unset, .unset, .unset] [(.int (1 : Int32)), (.int ct1), (.int ct0), (.int kk1)])) rfl (by rw [hml]; rfl) (argsL := [(.int kk1), (.int ct0), (.int ct1), (.int (1 : Int32))]) (rest := []) (lenOf pd_0_2 rfl) rfl (by show 2 * 0 + _ ≤ _; exact Nat.le_of_eq rfl) (hb hby at_275) (fun _ _ => ⟨rfl, e118, (by decide : 5 + 0 ≤ _), (by decide : 14 + 0 ≤ _)⟩)
  dsimp only [Pt.U, Pt.locs, Pt.cells, Pt.slots] at X120 l120 y120 z120 st120 hQ120
  subst y120 z120
  obtain ⟨rfl, N120q, e120⟩ := hQ120
  have N120 : Fr n0 L120 := by rw [l120]; exact Fr.app N118 N120q
  refine own_step st120 ?_
  refine own_step (fun t k => XS.iload X120.here hx rfl (hb hby at_278) rfl k) ?_
  refine own_step (fun t k => XS.iload X120.here hx rfl (hb hby at_280) rfl k) ?_
  clear N105 N118 N118q N120q X105 X118 e118 hk113 hk114 hk115 hk116 hk117 st118 st120
  show own_G p.tables e below _ (T120.setTop (mkF m 282 #[iv p1, iv p2, iv p3, iv (1 : Int32), rv b2, iv x0, iv x1, iv x2, iv x3, rv b79, iv kk0, iv kk1, iv kk2, iv kk3, iv ct0, iv ct1, rv b99, rv bx105_rb, iv pp0, .unset, .unset, .unset] [(.int kk1), (.int kk0), (.int (own_f4 kk1 ct0 ct1 (1 : Int32)))]))
  refine own_imp (B := T120.setTop (mkF m 290 #[iv p1, iv p2, iv p3, iv (1 : Int32), rv b2, iv x0, iv x1, iv x2, iv x3, rv b79, iv kk0, iv kk1, iv kk2, iv kk3, iv ct0, iv ct1, rv b99, rv bx105_rb, iv pp0, .unset, .unset, .unset] [(.int (if kk0 = kk1 then (1 : Int32) else (0 : Int32))), (.int (own_f4 kk1 ct0 ct1 (1 : Int32)))])) (fun k0 => ?_) ?_
  · by_cases hc121 : kk0 = kk1
    · simp only [if_pos hc121] at k0
      refine own_step (fun t k => XS.icmpNo X120.here hx rfl (hb hby at_282) rfl ((teq hc121).2) k) ?_
      show own_G p.tables e below _ (T120.setTop (mkF m 285 #[iv p1, iv p2, iv p3, iv (1 : Int32), rv b2, iv x0, iv x1, iv x2, iv x3, rv b79, iv kk0, iv kk1, iv kk2, iv kk3, iv ct0, iv ct1, rv b99, rv bx105_rb, iv pp0, .unset, .unset, .unset] [(.int (own_f4 kk1 ct0 ct1 (1 : Int32)))]))
      refine own_step (fun t k => XS.iconst X120.here hx rfl (hb hby at_285) k) ?_
      refine own_step (fun t k => XS.goto X120.here hx rfl (pc0 := 286) (pc' := 290) rfl (hb hby at_286) (by decide) (by decide) k) ?_
      exact k0
    · simp only [if_neg hc121] at k0
      refine own_step (fun t k => XS.icmpYes X120.here hx rfl (pc0 := 282) (pc' := 289) rfl (hb hby at_282) rfl ((feq hc121).2) (by decide) (by decide) k) ?_
      show own_G p.tables e below _ (T120.setTop (mkF m 289 #[iv p1, iv p2, iv p3, iv (1 : Int32), rv b2, iv x0, iv x1, iv x2, iv x3, rv b79, iv kk0, iv kk1, iv kk2, iv kk3, iv ct0, iv ct1, rv b99, rv bx105_rb, iv pp0, .unset, .unset, .unset] [(.int (own_f4 kk1 ct0 ct1 (1 : Int32)))]))
      refine own_step (fun t k => XS.iconst X120.here hx rfl (hb hby at_289) k) ?_
      exact k0
  show own_G p.tables e below _ (T120.setTop (mkF m 290 #[iv p1, iv p2, iv p3, iv (1 : Int32), rv b2, iv x0, iv x1, iv x2, iv x3, rv b79, iv kk0, iv kk1, iv kk2, iv kk3, iv ct0, iv ct1, rv b99, rv bx105_rb, iv pp0, .unset, .unset, .unset] [(.int (if kk0 = kk1 then (1 : Int32) else (0 : Int32))), (.int (own_f4 kk1 ct0 ct1 (1 : Int32)))]))
  obtain ⟨_, _, ⟨T122, L122, k122, n122⟩, -, X122, ⟨Lc122, hQ122, l122, y122, z122⟩, st122⟩ := Jvm.LawKit.callS X120 hx (y := (⟨"com/example/stevedore/stevedore/MoveGraphGroupedPinLaw", "one", "(Z)I"⟩ : MethodName)) hown (mvT hZ (hw _ (List.mem_of_getElem? (i := 5) rfl))) (mvT hZ (hw _ (List.mem_of_getElem? (i := 6) rfl))) (mvT hZ (hw _ (List.mem_of_getElem? (i := 3) rfl))) (mvT hZ (hw _ (List.mem_of_getElem? (i := 7) rfl))) (by decide) (backOf (W := 1) (rm2 l Z a0 hw [] (if kk0 = kk1 then (1 : Int32) else (0 : Int32)) T105.heap n0 (Nat.le_trans Z0 K105.1) ) hZ (hw _ (List.mem_of_getElem? (i := 7) rfl)) (hw _ (List.mem_of_getElem? (i := 3) rfl)) (by decide) (by decide)) (g := (mkF m 290 #[iv p1, iv p2, iv p3, iv (1 : Int32), rv b2, iv x0, iv x1, iv x2, iv x3, rv b79, iv kk0, iv kk1, iv kk2, iv kk3, iv ct0, iv ct1, rv b99, rv bx105_rb, iv pp0, .unset, .unset, .unset] [(.int (if kk0 = kk1 then (1 : Int32) else (0 : Int32))), (.int (own_f4 kk1 ct0 ct1 (1 : Int32)))])) rfl (by rw [hml]; rfl) (argsL := [(.int (if kk0 = kk1 then (1 : Int32) else (0 : Int32)))]) (rest := [(.int (own_f4 kk1 ct0 ct1 (1 : Int32)))]) (lenOf pd_0_3 rfl) rfl (by show 2 * 0 + _ ≤ _; exact Nat.le_of_eq rfl) (hb hby at_290) (fun _ _ => ⟨rfl, e120, (by decide : 5 + 0 ≤ _), (by decide : 14 + 0 ≤ _)⟩)
  dsimp only [Pt.U, Pt.locs, Pt.cells, Pt.slots] at X122 l122 y122 z122 st122 hQ122
  subst y122 z122
  obtain ⟨rfl, N122q, e122⟩ := hQ122
  have N122 : Fr n0 L122 := by rw [l122]; exact Fr.app N120 N122q
  refine own_step st122 ?_
  refine own_step (fun t k => XS.iadd X122.here hx rfl (hb hby at_293) rfl k) ?_
  refine own_nm (((own_f4 kk1 ct0 ct1 (1 : Int32)) + (own_f2 (if kk0 = kk1 then (1 : Int32) else (0 : Int32)))) : Int32) (fun pp1 => T122.setTop (mkF m 294 #[iv p1, iv p2, iv p3, iv (1 : Int32), rv b2, iv x0, iv x1, iv x2, iv x3, rv b79, iv kk0, iv kk1, iv kk2, iv kk3, iv ct0, iv ct1, rv b99, rv bx105_rb, iv pp0, .unset, .unset, .unset] [(.int pp1)])) ?_
  intro pp1 hd_pp1
  show own_G p.tables e below _ (T122.setTop (mkF m 294 #[iv p1, iv p2, iv p3, iv (1 : Int32), rv b2, iv x0, iv x1, iv x2, iv x3, rv b79, iv kk0, iv kk1, iv kk2, iv kk3, iv ct0, iv ct1, rv b99, rv bx105_rb, iv pp0, .unset, .unset, .unset] [(.int pp1)]))
  refine own_step (fun t k => XS.istore X122.here hx rfl (hb hby at_294) rfl (l' := #[iv p1, iv p2, iv p3, iv (1 : Int32), rv b2, iv x0, iv x1, iv x2, iv x3, rv b79, iv kk0, iv kk1, iv kk2, iv kk3, iv ct0, iv ct1, rv b99, rv bx105_rb, iv pp0, iv pp1, .unset, .unset]) rfl k) ?_
  refine own_step (fun t k => XS.iload X122.here hx rfl (hb hby at_296) rfl k) ?_
  refine own_step (fun t k => XS.iload X122.here hx rfl (hb hby at_298) rfl k) ?_
  refine own_step (fun t k => XS.iload X122.here hx rfl (hb hby at_300) rfl k) ?_
  show own_G p.tables e below _ (T122.setTop (mkF m 302 #[iv p1, iv p2, iv p3, iv (1 : Int32), rv b2, iv x0, iv x1, iv x2, iv x3, rv b79, iv kk0, iv kk1, iv kk2, iv kk3, iv ct0, iv ct1, rv b99, rv bx105_rb, iv pp0, iv pp1, .unset, .unset] [(.int ct1), (.int ct0), (.int kk2)]))
  refine own_step (fun t k => XS.iloadN X122.here hx rfl (hb hby at_302) rfl k) ?_
  obtain ⟨_, _, ⟨T124, L124, k124, n124⟩, -, X124, ⟨Lc124, hQ124, l124, y124, z124⟩, st124⟩ := Jvm.LawKit.callS X122 hx (y := (⟨"com/example/stevedore/stevedore/MoveGraphGroupedPinLaw", "se", "(IIII)I"⟩ : MethodName)) hown (mvT hZ (hw _ (List.mem_of_getElem? (i := 21) rfl))) (mvT hZ (hw _ (List.mem_of_getElem? (i := 22) rfl))) (mvT hZ (hw _ (List.mem_of_getElem? (i := 3) rfl))) (mvT hZ (hw _ (List.mem_of_getElem? (i := 23) rfl))) (by decide) (backOf (W := 0) (rm4 l Z a0 hw [] kk2 ct0 ct1 (1 : Int32) T105.heap n0 (Nat.le_trans Z0 K105.1) ) hZ (hw _ (List.mem_of_getElem? (i := 23) rfl)) (hw _ (List.mem_of_getElem? (i := 3) rfl)) (by decide) (by decide)) (g := (mkF m 303 #[iv p1, iv p2, iv p3, iv (1 : Int32), rv b2, iv x0, iv x1, iv x2, iv x3, rv b79, iv kk0, iv kk1, iv kk2, iv kk3, iv ct0, iv ct1, rv b99, rv bx105_rb, iv pp0, iv pp1, .unset, .unset] [(.int (1 : Int32)), (.int ct1), (.int ct0), (.int kk2)])) rfl (by rw [hml]; rfl) (argsL := [(.int kk2), (.int ct0), (.int ct1), (.int (1 : Int32))]) (rest := []) (lenOf pd_0_2 rfl) rfl (by show 2 * 0 + _ ≤ _; exact Nat.le_of_eq rfl) (hb hby at_303) (fun _ _ => ⟨rfl, e122, (by decide : 5 + 0 ≤ _), (by decide : 14 + 0 ≤ _)⟩)
  dsimp only [Pt.U, Pt.locs, Pt.cells, Pt.slots] at X124 l124 y124 z124 st124 hQ124
  subst y124 z124
  obtain ⟨rfl, N124q, e124⟩ := hQ124
  have N124 : Fr n0 L124 := by rw [l124]; exact Fr.app N122 N124q
  refine own_step st124 ?_
  refine own_step (fun t k => XS.iload X124.here hx rfl (hb hby at_306) rfl k) ?_
  refine own_step (fun t k => XS.iload X124.here hx rfl (hb hby at_308) rfl k) ?_
  clear N120 N122 N122q N124q X120 X122 e120 e122 st122 st124
  show own_G p.tables e below _ (T124.setTop (mkF m 310 #[iv p1, iv p2, iv p3, iv (1 : Int32), rv b2, iv x0, iv x1, iv x2, iv x3, rv b79, iv kk0, iv kk1, iv kk2, iv kk3, iv ct0, iv ct1, rv b99, rv bx105_rb, iv pp0, iv pp1, .unset, .unset] [(.int kk2), (.int kk0), (.int (own_f4 kk2 ct0 ct1 (1 : Int32)))]))
  refine own_imp (B := T124.setTop (mkF m 318 #[iv p1, iv p2, iv p3, iv (1 : Int32), rv b2, iv x0, iv x1, iv x2, iv x3, rv b79, iv kk0, iv kk1, iv kk2, iv kk3, iv ct0, iv ct1, rv b99, rv bx105_rb, iv pp0, iv pp1, .unset, .unset] [(.int (if kk0 = kk2 then (1 : Int32) else (0 : Int32))), (.int (own_f4 kk2 ct0 ct1 (1 : Int32)))])) (fun k0 => ?_) ?_
  · by_cases hc125 : kk0 = kk2
    · simp only [if_pos hc125] at k0
      refine own_step (fun t k => XS.icmpNo X124.here hx rfl (hb hby at_310) rfl ((teq hc125).2) k) ?_
      show own_G p.tables e below _ (T124.setTop (mkF m 313 #[iv p1, iv p2, iv p3, iv (1 : Int32), rv b2, iv x0, iv x1, iv x2, iv x3, rv b79, iv kk0, iv kk1, iv kk2, iv kk3, iv ct0, iv ct1, rv b99, rv bx105_rb, iv pp0, iv pp1, .unset, .unset] [(.int (own_f4 kk2 ct0 ct1 (1 : Int32)))]))
      refine own_step (fun t k => XS.iconst X124.here hx rfl (hb hby at_313) k) ?_
      refine own_step (fun t k => XS.goto X124.here hx rfl (pc0 := 314) (pc' := 318) rfl (hb hby at_314) (by decide) (by decide) k) ?_
      exact k0
    · simp only [if_neg hc125] at k0
      refine own_step (fun t k => XS.icmpYes X124.here hx rfl (pc0 := 310) (pc' := 317) rfl (hb hby at_310) rfl ((feq hc125).2) (by decide) (by decide) k) ?_
      show own_G p.tables e below _ (T124.setTop (mkF m 317 #[iv p1, iv p2, iv p3, iv (1 : Int32), rv b2, iv x0, iv x1, iv x2, iv x3, rv b79, iv kk0, iv kk1, iv kk2, iv kk3, iv ct0, iv ct1, rv b99, rv bx105_rb, iv pp0, iv pp1, .unset, .unset] [(.int (own_f4 kk2 ct0 ct1 (1 : Int32)))]))
      refine own_step (fun t k => XS.iconst X124.here hx rfl (hb hby at_317) k) ?_
      exact k0
  show own_G p.tables e below _ (T124.setTop (mkF m 318 #[iv p1, iv p2, iv p3, iv (1 : Int32), rv b2, iv x0, iv x1, iv x2, iv x3, rv b79, iv kk0, iv kk1, iv kk2, iv kk3, iv ct0, iv ct1, rv b99, rv bx105_rb, iv pp0, iv pp1, .unset, .unset] [(.int (if kk0 = kk2 then (1 : Int32) else (0 : Int32))), (.int (own_f4 kk2 ct0 ct1 (1 : Int32)))]))
  obtain ⟨_, _, ⟨T126, L126, k126, n126⟩, -, X126, ⟨Lc126, hQ126, l126, y126, z126⟩, st126⟩ := Jvm.LawKit.callS X124 hx (y := (⟨"com/example/stevedore/stevedore/MoveGraphGroupedPinLaw", "one", "(Z)I"⟩ : MethodName)) hown (mvT hZ (hw _ (List.mem_of_getElem? (i := 5) rfl))) (mvT hZ (hw _ (List.mem_of_getElem? (i := 6) rfl))) (mvT hZ (hw _ (List.mem_of_getElem? (i := 3) rfl))) (mvT hZ (hw _ (List.mem_of_getElem? (i := 7) rfl))) (by decide) (backOf (W := 1) (rm2 l Z a0 hw [] (if kk0 = kk2 then (1 : Int32) else (0 : Int32)) T105.heap n0 (Nat.le_trans Z0 K105.1) ) hZ (hw _ (List.mem_of_getElem? (i := 7) rfl)) (hw _ (List.mem_of_getElem? (i := 3) rfl)) (by decide) (by decide)) (g := (mkF m 318 #[iv p1, iv p2, iv p3, iv (1 : Int32), rv b2, iv x0, iv x1, iv x2, iv x3, rv b79, iv kk0, iv kk1, iv kk2, iv kk3, iv ct0, iv ct1, rv b99, rv bx105_rb, iv pp0, iv pp1, .unset, .unset] [(.int (if kk0 = kk2 then (1 : Int32) else (0 : Int32))), (.int (own_f4 kk2 ct0 ct1 (1 : Int32)))])) rfl (by rw [hml]; rfl) (argsL := [(.int (if kk0 = kk2 then (1 : Int32) else (0 : Int32)))]) (rest := [(.int (own_f4 kk2 ct0 ct1 (1 : Int32)))]) (lenOf pd_0_3 rfl) rfl (by show 2 * 0 + _ ≤ _; exact Nat.le_of_eq rfl) (hb hby at_318) (fun _ _ => ⟨rfl, e124, (by decide : 5 + 0 ≤ _), (by decide : 14 + 0 ≤ _)⟩)
  dsimp only [Pt.U, Pt.locs, Pt.cells, Pt.slots] at X126 l126 y126 z126 st126 hQ126
  subst y126 z126
  obtain ⟨rfl, N126q, e126⟩ := hQ126
  have N126 : Fr n0 L126 := by rw [l126]; exact Fr.app N124 N126q
  refine own_step st126 ?_
  refine own_step (fun t k => XS.iadd X126.here hx rfl (hb hby at_321) rfl k) ?_
  refine own_step (fun t k => XS.iload X126.here hx rfl (hb hby at_322) rfl k) ?_
  refine own_step (fun t k => XS.iload X126.here hx rfl (hb hby at_324) rfl k) ?_
  show own_G p.tables e below _ (T126.setTop (mkF m 326 #[iv p1, iv p2, iv p3, iv (1 : Int32), rv b2, iv x0, iv x1, iv x2, iv x3, rv b79, iv kk0, iv kk1, iv kk2, iv kk3, iv ct0, iv ct1, rv b99, rv bx105_rb, iv pp0, iv pp1, .unset, .unset] [(.int kk2), (.int kk1), (.int ((own_f4 kk2 ct0 ct1 (1 : Int32)) + (own_f2 (if kk0 = kk2 then (1 : Int32) else (0 : Int32)))))]))
  refine own_imp (B := T126.setTop (mkF m 334 #[iv p1, iv p2, iv p3, iv (1 : Int32), rv b2, iv x0, iv x1, iv x2, iv x3, rv b79, iv kk0, iv kk1, iv kk2, iv kk3, iv ct0, iv ct1, rv b99, rv bx105_rb, iv pp0, iv pp1, .unset, .unset] [(.int (if kk1 = kk2 then (1 : Int32) else (0 : Int32))), (.int ((own_f4 kk2 ct0 ct1 (1 : Int32)) + (own_f2 (if kk0 = kk2 then (1 : Int32) else (0 : Int32)))))])) (fun k0 => ?_) ?_
  · by_cases hc127 : kk1 = kk2
    · simp only [if_pos hc127] at k0
      refine own_step (fun t k => XS.icmpNo X126.here hx rfl (hb hby at_326) rfl ((teq hc127).2) k) ?_
      show own_G p.tables e below _ (T126.setTop (mkF m 329 #[iv p1, iv p2, iv p3, iv (1 : Int32), rv b2, iv x0, iv x1, iv x2, iv x3, rv b79, iv kk0, iv kk1, iv kk2, iv kk3, iv ct0, iv ct1, rv b99, rv bx105_rb, iv pp0, iv pp1, .unset, .unset] [(.int ((own_f4 kk2 ct0 ct1 (1 : Int32)) + (own_f2 (if kk0 = kk2 then (1 : Int32) else (0 : Int32)))))]))
      refine own_step (fun t k => XS.iconst X126.here hx rfl (hb hby at_329) k) ?_
      refine own_step (fun t k => XS.goto X126.here hx rfl (pc0 := 330) (pc' := 334) rfl (hb hby at_330) (by decide) (by decide) k) ?_
      exact k0
    · simp only [if_neg hc127] at k0
      refine own_step (fun t k => XS.icmpYes X126.here hx rfl (pc0 := 326) (pc' := 333) rfl (hb hby at_326) rfl ((feq hc127).2) (by decide) (by decide) k) ?_
      show own_G p.tables e below _ (T126.setTop (mkF m 333 #[iv p1, iv p2, iv p3, iv (1 : Int32), rv b2, iv x0, iv x1, iv x2, iv x3, rv b79, iv kk0, iv kk1, iv kk2, iv kk3, iv ct0, iv ct1, rv b99, rv bx105_rb, iv pp0, iv pp1, .unset, .unset] [(.int ((own_f4 kk2 ct0 ct1 (1 : Int32)) + (own_f2 (if kk0 = kk2 then (1 : Int32) else (0 : Int32)))))]))
      refine own_step (fun t k => XS.iconst X126.here hx rfl (hb hby at_333) k) ?_
      exact k0
  show own_G p.tables e below _ (T126.setTop (mkF m 334 #[iv p1, iv p2, iv p3, iv (1 : Int32), rv b2, iv x0, iv x1, iv x2, iv x3, rv b79, iv kk0, iv kk1, iv kk2, iv kk3, iv ct0, iv ct1, rv b99, rv bx105_rb, iv pp0, iv pp1, .unset, .unset] [(.int (if kk1 = kk2 then (1 : Int32) else (0 : Int32))), (.int ((own_f4 kk2 ct0 ct1 (1 : Int32)) + (own_f2 (if kk0 = kk2 then (1 : Int32) else (0 : Int32)))))]))
  obtain ⟨_, _, ⟨T128, L128, k128, n128⟩, -, X128, ⟨Lc128, hQ128, l128, y128, z128⟩, st128⟩ := Jvm.LawKit.callS X126 hx (y := (⟨"com/example/stevedore/stevedore/MoveGraphGroupedPinLaw", "one", "(Z)I"⟩ : MethodName)) hown (mvT hZ (hw _ (List.mem_of_getElem? (i := 5) rfl))) (mvT hZ (hw _ (List.mem_of_getElem? (i := 6) rfl))) (mvT hZ (hw _ (List.mem_of_getElem? (i := 3) rfl))) (mvT hZ (hw _ (List.mem_of_getElem? (i := 7) rfl))) (by decide) (backOf (W := 1) (rm2 l Z a0 hw [] (if kk1 = kk2 then (1 : Int32) else (0 : Int32)) T105.heap n0 (Nat.le_trans Z0 K105.1) ) hZ (hw _ (List.mem_of_getElem? (i := 7) rfl)) (hw _ (List.mem_of_getElem? (i := 3) rfl)) (by decide) (by decide)) (g := (mkF m 334 #[iv p1, iv p2, iv p3, iv (1 : Int32), rv b2, iv x0, iv x1, iv x2, iv x3, rv b79, iv kk0, iv kk1, iv kk2, iv kk3, iv ct0, iv ct1, rv b99, rv bx105_rb, iv pp0, iv pp1, .unset, .unset] [(.int (if kk1 = kk2 then (1 : Int32) else (0 : Int32))), (.int ((own_f4 kk2 ct0 ct1 (1 : Int32)) + (own_f2 (if kk0 = kk2 then (1 : Int32) else (0 : Int32)))))])) rfl (by rw [hml]; rfl) (argsL := [(.int (if kk1 = kk2 then (1 : Int32) else (0 : Int32)))]) (rest := [(.int ((own_f4 kk2 ct0 ct1 (1 : Int32)) + (own_f2 (if kk0 = kk2 then (1 : Int32) else (0 : Int32)))))]) (lenOf pd_0_3 rfl) rfl (by show 2 * 0 + _ ≤ _; exact Nat.le_of_eq rfl) (hb hby at_334) (fun _ _ => ⟨rfl, e126, (by decide : 5 + 0 ≤ _), (by decide : 14 + 0 ≤ _)⟩)
  dsimp only [Pt.U, Pt.locs, Pt.cells, Pt.slots] at X128 l128 y128 z128 st128 hQ128
  subst y128 z128
  obtain ⟨rfl, N128q, e128⟩ := hQ128
  have N128 : Fr n0 L128 := by rw [l128]; exact Fr.app N126 N128q
  refine own_step st128 ?_
  refine own_step (fun t k => XS.iadd X128.here hx rfl (hb hby at_337) rfl k) ?_
  refine own_nm ((((own_f4 kk2 ct0 ct1 (1 : Int32)) + (own_f2 (if kk0 = kk2 then (1 : Int32) else (0 : Int32)))) + (own_f2 (if kk1 = kk2 then (1 : Int32) else (0 : Int32)))) : Int32) (fun pp2 => T128.setTop (mkF m 338 #[iv p1, iv p2, iv p3, iv (1 : Int32), rv b2, iv x0, iv x1, iv x2, iv x3, rv b79, iv kk0, iv kk1, iv kk2, iv kk3, iv ct0, iv ct1, rv b99, rv bx105_rb, iv pp0, iv pp1, .unset, .unset] [(.int pp2)])) ?_
  intro pp2 hd_pp2
  clear N124 N126 N126q N128q X124 X126 e124 e126 st126 st128
  show own_G p.tables e below _ (T128.setTop (mkF m 338 #[iv p1, iv p2, iv p3, iv (1 : Int32), rv b2, iv x0, iv x1, iv x2, iv x3, rv b79, iv kk0, iv kk1, iv kk2, iv kk3, iv ct0, iv ct1, rv b99, rv bx105_rb, iv pp0, iv pp1, .unset, .unset] [(.int pp2)]))
  refine own_step (fun t k => XS.istore X128.here hx rfl (hb hby at_338) rfl (l' := #[iv p1, iv p2, iv p3, iv (1 : Int32), rv b2, iv x0, iv x1, iv x2, iv x3, rv b79, iv kk0, iv kk1, iv kk2, iv kk3, iv ct0, iv ct1, rv b99, rv bx105_rb, iv pp0, iv pp1, iv pp2, .unset]) rfl k) ?_
  refine own_step (fun t k => XS.iload X128.here hx rfl (hb hby at_340) rfl k) ?_
  refine own_step (fun t k => XS.iload X128.here hx rfl (hb hby at_342) rfl k) ?_
  refine own_step (fun t k => XS.iload X128.here hx rfl (hb hby at_344) rfl k) ?_
  show own_G p.tables e below _ (T128.setTop (mkF m 346 #[iv p1, iv p2, iv p3, iv (1 : Int32), rv b2, iv x0, iv x1, iv x2, iv x3, rv b79, iv kk0, iv kk1, iv kk2, iv kk3, iv ct0, iv ct1, rv b99, rv bx105_rb, iv pp0, iv pp1, iv pp2, .unset] [(.int ct1), (.int ct0), (.int kk3)]))
  refine own_step (fun t k => XS.iloadN X128.here hx rfl (hb hby at_346) rfl k) ?_
  obtain ⟨_, _, ⟨T130, L130, k130, n130⟩, -, X130, ⟨Lc130, hQ130, l130, y130, z130⟩, st130⟩ := Jvm.LawKit.callS X128 hx (y := (⟨"com/example/stevedore/stevedore/MoveGraphGroupedPinLaw", "se", "(IIII)I"⟩ : MethodName)) hown (mvT hZ (hw _ (List.mem_of_getElem? (i := 21) rfl))) (mvT hZ (hw _ (List.mem_of_getElem? (i := 22) rfl))) (mvT hZ (hw _ (List.mem_of_getElem? (i := 3) rfl))) (mvT hZ (hw _ (List.mem_of_getElem? (i := 23) rfl))) (by decide) (backOf (W := 0) (rm4 l Z a0 hw [] kk3 ct0 ct1 (1 : Int32) T105.heap n0 (Nat.le_trans Z0 K105.1) ) hZ (hw _ (List.mem_of_getElem? (i := 23) rfl)) (hw _ (List.mem_of_getElem? (i := 3) rfl)) (by decide) (by decide)) (g := (mkF m 347 #[iv p1, iv p2, iv p3, iv (1 : Int32), rv b2, iv x0, iv x1, iv x2, iv x3, rv b79, iv kk0, iv kk1, iv kk2, iv kk3, iv ct0, iv ct1, rv b99, rv bx105_rb, iv pp0, iv pp1, iv pp2, .unset] [(.int (1 : Int32)), (.int ct1), (.int ct0), (.int kk3)])) rfl (by rw [hml]; rfl) (argsL := [(.int kk3), (.int ct0), (.int ct1), (.int (1 : Int32))]) (rest := []) (lenOf pd_0_2 rfl) rfl (by show 2 * 0 + _ ≤ _; exact Nat.le_of_eq rfl) (hb hby at_347) (fun _ _ => ⟨rfl, e128, (by decide : 5 + 0 ≤ _), (by decide : 14 + 0 ≤ _)⟩)
  dsimp only [Pt.U, Pt.locs, Pt.cells, Pt.slots] at X130 l130 y130 z130 st130 hQ130
  subst y130 z130
  obtain ⟨rfl, N130q, e130⟩ := hQ130
  have N130 : Fr n0 L130 := by rw [l130]; exact Fr.app N128 N130q
  refine own_step st130 ?_
  refine own_step (fun t k => XS.iload X130.here hx rfl (hb hby at_350) rfl k) ?_
  refine own_step (fun t k => XS.iload X130.here hx rfl (hb hby at_352) rfl k) ?_
  show own_G p.tables e below _ (T130.setTop (mkF m 354 #[iv p1, iv p2, iv p3, iv (1 : Int32), rv b2, iv x0, iv x1, iv x2, iv x3, rv b79, iv kk0, iv kk1, iv kk2, iv kk3, iv ct0, iv ct1, rv b99, rv bx105_rb, iv pp0, iv pp1, iv pp2, .unset] [(.int kk3), (.int kk0), (.int (own_f4 kk3 ct0 ct1 (1 : Int32)))]))
  refine own_imp (B := T130.setTop (mkF m 362 #[iv p1, iv p2, iv p3, iv (1 : Int32), rv b2, iv x0, iv x1, iv x2, iv x3, rv b79, iv kk0, iv kk1, iv kk2, iv kk3, iv ct0, iv ct1, rv b99, rv bx105_rb, iv pp0, iv pp1, iv pp2, .unset] [(.int (if kk0 = kk3 then (1 : Int32) else (0 : Int32))), (.int (own_f4 kk3 ct0 ct1 (1 : Int32)))])) (fun k0 => ?_) ?_
  · by_cases hc131 : kk0 = kk3
    · simp only [if_pos hc131] at k0
      refine own_step (fun t k => XS.icmpNo X130.here hx rfl (hb hby at_354) rfl ((teq hc131).2) k) ?_
      show own_G p.tables e below _ (T130.setTop (mkF m 357 #[iv p1, iv p2, iv p3, iv (1 : Int32), rv b2, iv x0, iv x1, iv x2, iv x3, rv b79, iv kk0, iv kk1, iv kk2, iv kk3, iv ct0, iv ct1, rv b99, rv bx105_rb, iv pp0, iv pp1, iv pp2, .unset] [(.int (own_f4 kk3 ct0 ct1 (1 : Int32)))]))
      refine own_step (fun t k => XS.iconst X130.here hx rfl (hb hby at_357) k) ?_
      refine own_step (fun t k => XS.goto X130.here hx rfl (pc0 := 358) (pc' := 362) rfl (hb hby at_358) (by decide) (by decide) k) ?_
      exact k0
    · simp only [if_neg hc131] at k0
      refine own_step (fun t k => XS.icmpYes X130.here hx rfl (pc0 := 354) (pc' := 361) rfl (hb hby at_354) rfl ((feq hc131).2) (by decide) (by decide) k) ?_
      show own_G p.tables e below _ (T130.setTop (mkF m 361 #[iv p1, iv p2, iv p3, iv (1 : Int32), rv b2, iv x0, iv x1, iv x2, iv x3, rv b79, iv kk0, iv kk1, iv kk2, iv kk3, iv ct0, iv ct1, rv b99, rv bx105_rb, iv pp0, iv pp1, iv pp2, .unset] [(.int (own_f4 kk3 ct0 ct1 (1 : Int32)))]))
      refine own_step (fun t k => XS.iconst X130.here hx rfl (hb hby at_361) k) ?_
      exact k0
  show own_G p.tables e below _ (T130.setTop (mkF m 362 #[iv p1, iv p2, iv p3, iv (1 : Int32), rv b2, iv x0, iv x1, iv x2, iv x3, rv b79, iv kk0, iv kk1, iv kk2, iv kk3, iv ct0, iv ct1, rv b99, rv bx105_rb, iv pp0, iv pp1, iv pp2, .unset] [(.int (if kk0 = kk3 then (1 : Int32) else (0 : Int32))), (.int (own_f4 kk3 ct0 ct1 (1 : Int32)))]))
  obtain ⟨_, _, ⟨T132, L132, k132, n132⟩, -, X132, ⟨Lc132, hQ132, l132, y132, z132⟩, st132⟩ := Jvm.LawKit.callS X130 hx (y := (⟨"com/example/stevedore/stevedore/MoveGraphGroupedPinLaw", "one", "(Z)I"⟩ : MethodName)) hown (mvT hZ (hw _ (List.mem_of_getElem? (i := 5) rfl))) (mvT hZ (hw _ (List.mem_of_getElem? (i := 6) rfl))) (mvT hZ (hw _ (List.mem_of_getElem? (i := 3) rfl))) (mvT hZ (hw _ (List.mem_of_getElem? (i := 7) rfl))) (by decide) (backOf (W := 1) (rm2 l Z a0 hw [] (if kk0 = kk3 then (1 : Int32) else (0 : Int32)) T105.heap n0 (Nat.le_trans Z0 K105.1) ) hZ (hw _ (List.mem_of_getElem? (i := 7) rfl)) (hw _ (List.mem_of_getElem? (i := 3) rfl)) (by decide) (by decide)) (g := (mkF m 362 #[iv p1, iv p2, iv p3, iv (1 : Int32), rv b2, iv x0, iv x1, iv x2, iv x3, rv b79, iv kk0, iv kk1, iv kk2, iv kk3, iv ct0, iv ct1, rv b99, rv bx105_rb, iv pp0, iv pp1, iv pp2, .unset] [(.int (if kk0 = kk3 then (1 : Int32) else (0 : Int32))), (.int (own_f4 kk3 ct0 ct1 (1 : Int32)))])) rfl (by rw [hml]; rfl) (argsL := [(.int (if kk0 = kk3 then (1 : Int32) else (0 : Int32)))]) (rest := [(.int (own_f4 kk3 ct0 ct1 (1 : Int32)))]) (lenOf pd_0_3 rfl) rfl (by show 2 * 0 + _ ≤ _; exact Nat.le_of_eq rfl) (hb hby at_362) (fun _ _ => ⟨rfl, e130, (by decide : 5 + 0 ≤ _), (by decide : 14 + 0 ≤ _)⟩)
  dsimp only [Pt.U, Pt.locs, Pt.cells, Pt.slots] at X132 l132 y132 z132 st132 hQ132
  subst y132 z132
  obtain ⟨rfl, N132q, e132⟩ := hQ132
  have N132 : Fr n0 L132 := by rw [l132]; exact Fr.app N130 N132q
  refine own_step st132 ?_
  refine own_step (fun t k => XS.iadd X132.here hx rfl (hb hby at_365) rfl k) ?_
  refine own_step (fun t k => XS.iload X132.here hx rfl (hb hby at_366) rfl k) ?_
  refine own_step (fun t k => XS.iload X132.here hx rfl (hb hby at_368) rfl k) ?_
  clear N128 N130 N130q N132q X128 X130 e128 e130 st130 st132
  show own_G p.tables e below _ (T132.setTop (mkF m 370 #[iv p1, iv p2, iv p3, iv (1 : Int32), rv b2, iv x0, iv x1, iv x2, iv x3, rv b79, iv kk0, iv kk1, iv kk2, iv kk3, iv ct0, iv ct1, rv b99, rv bx105_rb, iv pp0, iv pp1, iv pp2, .unset] [(.int kk3), (.int kk1), (.int ((own_f4 kk3 ct0 ct1 (1 : Int32)) + (own_f2 (if kk0 = kk3 then (1 : Int32) else (0 : Int32)))))]))
  refine own_imp (B := T132.setTop (mkF m 378 #[iv p1, iv p2, iv p3, iv (1 : Int32), rv b2, iv x0, iv x1, iv x2, iv x3, rv b79, iv kk0, iv kk1, iv kk2, iv kk3, iv ct0, iv ct1, rv b99, rv bx105_rb, iv pp0, iv pp1, iv pp2, .unset] [(.int (if kk1 = kk3 then (1 : Int32) else (0 : Int32))), (.int ((own_f4 kk3 ct0 ct1 (1 : Int32)) + (own_f2 (if kk0 = kk3 then (1 : Int32) else (0 : Int32)))))])) (fun k0 => ?_) ?_
  · by_cases hc133 : kk1 = kk3
    · simp only [if_pos hc133] at k0
      refine own_step (fun t k => XS.icmpNo X132.here hx rfl (hb hby at_370) rfl ((teq hc133).2) k) ?_
      show own_G p.tables e below _ (T132.setTop (mkF m 373 #[iv p1, iv p2, iv p3, iv (1 : Int32), rv b2, iv x0, iv x1, iv x2, iv x3, rv b79, iv kk0, iv kk1, iv kk2, iv kk3, iv ct0, iv ct1, rv b99, rv bx105_rb, iv pp0, iv pp1, iv pp2, .unset] [(.int ((own_f4 kk3 ct0 ct1 (1 : Int32)) + (own_f2 (if kk0 = kk3 then (1 : Int32) else (0 : Int32)))))]))
      refine own_step (fun t k => XS.iconst X132.here hx rfl (hb hby at_373) k) ?_
      refine own_step (fun t k => XS.goto X132.here hx rfl (pc0 := 374) (pc' := 378) rfl (hb hby at_374) (by decide) (by decide) k) ?_
      exact k0
    · simp only [if_neg hc133] at k0
      refine own_step (fun t k => XS.icmpYes X132.here hx rfl (pc0 := 370) (pc' := 377) rfl (hb hby at_370) rfl ((feq hc133).2) (by decide) (by decide) k) ?_
      show own_G p.tables e below _ (T132.setTop (mkF m 377 #[iv p1, iv p2, iv p3, iv (1 : Int32), rv b2, iv x0, iv x1, iv x2, iv x3, rv b79, iv kk0, iv kk1, iv kk2, iv kk3, iv ct0, iv ct1, rv b99, rv bx105_rb, iv pp0, iv pp1, iv pp2, .unset] [(.int ((own_f4 kk3 ct0 ct1 (1 : Int32)) + (own_f2 (if kk0 = kk3 then (1 : Int32) else (0 : Int32)))))]))
      refine own_step (fun t k => XS.iconst X132.here hx rfl (hb hby at_377) k) ?_
      exact k0
  show own_G p.tables e below _ (T132.setTop (mkF m 378 #[iv p1, iv p2, iv p3, iv (1 : Int32), rv b2, iv x0, iv x1, iv x2, iv x3, rv b79, iv kk0, iv kk1, iv kk2, iv kk3, iv ct0, iv ct1, rv b99, rv bx105_rb, iv pp0, iv pp1, iv pp2, .unset] [(.int (if kk1 = kk3 then (1 : Int32) else (0 : Int32))), (.int ((own_f4 kk3 ct0 ct1 (1 : Int32)) + (own_f2 (if kk0 = kk3 then (1 : Int32) else (0 : Int32)))))]))
  obtain ⟨_, _, ⟨T134, L134, k134, n134⟩, -, X134, ⟨Lc134, hQ134, l134, y134, z134⟩, st134⟩ := Jvm.LawKit.callS X132 hx (y := (⟨"com/example/stevedore/stevedore/MoveGraphGroupedPinLaw", "one", "(Z)I"⟩ : MethodName)) hown (mvT hZ (hw _ (List.mem_of_getElem? (i := 5) rfl))) (mvT hZ (hw _ (List.mem_of_getElem? (i := 6) rfl))) (mvT hZ (hw _ (List.mem_of_getElem? (i := 3) rfl))) (mvT hZ (hw _ (List.mem_of_getElem? (i := 7) rfl))) (by decide) (backOf (W := 1) (rm2 l Z a0 hw [] (if kk1 = kk3 then (1 : Int32) else (0 : Int32)) T105.heap n0 (Nat.le_trans Z0 K105.1) ) hZ (hw _ (List.mem_of_getElem? (i := 7) rfl)) (hw _ (List.mem_of_getElem? (i := 3) rfl)) (by decide) (by decide)) (g := (mkF m 378 #[iv p1, iv p2, iv p3, iv (1 : Int32), rv b2, iv x0, iv x1, iv x2, iv x3, rv b79, iv kk0, iv kk1, iv kk2, iv kk3, iv ct0, iv ct1, rv b99, rv bx105_rb, iv pp0, iv pp1, iv pp2, .unset] [(.int (if kk1 = kk3 then (1 : Int32) else (0 : Int32))), (.int ((own_f4 kk3 ct0 ct1 (1 : Int32)) + (own_f2 (if kk0 = kk3 then (1 : Int32) else (0 : Int32)))))])) rfl (by rw [hml]; rfl) (argsL := [(.int (if kk1 = kk3 then (1 : Int32) else (0 : Int32)))]) (rest := [(.int ((own_f4 kk3 ct0 ct1 (1 : Int32)) + (own_f2 (if kk0 = kk3 then (1 : Int32) else (0 : Int32)))))]) (lenOf pd_0_3 rfl) rfl (by show 2 * 0 + _ ≤ _; exact Nat.le_of_eq rfl) (hb hby at_378) (fun _ _ => ⟨rfl, e132, (by decide : 5 + 0 ≤ _), (by decide : 14 + 0 ≤ _)⟩)
  dsimp only [Pt.U, Pt.locs, Pt.cells, Pt.slots] at X134 l134 y134 z134 st134 hQ134
  subst y134 z134
  obtain ⟨rfl, N134q, e134⟩ := hQ134
  have N134 : Fr n0 L134 := by rw [l134]; exact Fr.app N132 N134q
  refine own_step st134 ?_
  refine own_step (fun t k => XS.iadd X134.here hx rfl (hb hby at_381) rfl k) ?_
  refine own_step (fun t k => XS.iload X134.here hx rfl (hb hby at_382) rfl k) ?_
  refine own_step (fun t k => XS.iload X134.here hx rfl (hb hby at_384) rfl k) ?_
  show own_G p.tables e below _ (T134.setTop (mkF m 386 #[iv p1, iv p2, iv p3, iv (1 : Int32), rv b2, iv x0, iv x1, iv x2, iv x3, rv b79, iv kk0, iv kk1, iv kk2, iv kk3, iv ct0, iv ct1, rv b99, rv bx105_rb, iv pp0, iv pp1, iv pp2, .unset] [(.int kk3), (.int kk2), (.int (((own_f4 kk3 ct0 ct1 (1 : Int32)) + (own_f2 (if kk0 = kk3 then (1 : Int32) else (0 : Int32)))) + (own_f2 (if kk1 = kk3 then (1 : Int32) else (0 : Int32)))))]))
  refine own_imp (B := T134.setTop (mkF m 394 #[iv p1, iv p2, iv p3, iv (1 : Int32), rv b2, iv x0, iv x1, iv x2, iv x3, rv b79, iv kk0, iv kk1, iv kk2, iv kk3, iv ct0, iv ct1, rv b99, rv bx105_rb, iv pp0, iv pp1, iv pp2, .unset] [(.int (if kk2 = kk3 then (1 : Int32) else (0 : Int32))), (.int (((own_f4 kk3 ct0 ct1 (1 : Int32)) + (own_f2 (if kk0 = kk3 then (1 : Int32) else (0 : Int32)))) + (own_f2 (if kk1 = kk3 then (1 : Int32) else (0 : Int32)))))])) (fun k0 => ?_) ?_
  · by_cases hc135 : kk2 = kk3
    · simp only [if_pos hc135] at k0
      refine own_step (fun t k => XS.icmpNo X134.here hx rfl (hb hby at_386) rfl ((teq hc135).2) k) ?_
      show own_G p.tables e below _ (T134.setTop (mkF m 389 #[iv p1, iv p2, iv p3, iv (1 : Int32), rv b2, iv x0, iv x1, iv x2, iv x3, rv b79, iv kk0, iv kk1, iv kk2, iv kk3, iv ct0, iv ct1, rv b99, rv bx105_rb, iv pp0, iv pp1, iv pp2, .unset] [(.int (((own_f4 kk3 ct0 ct1 (1 : Int32)) + (own_f2 (if kk0 = kk3 then (1 : Int32) else (0 : Int32)))) + (own_f2 (if kk1 = kk3 then (1 : Int32) else (0 : Int32)))))]))
      refine own_step (fun t k => XS.iconst X134.here hx rfl (hb hby at_389) k) ?_
      refine own_step (fun t k => XS.goto X134.here hx rfl (pc0 := 390) (pc' := 394) rfl (hb hby at_390) (by decide) (by decide) k) ?_
      exact k0
    · simp only [if_neg hc135] at k0
      refine own_step (fun t k => XS.icmpYes X134.here hx rfl (pc0 := 386) (pc' := 393) rfl (hb hby at_386) rfl ((feq hc135).2) (by decide) (by decide) k) ?_
      show own_G p.tables e below _ (T134.setTop (mkF m 393 #[iv p1, iv p2, iv p3, iv (1 : Int32), rv b2, iv x0, iv x1, iv x2, iv x3, rv b79, iv kk0, iv kk1, iv kk2, iv kk3, iv ct0, iv ct1, rv b99, rv bx105_rb, iv pp0, iv pp1, iv pp2, .unset] [(.int (((own_f4 kk3 ct0 ct1 (1 : Int32)) + (own_f2 (if kk0 = kk3 then (1 : Int32) else (0 : Int32)))) + (own_f2 (if kk1 = kk3 then (1 : Int32) else (0 : Int32)))))]))
      refine own_step (fun t k => XS.iconst X134.here hx rfl (hb hby at_393) k) ?_
      exact k0
  show own_G p.tables e below _ (T134.setTop (mkF m 394 #[iv p1, iv p2, iv p3, iv (1 : Int32), rv b2, iv x0, iv x1, iv x2, iv x3, rv b79, iv kk0, iv kk1, iv kk2, iv kk3, iv ct0, iv ct1, rv b99, rv bx105_rb, iv pp0, iv pp1, iv pp2, .unset] [(.int (if kk2 = kk3 then (1 : Int32) else (0 : Int32))), (.int (((own_f4 kk3 ct0 ct1 (1 : Int32)) + (own_f2 (if kk0 = kk3 then (1 : Int32) else (0 : Int32)))) + (own_f2 (if kk1 = kk3 then (1 : Int32) else (0 : Int32)))))]))
  obtain ⟨_, _, ⟨T136, L136, k136, n136⟩, -, X136, ⟨Lc136, hQ136, l136, y136, z136⟩, st136⟩ := Jvm.LawKit.callS X134 hx (y := (⟨"com/example/stevedore/stevedore/MoveGraphGroupedPinLaw", "one", "(Z)I"⟩ : MethodName)) hown (mvT hZ (hw _ (List.mem_of_getElem? (i := 5) rfl))) (mvT hZ (hw _ (List.mem_of_getElem? (i := 6) rfl))) (mvT hZ (hw _ (List.mem_of_getElem? (i := 3) rfl))) (mvT hZ (hw _ (List.mem_of_getElem? (i := 7) rfl))) (by decide) (backOf (W := 1) (rm2 l Z a0 hw [] (if kk2 = kk3 then (1 : Int32) else (0 : Int32)) T105.heap n0 (Nat.le_trans Z0 K105.1) ) hZ (hw _ (List.mem_of_getElem? (i := 7) rfl)) (hw _ (List.mem_of_getElem? (i := 3) rfl)) (by decide) (by decide)) (g := (mkF m 394 #[iv p1, iv p2, iv p3, iv (1 : Int32), rv b2, iv x0, iv x1, iv x2, iv x3, rv b79, iv kk0, iv kk1, iv kk2, iv kk3, iv ct0, iv ct1, rv b99, rv bx105_rb, iv pp0, iv pp1, iv pp2, .unset] [(.int (if kk2 = kk3 then (1 : Int32) else (0 : Int32))), (.int (((own_f4 kk3 ct0 ct1 (1 : Int32)) + (own_f2 (if kk0 = kk3 then (1 : Int32) else (0 : Int32)))) + (own_f2 (if kk1 = kk3 then (1 : Int32) else (0 : Int32)))))])) rfl (by rw [hml]; rfl) (argsL := [(.int (if kk2 = kk3 then (1 : Int32) else (0 : Int32)))]) (rest := [(.int (((own_f4 kk3 ct0 ct1 (1 : Int32)) + (own_f2 (if kk0 = kk3 then (1 : Int32) else (0 : Int32)))) + (own_f2 (if kk1 = kk3 then (1 : Int32) else (0 : Int32)))))]) (lenOf pd_0_3 rfl) rfl (by show 2 * 0 + _ ≤ _; exact Nat.le_of_eq rfl) (hb hby at_394) (fun _ _ => ⟨rfl, e134, (by decide : 5 + 0 ≤ _), (by decide : 14 + 0 ≤ _)⟩)
  dsimp only [Pt.U, Pt.locs, Pt.cells, Pt.slots] at X136 l136 y136 z136 st136 hQ136
  subst y136 z136
  obtain ⟨rfl, N136q, e136⟩ := hQ136
  have N136 : Fr n0 L136 := by rw [l136]; exact Fr.app N134 N136q
  refine own_step st136 ?_
  refine own_step (fun t k => XS.iadd X136.here hx rfl (hb hby at_397) rfl k) ?_
  refine own_nm (((((own_f4 kk3 ct0 ct1 (1 : Int32)) + (own_f2 (if kk0 = kk3 then (1 : Int32) else (0 : Int32)))) + (own_f2 (if kk1 = kk3 then (1 : Int32) else (0 : Int32)))) + (own_f2 (if kk2 = kk3 then (1 : Int32) else (0 : Int32)))) : Int32) (fun pp3 => T136.setTop (mkF m 398 #[iv p1, iv p2, iv p3, iv (1 : Int32), rv b2, iv x0, iv x1, iv x2, iv x3, rv b79, iv kk0, iv kk1, iv kk2, iv kk3, iv ct0, iv ct1, rv b99, rv bx105_rb, iv pp0, iv pp1, iv pp2, .unset] [(.int pp3)])) ?_
  intro pp3 hd_pp3
  clear N132 N134 N134q N136q X132 X134 e132 e134 st134 st136
  show own_G p.tables e below _ (T136.setTop (mkF m 398 #[iv p1, iv p2, iv p3, iv (1 : Int32), rv b2, iv x0, iv x1, iv x2, iv x3, rv b79, iv kk0, iv kk1, iv kk2, iv kk3, iv ct0, iv ct1, rv b99, rv bx105_rb, iv pp0, iv pp1, iv pp2, .unset] [(.int pp3)]))
  refine own_step (fun t k => XS.istore X136.here hx rfl (hb hby at_398) rfl (l' := #[iv p1, iv p2, iv p3, iv (1 : Int32), rv b2, iv x0, iv x1, iv x2, iv x3, rv b79, iv kk0, iv kk1, iv kk2, iv kk3, iv ct0, iv ct1, rv b99, rv bx105_rb, iv pp0, iv pp1, iv pp2, iv pp3]) rfl k) ?_
  refine own_step (fun t k => XS.iloadN X136.here hx rfl (hb hby at_400) rfl k) ?_
  have hk138 : (0 : Int32) < (1 : Int32) := (by decide)
  refine own_step (fun t k => XS.ifNo X136.here hx rfl (hb hby at_401) rfl ((if0 _ _).trans (tlt hk138).2.2.2) k) ?_
  show own_G p.tables e below _ (T136.setTop (mkF m 404 #[iv p1, iv p2, iv p3, iv (1 : Int32), rv b2, iv x0, iv x1, iv x2, iv x3, rv b79, iv kk0, iv kk1, iv kk2, iv kk3, iv ct0, iv ct1, rv b99, rv bx105_rb, iv pp0, iv pp1, iv pp2, iv pp3] []))
  refine own_step (fun t k => XS.aload X136.here hx rfl (hb hby at_404) rfl rfl k) ?_
  refine own_step (fun t k => XS.iload X136.here hx rfl (hb hby at_406) rfl k) ?_
  refine own_step (own_iaload X136 hx hZ e136 w105_1 (own_setL (by simp only [List.length_set]; rfl) (own_pb1_0 (kk0 := kk0) (kk1 := kk1) (kk2 := kk2) (kk3 := kk3) h30 hd_ct0 hd_ct1 hd_pp0)) (g := (mkF m 408 #[iv p1, iv p2, iv p3, iv (1 : Int32), rv b2, iv x0, iv x1, iv x2, iv x3, rv b79, iv kk0, iv kk1, iv kk2, iv kk3, iv ct0, iv ct1, rv b99, rv bx105_rb, iv pp0, iv pp1, iv pp2, iv pp3] [(.int pp0), (.ref bx105_rb)])) rfl rfl (hb hby at_408)) ?_
  refine own_step (fun t k => XS.iload X136.here hx rfl (hb hby at_409) rfl k) ?_
  show own_G p.tables e below _ (T136.setTop (mkF m 411 #[iv p1, iv p2, iv p3, iv (1 : Int32), rv b2, iv x0, iv x1, iv x2, iv x3, rv b79, iv kk0, iv kk1, iv kk2, iv kk3, iv ct0, iv ct1, rv b99, rv bx105_rb, iv pp0, iv pp1, iv pp2, iv pp3] [(.int x0), (.int (([(0 : Int32)].set ((own_s1 kk0).getD kk0.toNatClampNeg 0).toNatClampNeg x0).getD pp0.toNatClampNeg 0))]))
  have hk139 : (([(0 : Int32)].set ((own_s1 kk0).getD kk0.toNatClampNeg 0).toNatClampNeg x0).getD pp0.toNatClampNeg 0) = x0 := own_g1_0 (kk0 := kk0) (kk1 := kk1) (kk2 := kk2) (kk3 := kk3) (x0 := x0) (x1 := x1) (x2 := x2) (x3 := x3) h30 hd_ct0 hd_ct1 hd_pp0
  refine own_step (fun t k => XS.icmpYes X136.here hx rfl (pc0 := 411) (pc' := 416) rfl (hb hby at_411) rfl ((teq hk139).1) (by decide) (by decide) k) ?_
  show own_G p.tables e below _ (T136.setTop (mkF m 416 #[iv p1, iv p2, iv p3, iv (1 : Int32), rv b2, iv x0, iv x1, iv x2, iv x3, rv b79, iv kk0, iv kk1, iv kk2, iv kk3, iv ct0, iv ct1, rv b99, rv bx105_rb, iv pp0, iv pp1, iv pp2, iv pp3] []))
  refine own_step (fun t k => XS.iloadN X136.here hx rfl (hb hby at_416) rfl k) ?_
  refine own_step (fun t k => XS.iconst X136.here hx rfl (hb hby at_417) k) ?_
  have hk140 : ¬ ((1 : Int32) < (1 : Int32)) := (by decide)
  refine own_step (fun t k => XS.icmpYes X136.here hx rfl (pc0 := 418) (pc' := 433) rfl (hb hby at_418) rfl ((flt hk140).2.2.2) (by decide) (by decide) k) ?_
  show own_G p.tables e below _ (T136.setTop (mkF m 433 #[iv p1, iv p2, iv p3, iv (1 : Int32), rv b2, iv x0, iv x1, iv x2, iv x3, rv b79, iv kk0, iv kk1, iv kk2, iv kk3, iv ct0, iv ct1, rv b99, rv bx105_rb, iv pp0, iv pp1, iv pp2, iv pp3] []))
  refine own_step (fun t k => XS.iloadN X136.here hx rfl (hb hby at_433) rfl k) ?_
  refine own_step (fun t k => XS.iconst X136.here hx rfl (hb hby at_434) k) ?_
  have hk141 : ¬ ((2 : Int32) < (1 : Int32)) := (by decide)
  refine own_step (fun t k => XS.icmpYes X136.here hx rfl (pc0 := 435) (pc' := 450) rfl (hb hby at_435) rfl ((flt hk141).2.2.2) (by decide) (by decide) k) ?_
  show own_G p.tables e below _ (T136.setTop (mkF m 450 #[iv p1, iv p2, iv p3, iv (1 : Int32), rv b2, iv x0, iv x1, iv x2, iv x3, rv b79, iv kk0, iv kk1, iv kk2, iv kk3, iv ct0, iv ct1, rv b99, rv bx105_rb, iv pp0, iv pp1, iv pp2, iv pp3] []))
  refine own_step (fun t k => XS.iloadN X136.here hx rfl (hb hby at_450) rfl k) ?_
  refine own_step (fun t k => XS.iconst X136.here hx rfl (hb hby at_451) k) ?_
  have hk142 : ¬ ((3 : Int32) < (1 : Int32)) := (by decide)
  refine own_step (fun t k => XS.icmpYes X136.here hx rfl (pc0 := 452) (pc' := 467) rfl (hb hby at_452) rfl ((flt hk142).2.2.2) (by decide) (by decide) k) ?_
  show own_G p.tables e below _ (T136.setTop (mkF m 467 #[iv p1, iv p2, iv p3, iv (1 : Int32), rv b2, iv x0, iv x1, iv x2, iv x3, rv b79, iv kk0, iv kk1, iv kk2, iv kk3, iv ct0, iv ct1, rv b99, rv bx105_rb, iv pp0, iv pp1, iv pp2, iv pp3] []))
  refine own_step (fun t k => XS.iconst X136.here hx rfl (hb hby at_467) k) ?_
  obtain ⟨fs, hr, hrun, hended, hW, hsame⟩ := X136.leave (v := some (.int (1 : Int32))) (fun h => by rw [hret] at h; cases h) hlocks
  refine own_done (retN X136 hx (t := .boolean) hret (by simp) (hb hby at_468) hr) hrun hended (hP _ _ ⟨_, _, rfl, ?_, ⟨_, rfl⟩, hW, hsame.mono (by decide) (by decide)⟩)
  show Q0 Z p1 p2 p3 h0 n0 _ T136.heap _
  rw [e136]
  exact ⟨rfl, N136⟩
set_option maxRecDepth 65536 in
set_option maxHeartbeats 40000000 in
theorem rm0_c2 (l : Launch) (Z : State) (a0 : Array Value) (hw : ∀ d ∈ tables_1, d.before a0 Z = true) (p1 : Int32) (p2 : Int32) (p3 : Int32) (h0 : Heap) (n0 : Nat) (Z0 : n0 ≤ h0.size) {p : Program} {e : Env} {s : State} {m : MethodId} {below : List Frame} {meth : Method} {c : Code} {T13 : State} {lc : List Loc} {P : Outcome → State → Prop} {h13 : Heap} {b2 : Addr} {kv0 : Int32} {kv1 : Int32} {kv2 : Int32} {kv3 : Int32} {x0 : Int32} {x1 : Int32} {x2 : Int32} {x3 : Int32} (hx : p.tables.exec = Jvm.exec) (hby : c.code = code) (hml : c.maxLocals = 22) (hown : s.vm.findClass "com/example/stevedore/stevedore/MoveGraphGroupedPinLaw" = some m.cls) (hZ : Z.Warmed39 s.vm) (hlocks : meth.locks = false) (hret : meth.sig.returnType = some .boolean) (X13 : Stand p l e room_1 s m #[(.int p1), (.int p2), (.int p3)] below meth c T13 lc 1 4) (e13 : T13.heap = h13) (N13 : Fr n0 lc) (K13 : Keep h0 h13 []) (c14 : own_Ari Z h13 b2 .int [kv0, kv1, kv2, kv3]) (ge2 : n0 ≤ b2) (sz2 : h0.size ≤ b2) (hd_kv0 : kv0 = ((p3 &&& (15 : Int32)) - ((p3 &&& (15 : Int32)) / (3 : Int32)) * (3 : Int32))) (hd_kv1 : kv1 = ((((p3.toUInt32 >>> ((4 : Int32) &&& 31).toUInt32).toInt32) &&& (15 : Int32)) - ((((p3.toUInt32 >>> ((4 : Int32) &&& 31).toUInt32).toInt32) &&& (15 : Int32)) / (3 : Int32)) * (3 : Int32))) (hd_kv2 : kv2 = ((((p3.toUInt32 >>> ((8 : Int32) &&& 31).toUInt32).toInt32) &&& (15 : Int32)) - ((((p3.toUInt32 >>> ((8 : Int32) &&& 31).toUInt32).toInt32) &&& (15 : Int32)) / (3 : Int32)) * (3 : Int32))) (hd_kv3 : kv3 = ((((p3.toUInt32 >>> ((12 : Int32) &&& 31).toUInt32).toInt32) &&& (15 : Int32)) - ((((p3.toUInt32 >>> ((12 : Int32) &&& 31).toUInt32).toInt32) &&& (15 : Int32)) / (3 : Int32)) * (3 : Int32))) (hd_x0 : x0 = (p2 &&& (3 : Int32))) (hd_x1 : x1 = (((p2.toUInt32 >>> ((2 : Int32) &&& 31).toUInt32).toInt32) &&& (3 : Int32))) (hd_x2 : x2 = (((p2.toUInt32 >>> ((4 : Int32) &&& 31).toUInt32).toInt32) &&& (3 : Int32))) (hd_x3 : x3 = (((p2.toUInt32 >>> ((6 : Int32) &&& 31).toUInt32).toInt32) &&& (3 : Int32))) (hd_n : (2 : Int32) = ((p1 &&& (7 : Int32)) - ((p1 &&& (7 : Int32)) / (5 : Int32)) * (5 : Int32))) (hv0 : own_3 kv0) (hv1 : own_3 kv1) (hv2 : own_3 kv2) (hv3 : own_3 kv3) (hP : ∀ o U', (∃ v L, o = .returned v ∧ Q0 Z p1 p2 p3 h0 n0 v U'.heap L ∧ FrameEnd s o U' L room_1.cells room_1.slots) → P o U') : own_G p.tables e below P (T13.setTop (mkF m 87 #[iv p1, iv p2, iv p3, iv (2 : Int32), rv b2, iv x0, iv x1, iv x2, iv x3, .unset, .unset, .unset, .unset, .unset, .unset, .unset, .unset, .unset, .unset, .unset, .unset, .unset] [])) := by
  show own_G p.tables e below _ (T13.setTop (mkF m 87 #[iv p1, iv p2, iv p3, iv (2 : Int32), rv b2, iv x0, iv x1, iv x2, iv x3, .unset, .unset, .unset, .unset, .unset, .unset, .unset, .unset, .unset, .unset, .unset, .unset, .unset] []))
  have hx0 : own_4 x0 := by rw [hd_x0]; exact own_num _
  have hx1 : own_4 x1 := by rw [hd_x1]; exact own_num _
  have hx2 : own_4 x2 := by rw [hd_x2]; exact own_num _
  have hx3 : own_4 x3 := by rw [hd_x3]; exact own_num _
  refine own_step (fun t k => XS.iloadN X13.here hx rfl (hb hby at_87) rfl k) ?_
  obtain ⟨T143, h143, k143, X143, e143, E143, A143, st143⟩ := newP X13 hx hZ (hw _ (List.mem_of_getElem? (i := 0) rfl)) e13 (g := (mkF m 88 #[iv p1, iv p2, iv p3, iv (2 : Int32), rv b2, iv x0, iv x1, iv x2, iv x3, .unset, .unset, .unset, .unset, .unset, .unset, .unset, .unset, .unset, .unset, .unset, .unset, .unset] [(.int (2 : Int32))])) rfl (hb hby at_88) rfl (by decide) (cap := 2) (by decide) (by decide) (by decide) (by decide)
  obtain ⟨b143, g143⟩ : ∃ z, z = h13.size := ⟨_, rfl⟩
  have ne144 : b2 ≠ b143 := Nat.ne_of_lt (Nat.lt_of_lt_of_le c14.lt (Nat.le_of_eq g143.symm))
  have sz143 : h0.size ≤ b143 := Nat.le_trans K13.1 (Nat.le_of_eq g143.symm)
  have ge143 : n0 ≤ b143 := Nat.le_trans Z0 sz143
  have c145 : own_Ari Z h143 b2 .int [kv0, kv1, kv2, kv3] := c14.ext E143
  have K143 : Keep h0 h143 [] := K13.ext E143
  rw [← g143] at A143 st143
  have c146 : own_Ari Z h143 b143 .int [(0 : Int32), (0 : Int32)] := own_Ari_new (ty := .int) A143 (by decide) rfl
  refine own_step st143 ?_
  refine own_step (fun t k => XS.astore X143.here hx rfl (hb hby at_90) rfl rfl (l' := #[iv p1, iv p2, iv p3, iv (2 : Int32), rv b2, iv x0, iv x1, iv x2, iv x3, rv b143, .unset, .unset, .unset, .unset, .unset, .unset, .unset, .unset, .unset, .unset, .unset, .unset]) rfl k) ?_
  refine own_step (fun t k => XS.iloadN X143.here hx rfl (hb hby at_92) rfl k) ?_
  show own_G p.tables e below _ (T143.setTop (mkF m 93 #[iv p1, iv p2, iv p3, iv (2 : Int32), rv b2, iv x0, iv x1, iv x2, iv x3, rv b143, .unset, .unset, .unset, .unset, .unset, .unset, .unset, .unset, .unset, .unset, .unset, .unset] [(.int (2 : Int32))]))
  have hk147 : (0 : Int32) < (2 : Int32) := (by decide)
  refine own_step (fun t k => XS.ifNo X143.here hx rfl (hb hby at_93) rfl ((if0 _ _).trans (tlt hk147).2.2.2) k) ?_
  show own_G p.tables e below _ (T143.setTop (mkF m 96 #[iv p1, iv p2, iv p3, iv (2 : Int32), rv b2, iv x0, iv x1, iv x2, iv x3, rv b143, .unset, .unset, .unset, .unset, .unset, .unset, .unset, .unset, .unset, .unset, .unset, .unset] []))
  refine own_step (fun t k => XS.aload X143.here hx rfl (hb hby at_96) rfl rfl k) ?_
  refine own_step (fun t k => XS.iconst X143.here hx rfl (hb hby at_98) k) ?_
  refine own_step (fun t k => XS.iload X143.here hx rfl (hb hby at_99) rfl k) ?_
  obtain ⟨T148, h148, X148, e148, W148, c148, st148⟩ := own_iastore X143 hx hZ e143 c146 (own_inb (by decide) (Nat.le_of_ble_eq_true rfl)) (g := (mkF m 101 #[iv p1, iv p2, iv p3, iv (2 : Int32), rv b2, iv x0, iv x1, iv x2, iv x3, rv b143, .unset, .unset, .unset, .unset, .unset, .unset, .unset, .unset, .unset, .unset, .unset, .unset] [(.int x0), (.int (0 : Int32)), (.ref b143)])) rfl rfl (hb hby at_101)
  have N148 := Fr.snoc X148 N13 ge143
  have c149 : own_Ari Z h148 b143 .int [x0, (0 : Int32)] := c148
  have c150 : own_Ari Z h148 b2 .int [kv0, kv1, kv2, kv3] := c145.other W148 ne144
  have K148 : Keep h0 h148 [] := K143.wr W148 (Or.inr sz143)
  refine own_step st148 ?_
  clear A143 E143 K143 W148 X143 c145 c146 c148 e143 g143 hk147 st143 st148
  show own_G p.tables e below _ (T148.setTop (mkF m 102 #[iv p1, iv p2, iv p3, iv (2 : Int32), rv b2, iv x0, iv x1, iv x2, iv x3, rv b143, .unset, .unset, .unset, .unset, .unset, .unset, .unset, .unset, .unset, .unset, .unset, .unset] []))
  refine own_step (fun t k => XS.iloadN X148.here hx rfl (hb hby at_102) rfl k) ?_
  refine own_step (fun t k => XS.iconst X148.here hx rfl (hb hby at_103) k) ?_
  have hk152 : (1 : Int32) < (2 : Int32) := (by decide)
  refine own_step (fun t k => XS.icmpNo X148.here hx rfl (hb hby at_104) rfl ((tlt hk152).2.2.2) k) ?_
  show own_G p.tables e below _ (T148.setTop (mkF m 107 #[iv p1, iv p2, iv p3, iv (2 : Int32), rv b2, iv x0, iv x1, iv x2, iv x3, rv b143, .unset, .unset, .unset, .unset, .unset, .unset, .unset, .unset, .unset, .unset, .unset, .unset] []))
  refine own_step (fun t k => XS.aload X148.here hx rfl (hb hby at_107) rfl rfl k) ?_
  refine own_step (fun t k => XS.iconst X148.here hx rfl (hb hby at_109) k) ?_
  refine own_step (fun t k => XS.iload X148.here hx rfl (hb hby at_110) rfl k) ?_
  obtain ⟨T153, h153, X153, e153, W153, c153, st153⟩ := own_iastore X148 hx hZ e148 c149 (own_inb (by decide) (Nat.le_of_ble_eq_true rfl)) (g := (mkF m 112 #[iv p1, iv p2, iv p3, iv (2 : Int32), rv b2, iv x0, iv x1, iv x2, iv x3, rv b143, .unset, .unset, .unset, .unset, .unset, .unset, .unset, .unset, .unset, .unset, .unset, .unset] [(.int x1), (.int (1 : Int32)), (.ref b143)])) rfl rfl (hb hby at_112)
  have N153 := Fr.snoc X153 N148 ge143
  have c154 : own_Ari Z h153 b143 .int [x0, x1] := c153
  have c155 : own_Ari Z h153 b2 .int [kv0, kv1, kv2, kv3] := c150.other W153 ne144
  have K153 : Keep h0 h153 [] := K148.wr W153 (Or.inr sz143)
  refine own_step st153 ?_
  clear K148 N148 W153 X148 c149 c150 c153 e148 hk152 st153
  show own_G p.tables e below _ (T153.setTop (mkF m 113 #[iv p1, iv p2, iv p3, iv (2 : Int32), rv b2, iv x0, iv x1, iv x2, iv x3, rv b143, .unset, .unset, .unset, .unset, .unset, .unset, .unset, .unset, .unset, .unset, .unset, .unset] []))
  refine own_step (fun t k => XS.iloadN X153.here hx rfl (hb hby at_113) rfl k) ?_
  refine own_step (fun t k => XS.iconst X153.here hx rfl (hb hby at_114) k) ?_
  have hk157 : ¬ ((2 : Int32) < (2 : Int32)) := (by decide)
  refine own_step (fun t k => XS.icmpYes X153.here hx rfl (pc0 := 115) (pc' := 124) rfl (hb hby at_115) rfl ((flt hk157).2.2.2) (by decide) (by decide) k) ?_
  show own_G p.tables e below _ (T153.setTop (mkF m 124 #[iv p1, iv p2, iv p3, iv (2 : Int32), rv b2, iv x0, iv x1, iv x2, iv x3, rv b143, .unset, .unset, .unset, .unset, .unset, .unset, .unset, .unset, .unset, .unset, .unset, .unset] []))
  refine own_step (fun t k => XS.iloadN X153.here hx rfl (hb hby at_124) rfl k) ?_
  refine own_step (fun t k => XS.iconst X153.here hx rfl (hb hby at_125) k) ?_
  have hk158 : ¬ ((3 : Int32) < (2 : Int32)) := (by decide)
  refine own_step (fun t k => XS.icmpYes X153.here hx rfl (pc0 := 126) (pc' := 135) rfl (hb hby at_126) rfl ((flt hk158).2.2.2) (by decide) (by decide) k) ?_
  show own_G p.tables e below _ (T153.setTop (mkF m 135 #[iv p1, iv p2, iv p3, iv (2 : Int32), rv b2, iv x0, iv x1, iv x2, iv x3, rv b143, .unset, .unset, .unset, .unset, .unset, .unset, .unset, .unset, .unset, .unset, .unset, .unset] []))
  refine own_step (fun t k => XS.aload X153.here hx rfl (hb hby at_135) rfl rfl k) ?_
  refine own_step (fun t k => XS.iload X153.here hx rfl (hb hby at_137) rfl k) ?_
  refine own_step (own_iaload X153 hx hZ e153 c155 (own_i4 hx0 rfl) (g := (mkF m 139 #[iv p1, iv p2, iv p3, iv (2 : Int32), rv b2, iv x0, iv x1, iv x2, iv x3, rv b143, .unset, .unset, .unset, .unset, .unset, .unset, .unset, .unset, .unset, .unset, .unset, .unset] [(.int x0), (.ref b2)])) rfl rfl (hb hby at_139)) ?_
  refine own_nm (([kv0, kv1, kv2, kv3].getD x0.toNatClampNeg 0) : Int32) (fun kk0 => T153.setTop (mkF m 140 #[iv p1, iv p2, iv p3, iv (2 : Int32), rv b2, iv x0, iv x1, iv x2, iv x3, rv b143, .unset, .unset, .unset, .unset, .unset, .unset, .unset, .unset, .unset, .unset, .unset, .unset] [(.int kk0)])) ?_
  intro kk0 hd_kk0
  show own_G p.tables e below _ (T153.setTop (mkF m 140 #[iv p1, iv p2, iv p3, iv (2 : Int32), rv b2, iv x0, iv x1, iv x2, iv x3, rv b143, .unset, .unset, .unset, .unset, .unset, .unset, .unset, .unset, .unset, .unset, .unset, .unset] [(.int kk0)]))
  refine own_step (fun t k => XS.istore X153.here hx rfl (hb hby at_140) rfl (l' := #[iv p1, iv p2, iv p3, iv (2 : Int32), rv b2, iv x0, iv x1, iv x2, iv x3, rv b143, iv kk0, .unset, .unset, .unset, .unset, .unset, .unset, .unset, .unset, .unset, .unset, .unset]) rfl k) ?_
  refine own_step (fun t k => XS.aload X153.here hx rfl (hb hby at_142) rfl rfl k) ?_
  refine own_step (fun t k => XS.iload X153.here hx rfl (hb hby at_144) rfl k) ?_
  refine own_step (own_iaload X153 hx hZ e153 c155 (own_i4 hx1 rfl) (g := (mkF m 146 #[iv p1, iv p2, iv p3, iv (2 : Int32), rv b2, iv x0, iv x1, iv x2, iv x3, rv b143, iv kk0, .unset, .unset, .unset, .unset, .unset, .unset, .unset, .unset, .unset, .unset, .unset] [(.int x1), (.ref b2)])) rfl rfl (hb hby at_146)) ?_
  show own_G p.tables e below _ (T153.setTop (mkF m 147 #[iv p1, iv p2, iv p3, iv (2 : Int32), rv b2, iv x0, iv x1, iv x2, iv x3, rv b143, iv kk0, .unset, .unset, .unset, .unset, .unset, .unset, .unset, .unset, .unset, .unset, .unset] [(.int ([kv0, kv1, kv2, kv3].getD x1.toNatClampNeg 0))]))
  refine own_nm (([kv0, kv1, kv2, kv3].getD x1.toNatClampNeg 0) : Int32) (fun kk1 => T153.setTop (mkF m 147 #[iv p1, iv p2, iv p3, iv (2 : Int32), rv b2, iv x0, iv x1, iv x2, iv x3, rv b143, iv kk0, .unset, .unset, .unset, .unset, .unset, .unset, .unset, .unset, .unset, .unset, .unset] [(.int kk1)])) ?_
  intro kk1 hd_kk1
  show own_G p.tables e below _ (T153.setTop (mkF m 147 #[iv p1, iv p2, iv p3, iv (2 : Int32), rv b2, iv x0, iv x1, iv x2, iv x3, rv b143, iv kk0, .unset, .unset, .unset, .unset, .unset, .unset, .unset, .unset, .unset, .unset, .unset] [(.int kk1)]))
  refine own_step (fun t k => XS.istore X153.here hx rfl (hb hby at_147) rfl (l' := #[iv p1, iv p2, iv p3, iv (2 : Int32), rv b2, iv x0, iv x1, iv x2, iv x3, rv b143, iv kk0, iv kk1, .unset, .unset, .unset, .unset, .unset, .unset, .unset, .unset, .unset, .unset]) rfl k) ?_
  refine own_step (fun t k => XS.aload X153.here hx rfl (hb hby at_149) rfl rfl k) ?_
  refine own_step (fun t k => XS.iload X153.here hx rfl (hb hby at_151) rfl k) ?_
  refine own_step (own_iaload X153 hx hZ e153 c155 (own_i4 hx2 rfl) (g := (mkF m 153 #[iv p1, iv p2, iv p3, iv (2 : Int32), rv b2, iv x0, iv x1, iv x2, iv x3, rv b143, iv kk0, iv kk1, .unset, .unset, .unset, .unset, .unset, .unset, .unset, .unset, .unset, .unset] [(.int x2), (.ref b2)])) rfl rfl (hb hby at_153)) ?_
  show own_G p.tables e below _ (T153.setTop (mkF m 154 #[iv p1, iv p2, iv p3, iv (2 : Int32), rv b2, iv x0, iv x1, iv x2, iv x3, rv b143, iv kk0, iv kk1, .unset, .unset, .unset, .unset, .unset, .unset, .unset, .unset, .unset, .unset] [(.int ([kv0, kv1, kv2, kv3].getD x2.toNatClampNeg 0))]))
  refine own_nm (([kv0, kv1, kv2, kv3].getD x2.toNatClampNeg 0) : Int32) (fun kk2 => T153.setTop (mkF m 154 #[iv p1, iv p2, iv p3, iv (2 : Int32), rv b2, iv x0, iv x1, iv x2, iv x3, rv b143, iv kk0, iv kk1, .unset, .unset, .unset, .unset, .unset, .unset, .unset, .unset, .unset, .unset] [(.int kk2)])) ?_
  intro kk2 hd_kk2
  show own_G p.tables e below _ (T153.setTop (mkF m 154 #[iv p1, iv p2, iv p3, iv (2 : Int32), rv b2, iv x0, iv x1, iv x2, iv x3, rv b143, iv kk0, iv kk1, .unset, .unset, .unset, .unset, .unset, .unset, .unset, .unset, .unset, .unset] [(.int kk2)]))
  refine own_step (fun t k => XS.istore X153.here hx rfl (hb hby at_154) rfl (l' := #[iv p1, iv p2, iv p3, iv (2 : Int32), rv b2, iv x0, iv x1, iv x2, iv x3, rv b143, iv kk0, iv kk1, iv kk2, .unset, .unset, .unset, .unset, .unset, .unset, .unset, .unset, .unset]) rfl k) ?_
  refine own_step (fun t k => XS.aload X153.here hx rfl (hb hby at_156) rfl rfl k) ?_
  refine own_step (fun t k => XS.iload X153.here hx rfl (hb hby at_158) rfl k) ?_
  refine own_step (own_iaload X153 hx hZ e153 c155 (own_i4 hx3 rfl) (g := (mkF m 160 #[iv p1, iv p2, iv p3, iv (2 : Int32), rv b2, iv x0, iv x1, iv x2, iv x3, rv b143, iv kk0, iv kk1, iv kk2, .unset, .unset, .unset, .unset, .unset, .unset, .unset, .unset, .unset] [(.int x3), (.ref b2)])) rfl rfl (hb hby at_160)) ?_
  show own_G p.tables e below _ (T153.setTop (mkF m 161 #[iv p1, iv p2, iv p3, iv (2 : Int32), rv b2, iv x0, iv x1, iv x2, iv x3, rv b143, iv kk0, iv kk1, iv kk2, .unset, .unset, .unset, .unset, .unset, .unset, .unset, .unset, .unset] [(.int ([kv0, kv1, kv2, kv3].getD x3.toNatClampNeg 0))]))
  refine own_nm (([kv0, kv1, kv2, kv3].getD x3.toNatClampNeg 0) : Int32) (fun kk3 => T153.setTop (mkF m 161 #[iv p1, iv p2, iv p3, iv (2 : Int32), rv b2, iv x0, iv x1, iv x2, iv x3, rv b143, iv kk0, iv kk1, iv kk2, .unset, .unset, .unset, .unset, .unset, .unset, .unset, .unset, .unset] [(.int kk3)])) ?_
  intro kk3 hd_kk3
  show own_G p.tables e below _ (T153.setTop (mkF m 161 #[iv p1, iv p2, iv p3, iv (2 : Int32), rv b2, iv x0, iv x1, iv x2, iv x3, rv b143, iv kk0, iv kk1, iv kk2, .unset, .unset, .unset, .unset, .unset, .unset, .unset, .unset, .unset] [(.int kk3)]))
  refine own_step (fun t k => XS.istore X153.here hx rfl (hb hby at_161) rfl (l' := #[iv p1, iv p2, iv p3, iv (2 : Int32), rv b2, iv x0, iv x1, iv x2, iv x3, rv b143, iv kk0, iv kk1, iv kk2, iv kk3, .unset, .unset, .unset, .unset, .unset, .unset, .unset, .unset]) rfl k) ?_
  have h30 : own_3 kk0 := by rw [hd_kk0]; exact own_k3 hv0 hv1 hv2 hv3 hx0
  have h31 : own_3 kk1 := by rw [hd_kk1]; exact own_k3 hv0 hv1 hv2 hv3 hx1
  have h32 : own_3 kk2 := by rw [hd_kk2]; exact own_k3 hv0 hv1 hv2 hv3 hx2
  have h33 : own_3 kk3 := by rw [hd_kk3]; exact own_k3 hv0 hv1 hv2 hv3 hx3
  refine own_step (fun t k => XS.iconst X153.here hx rfl (hb hby at_163) k) ?_
  refine own_step (fun t k => XS.iloadN X153.here hx rfl (hb hby at_164) rfl k) ?_
  refine own_step (fun t k => XS.iload X153.here hx rfl (hb hby at_165) rfl k) ?_
  show own_G p.tables e below _ (T153.setTop (mkF m 167 #[iv p1, iv p2, iv p3, iv (2 : Int32), rv b2, iv x0, iv x1, iv x2, iv x3, rv b143, iv kk0, iv kk1, iv kk2, iv kk3, .unset, .unset, .unset, .unset, .unset, .unset, .unset, .unset] [(.int kk0), (.int (2 : Int32)), (.int (0 : Int32))]))
  refine own_step (fun t k => XS.iload X153.here hx rfl (hb hby at_167) rfl k) ?_
  refine own_step (fun t k => XS.iload X153.here hx rfl (hb hby at_169) rfl k) ?_
  refine own_step (fun t k => XS.iload X153.here hx rfl (hb hby at_171) rfl k) ?_
  obtain ⟨_, _, ⟨T163, L163, k163, n163⟩, -, X163, ⟨Lc163, hQ163, l163, y163, z163⟩, st163⟩ := Jvm.LawKit.callS X153 hx (y := (⟨"com/example/stevedore/stevedore/MoveGraphGroupedPinLaw", "cnt", "(IIIIII)I"⟩ : MethodName)) hown (mvT hZ (hw _ (List.mem_of_getElem? (i := 1) rfl))) (mvT hZ (hw _ (List.mem_of_getElem? (i := 2) rfl))) (mvT hZ (hw _ (List.mem_of_getElem? (i := 3) rfl))) (mvT hZ (hw _ (List.mem_of_getElem? (i := 4) rfl))) (by decide) (backOf (W := 0) (rm1_n2 l Z a0 hw [] (0 : Int32) kk0 kk1 kk2 kk3 h153 n0 (Nat.le_trans Z0 K153.1) ) hZ (hw _ (List.mem_of_getElem? (i := 4) rfl)) (hw _ (List.mem_of_getElem? (i := 3) rfl)) (by decide) (by decide)) (g := (mkF m 173 #[iv p1, iv p2, iv p3, iv (2 : Int32), rv b2, iv x0, iv x1, iv x2, iv x3, rv b143, iv kk0, iv kk1, iv kk2, iv kk3, .unset, .unset, .unset, .unset, .unset, .unset, .unset, .unset] [(.int kk3), (.int kk2), (.int kk1), (.int kk0), (.int (2 : Int32)), (.int (0 : Int32))])) rfl (by rw [hml]; rfl) (argsL := [(.int (0 : Int32)), (.int (2 : Int32)), (.int kk0), (.int kk1), (.int kk2), (.int kk3)]) (rest := []) (lenOf pd_0_0 rfl) rfl (by show 2 * 0 + _ ≤ _; exact Nat.le_of_eq rfl) (hb hby at_173) (fun _ _ => ⟨rfl, e153, (by decide : 2 + 0 ≤ _), (by decide : 6 + 0 ≤ _)⟩)
  dsimp only [Pt.U, Pt.locs, Pt.cells, Pt.slots] at X163 l163 y163 z163 st163 hQ163
  subst y163 z163
  obtain ⟨rfl, N163q, e163⟩ := hQ163
  have N163 : Fr n0 L163 := by rw [l163]; exact Fr.app N153 N163q
  refine own_step st163 ?_
  show own_G p.tables e below _ (T163.setTop (mkF m 176 #[iv p1, iv p2, iv p3, iv (2 : Int32), rv b2, iv x0, iv x1, iv x2, iv x3, rv b143, iv kk0, iv kk1, iv kk2, iv kk3, .unset, .unset, .unset, .unset, .unset, .unset, .unset, .unset] [(.int ((((own_f2 (if kk0 = (0 : Int32) then (1 : Int32) else (0 : Int32))) + (own_f2 (if kk1 = (0 : Int32) then (1 : Int32) else (0 : Int32)))) + (own_f2 (0 : Int32))) + (own_f2 (0 : Int32))))]))
  refine own_nm (((((own_f2 (if kk0 = (0 : Int32) then (1 : Int32) else (0 : Int32))) + (own_f2 (if kk1 = (0 : Int32) then (1 : Int32) else (0 : Int32)))) + (own_f2 (0 : Int32))) + (own_f2 (0 : Int32))) : Int32) (fun ct0 => T163.setTop (mkF m 176 #[iv p1, iv p2, iv p3, iv (2 : Int32), rv b2, iv x0, iv x1, iv x2, iv x3, rv b143, iv kk0, iv kk1, iv kk2, iv kk3, .unset, .unset, .unset, .unset, .unset, .unset, .unset, .unset] [(.int ct0)])) ?_
  intro ct0 hd_ct0
  show own_G p.tables e below _ (T163.setTop (mkF m 176 #[iv p1, iv p2, iv p3, iv (2 : Int32), rv b2, iv x0, iv x1, iv x2, iv x3, rv b143, iv kk0, iv kk1, iv kk2, iv kk3, .unset, .unset, .unset, .unset, .unset, .unset, .unset, .unset] [(.int ct0)]))
  refine own_step (fun t k => XS.istore X163.here hx rfl (hb hby at_176) rfl (l' := #[iv p1, iv p2, iv p3, iv (2 : Int32), rv b2, iv x0, iv x1, iv x2, iv x3, rv b143, iv kk0, iv kk1, iv kk2, iv kk3, iv ct0, .unset, .unset, .unset, .unset, .unset, .unset, .unset]) rfl k) ?_
  refine own_step (fun t k => XS.iconst X163.here hx rfl (hb hby at_178) k) ?_
  refine own_step (fun t k => XS.iloadN X163.here hx rfl (hb hby at_179) rfl k) ?_
  refine own_step (fun t k => XS.iload X163.here hx rfl (hb hby at_180) rfl k) ?_
  show own_G p.tables e below _ (T163.setTop (mkF m 182 #[iv p1, iv p2, iv p3, iv (2 : Int32), rv b2, iv x0, iv x1, iv x2, iv x3, rv b143, iv kk0, iv kk1, iv kk2, iv kk3, iv ct0, .unset, .unset, .unset, .unset, .unset, .unset, .unset] [(.int kk0), (.int (2 : Int32)), (.int (1 : Int32))]))
  refine own_step (fun t k => XS.iload X163.here hx rfl (hb hby at_182) rfl k) ?_
  refine own_step (fun t k => XS.iload X163.here hx rfl (hb hby at_184) rfl k) ?_
  refine own_step (fun t k => XS.iload X163.here hx rfl (hb hby at_186) rfl k) ?_
  obtain ⟨_, _, ⟨T165, L165, k165, n165⟩, -, X165, ⟨Lc165, hQ165, l165, y165, z165⟩, st165⟩ := Jvm.LawKit.callS X163 hx (y := (⟨"com/example/stevedore/stevedore/MoveGraphGroupedPinLaw", "cnt", "(IIIIII)I"⟩ : MethodName)) hown (mvT hZ (hw _ (List.mem_of_getElem? (i := 1) rfl))) (mvT hZ (hw _ (List.mem_of_getElem? (i := 2) rfl))) (mvT hZ (hw _ (List.mem_of_getElem? (i := 3) rfl))) (mvT hZ (hw _ (List.mem_of_getElem? (i := 4) rfl))) (by decide) (backOf (W := 0) (rm1_n2 l Z a0 hw [] (1 : Int32) kk0 kk1 kk2 kk3 h153 n0 (Nat.le_trans Z0 K153.1) ) hZ (hw _ (List.mem_of_getElem? (i := 4) rfl)) (hw _ (List.mem_of_getElem? (i := 3) rfl)) (by decide) (by decide)) (g := (mkF m 188 #[iv p1, iv p2, iv p3, iv (2 : Int32), rv b2, iv x0, iv x1, iv x2, iv x3, rv b143, iv kk0, iv kk1, iv kk2, iv kk3, iv ct0, .unset, .unset, .unset, .unset, .unset, .unset, .unset] [(.int kk3), (.int kk2), (.int kk1), (.int kk0), (.int (2 : Int32)), (.int (1 : Int32))])) rfl (by rw [hml]; rfl) (argsL := [(.int (1 : Int32)), (.int (2 : Int32)), (.int kk0), (.int kk1), (.int kk2), (.int kk3)]) (rest := []) (lenOf pd_0_0 rfl) rfl (by show 2 * 0 + _ ≤ _; exact Nat.le_of_eq rfl) (hb hby at_188) (fun _ _ => ⟨rfl, e163, (by decide : 2 + 0 ≤ _), (by decide : 6 + 0 ≤ _)⟩)
  dsimp only [Pt.U, Pt.locs, Pt.cells, Pt.slots] at X165 l165 y165 z165 st165 hQ165
  subst y165 z165
  obtain ⟨rfl, N165q, e165⟩ := hQ165
  have N165 : Fr n0 L165 := by rw [l165]; exact Fr.app N163 N165q
  refine own_step st165 ?_
  clear N153 N163 N163q N165q X153 X163 e153 e163 hk157 hk158 st163 st165
  show own_G p.tables e below _ (T165.setTop (mkF m 191 #[iv p1, iv p2, iv p3, iv (2 : Int32), rv b2, iv x0, iv x1, iv x2, iv x3, rv b143, iv kk0, iv kk1, iv kk2, iv kk3, iv ct0, .unset, .unset, .unset, .unset, .unset, .unset, .unset] [(.int ((((own_f2 (if kk0 = (1 : Int32) then (1 : Int32) else (0 : Int32))) + (own_f2 (if kk1 = (1 : Int32) then (1 : Int32) else (0 : Int32)))) + (own_f2 (0 : Int32))) + (own_f2 (0 : Int32))))]))
  refine own_nm (((((own_f2 (if kk0 = (1 : Int32) then (1 : Int32) else (0 : Int32))) + (own_f2 (if kk1 = (1 : Int32) then (1 : Int32) else (0 : Int32)))) + (own_f2 (0 : Int32))) + (own_f2 (0 : Int32))) : Int32) (fun ct1 => T165.setTop (mkF m 191 #[iv p1, iv p2, iv p3, iv (2 : Int32), rv b2, iv x0, iv x1, iv x2, iv x3, rv b143, iv kk0, iv kk1, iv kk2, iv kk3, iv ct0, .unset, .unset, .unset, .unset, .unset, .unset, .unset] [(.int ct1)])) ?_
  intro ct1 hd_ct1
  show own_G p.tables e below _ (T165.setTop (mkF m 191 #[iv p1, iv p2, iv p3, iv (2 : Int32), rv b2, iv x0, iv x1, iv x2, iv x3, rv b143, iv kk0, iv kk1, iv kk2, iv kk3, iv ct0, .unset, .unset, .unset, .unset, .unset, .unset, .unset] [(.int ct1)]))
  refine own_step (fun t k => XS.istore X165.here hx rfl (hb hby at_191) rfl (l' := #[iv p1, iv p2, iv p3, iv (2 : Int32), rv b2, iv x0, iv x1, iv x2, iv x3, rv b143, iv kk0, iv kk1, iv kk2, iv kk3, iv ct0, iv ct1, .unset, .unset, .unset, .unset, .unset, .unset]) rfl k) ?_
  refine own_step (fun t k => XS.iconst X165.here hx rfl (hb hby at_193) k) ?_
  obtain ⟨T167, h167, k167, X167, e167, E167, A167, B167, st167⟩ := newPE X165 hx hZ (hw _ (List.mem_of_getElem? (i := 0) rfl)) e165 (g := (mkF m 194 #[iv p1, iv p2, iv p3, iv (2 : Int32), rv b2, iv x0, iv x1, iv x2, iv x3, rv b143, iv kk0, iv kk1, iv kk2, iv kk3, iv ct0, iv ct1, .unset, .unset, .unset, .unset, .unset, .unset] [(.int (4 : Int32))])) rfl (hb hby at_194) rfl (by decide) (cap := 4) (by decide) (by decide) (by decide) (by decide) (ad := "[I") (by decide)
  obtain ⟨b167, g167⟩ : ∃ z, z = h153.size := ⟨_, rfl⟩
  have ne168 : b2 ≠ b167 := Nat.ne_of_lt (Nat.lt_of_lt_of_le c155.lt (Nat.le_of_eq g167.symm))
  have ne169 : b143 ≠ b167 := Nat.ne_of_lt (Nat.lt_of_lt_of_le c154.lt (Nat.le_of_eq g167.symm))
  have sz167 : h0.size ≤ b167 := Nat.le_trans K153.1 (Nat.le_of_eq g167.symm)
  have ge167 : n0 ≤ b167 := Nat.le_trans Z0 sz167
  have c170 : own_Ari Z h167 b2 .int [kv0, kv1, kv2, kv3] := c155.ext E167
  have c171 : own_Ari Z h167 b143 .int [x0, x1] := c154.ext E167
  have K167 : Keep h0 h167 [] := K153.ext E167
  rw [← g167] at A167 B167 st167
  have c172 : own_Ari Z h167 b167 .int [(0 : Int32), (0 : Int32), (0 : Int32), (0 : Int32)] := own_Ari_new (ty := .int) A167 (by decide) rfl
  refine own_step st167 ?_
  refine own_step (fun t k => XS.astore X167.here hx rfl (hb hby at_196) rfl rfl (l' := #[iv p1, iv p2, iv p3, iv (2 : Int32), rv b2, iv x0, iv x1, iv x2, iv x3, rv b143, iv kk0, iv kk1, iv kk2, iv kk3, iv ct0, iv ct1, rv b167, .unset, .unset, .unset, .unset, .unset]) rfl k) ?_
  show own_G p.tables e below _ (T167.setTop (mkF m 198 #[iv p1, iv p2, iv p3, iv (2 : Int32), rv b2, iv x0, iv x1, iv x2, iv x3, rv b143, iv kk0, iv kk1, iv kk2, iv kk3, iv ct0, iv ct1, rv b167, .unset, .unset, .unset, .unset, .unset] []))
  refine own_step (fun t k => XS.aload X167.here hx rfl (hb hby at_198) rfl rfl k) ?_
  refine own_step (fun t k => XS.aload X167.here hx rfl (hb hby at_200) rfl rfl k) ?_
  refine own_step (fun t k => XS.aload X167.here hx rfl (hb hby at_202) rfl rfl k) ?_
  obtain ⟨_, _, ⟨T173, L173, k173, n173⟩, -, X173, ⟨Lc173, hQ173, l173, y173, z173⟩, st173⟩ := Jvm.LawKit.callS X167 hx (y := (⟨"com/example/stevedore/stevedore/MoveGraph", "grouped", "([I[I[I)[I"⟩ : MethodName)) hown (mvT hZ (hw _ (List.mem_of_getElem? (i := 8) rfl))) (mvT hZ (hw _ (List.mem_of_getElem? (i := 9) rfl))) (mvT hZ (hw _ (List.mem_of_getElem? (i := 10) rfl))) (mvT hZ (hw _ (List.mem_of_getElem? (i := 11) rfl))) (by decide) (backOf (W := 0) (rm3_n2 l Z a0 hw [] b143 b2 b167 x0 x1 kv0 kv1 kv2 kv3 kk0 kk1 h167 n0 (Nat.le_trans Z0 K167.1) c171 c170 c172 B167 (hx0 : own_4 x0) (hx1 : own_4 x1) (hd_kk0.symm : ([kv0, kv1, kv2, kv3].getD x0.toNatClampNeg 0) = kk0) (hd_kk1.symm : ([kv0, kv1, kv2, kv3].getD x1.toNatClampNeg 0) = kk1) (h30 : own_3 kk0) (h31 : own_3 kk1) ge167 ne169 ne168) hZ (hw _ (List.mem_of_getElem? (i := 11) rfl)) (hw _ (List.mem_of_getElem? (i := 10) rfl)) (by decide) (by decide)) (g := (mkF m 204 #[iv p1, iv p2, iv p3, iv (2 : Int32), rv b2, iv x0, iv x1, iv x2, iv x3, rv b143, iv kk0, iv kk1, iv kk2, iv kk3, iv ct0, iv ct1, rv b167, .unset, .unset, .unset, .unset, .unset] [(.ref b167), (.ref b2), (.ref b143)])) rfl (by rw [hml]; rfl) (argsL := [(.ref b143), (.ref b2), (.ref b167)]) (rest := []) (lenOf pd_0_1 rfl) rfl (by show 2 * 0 + _ ≤ _; exact Nat.le_of_eq rfl) (hb hby at_204) (fun _ _ => ⟨rfl, e167, (by decide : 3 + 2 ≤ _), (by decide : 10 + 6 ≤ _)⟩)
  dsimp only [Pt.U, Pt.locs, Pt.cells, Pt.slots] at X173 l173 y173 z173 st173 hQ173
  subst y173 z173
  obtain ⟨bx173_rb, rfl, N173q, K173q, w173_0, w173_1, sx173_0⟩ := hQ173
  have c174 : own_Ari Z T173.heap b2 .int [kv0, kv1, kv2, kv3] := c170.keep K173q (ninS ne168 nin0)
  have c175 : own_Ari Z T173.heap b143 .int [x0, x1] := c171.keep K173q (ninS ne169 nin0)
  have c176 : Exa Z T173.heap b167 "[I" := B167.keep K173q
  have sz173_0 : h0.size ≤ bx173_rb := Nat.le_trans K167.1 sx173_0
  have ge173_0 : n0 ≤ bx173_rb := Nat.le_trans Z0 sz173_0
  have ne178 : b2 ≠ bx173_rb := Nat.ne_of_lt (Nat.lt_of_lt_of_le c170.lt sx173_0)
  have ne179 : b143 ≠ bx173_rb := Nat.ne_of_lt (Nat.lt_of_lt_of_le c171.lt sx173_0)
  have ne180 : b167 ≠ bx173_rb := Nat.ne_of_lt (Nat.lt_of_lt_of_le B167.lt sx173_0)
  have K173 : Keep h0 T173.heap [] := K167.trans K173q (allS (Or.inr sz167) all0)
  have N173 : Fr n0 L173 := by rw [l173]; exact Fr.app N165 N173q
  refine own_step st173 ?_
  clear A167 B167 E167 K153 K167 K173q N165 N173q X165 X167 c154 c155 c170 c171 c172 e165 e167 g167 st167 st173 sx173_0
  show own_G p.tables e below _ (T173.setTop (mkF m 207 #[iv p1, iv p2, iv p3, iv (2 : Int32), rv b2, iv x0, iv x1, iv x2, iv x3, rv b143, iv kk0, iv kk1, iv kk2, iv kk3, iv ct0, iv ct1, rv b167, .unset, .unset, .unset, .unset, .unset] [(.ref bx173_rb)]))
  refine own_step (fun t k => XS.astore X173.here hx rfl (hb hby at_207) rfl rfl (l' := #[iv p1, iv p2, iv p3, iv (2 : Int32), rv b2, iv x0, iv x1, iv x2, iv x3, rv b143, iv kk0, iv kk1, iv kk2, iv kk3, iv ct0, iv ct1, rv b167, rv bx173_rb, .unset, .unset, .unset, .unset]) rfl k) ?_
  refine own_step (fun t k => XS.aload X173.here hx rfl (hb hby at_209) rfl rfl k) ?_
  refine own_step (own_lenI X173 hx hZ rfl w173_1 (g := (mkF m 211 #[iv p1, iv p2, iv p3, iv (2 : Int32), rv b2, iv x0, iv x1, iv x2, iv x3, rv b143, iv kk0, iv kk1, iv kk2, iv kk3, iv ct0, iv ct1, rv b167, rv bx173_rb, .unset, .unset, .unset, .unset] [(.ref bx173_rb)])) rfl rfl (hb hby at_211)) ?_
  show own_G p.tables e below _ (T173.setTop (mkF m 212 #[iv p1, iv p2, iv p3, iv (2 : Int32), rv b2, iv x0, iv x1, iv x2, iv x3, rv b143, iv kk0, iv kk1, iv kk2, iv kk3, iv ct0, iv ct1, rv b167, rv bx173_rb, .unset, .unset, .unset, .unset] [(.int ((([(0 : Int32), (0 : Int32)].set ((own_s2 kk0 kk1).getD kk0.toNatClampNeg 0).toNatClampNeg x0).set ((own_inc (own_s2 kk0 kk1) kk0).getD kk1.toNatClampNeg 0).toNatClampNeg x1).length.toInt32))]))
  rw [show ((([(0 : Int32), (0 : Int32)].set ((own_s2 kk0 kk1).getD kk0.toNatClampNeg 0).toNatClampNeg x0).set ((own_inc (own_s2 kk0 kk1) kk0).getD kk1.toNatClampNeg 0).toNatClampNeg x1).length.toInt32) = (2 : Int32) from by simp only [List.length_set]; rfl]
  show own_G p.tables e below _ (T173.setTop (mkF m 212 #[iv p1, iv p2, iv p3, iv (2 : Int32), rv b2, iv x0, iv x1, iv x2, iv x3, rv b143, iv kk0, iv kk1, iv kk2, iv kk3, iv ct0, iv ct1, rv b167, rv bx173_rb, .unset, .unset, .unset, .unset] [(.int (2 : Int32))]))
  refine own_step (fun t k => XS.iloadN X173.here hx rfl (hb hby at_212) rfl k) ?_
  have hk181 : (2 : Int32) = (2 : Int32) := rfl
  refine own_step (fun t k => XS.icmpYes X173.here hx rfl (pc0 := 213) (pc' := 218) rfl (hb hby at_213) rfl ((teq hk181).1) (by decide) (by decide) k) ?_
  show own_G p.tables e below _ (T173.setTop (mkF m 218 #[iv p1, iv p2, iv p3, iv (2 : Int32), rv b2, iv x0, iv x1, iv x2, iv x3, rv b143, iv kk0, iv kk1, iv kk2, iv kk3, iv ct0, iv ct1, rv b167, rv bx173_rb, .unset, .unset, .unset, .unset] []))
  refine own_step (fun t k => XS.aload X173.here hx rfl (hb hby at_218) rfl rfl k) ?_
  refine own_step (fun t k => XS.iconst X173.here hx rfl (hb hby at_220) k) ?_
  refine own_step (own_iaload X173 hx hZ rfl w173_0 (own_inb (by decide) (by rw [own_s2_len]; decide)) (g := (mkF m 221 #[iv p1, iv p2, iv p3, iv (2 : Int32), rv b2, iv x0, iv x1, iv x2, iv x3, rv b143, iv kk0, iv kk1, iv kk2, iv kk3, iv ct0, iv ct1, rv b167, rv bx173_rb, .unset, .unset, .unset, .unset] [(.int (0 : Int32)), (.ref b167)])) rfl rfl (hb hby at_221)) ?_
  have hk182 : ((own_s2 kk0 kk1).getD 0 0) = (0 : Int32) := own_a2 (kk0 := kk0) (kk1 := kk1) (kk2 := kk2) (kk3 := kk3) (ct0 := ct0) (ct1 := ct1) h30 h31 hd_ct0 hd_ct1
  refine own_step (fun t k => XS.ifNo X173.here hx rfl (hb hby at_222) rfl ((if0 _ _).trans (teq hk182).2) k) ?_
  show own_G p.tables e below _ (T173.setTop (mkF m 225 #[iv p1, iv p2, iv p3, iv (2 : Int32), rv b2, iv x0, iv x1, iv x2, iv x3, rv b143, iv kk0, iv kk1, iv kk2, iv kk3, iv ct0, iv ct1, rv b167, rv bx173_rb, .unset, .unset, .unset, .unset] []))
  refine own_step (fun t k => XS.aload X173.here hx rfl (hb hby at_225) rfl rfl k) ?_
  refine own_step (fun t k => XS.iconst X173.here hx rfl (hb hby at_227) k) ?_
  refine own_step (own_iaload X173 hx hZ rfl w173_0 (own_inb (by decide) (by rw [own_s2_len]; decide)) (g := (mkF m 228 #[iv p1, iv p2, iv p3, iv (2 : Int32), rv b2, iv x0, iv x1, iv x2, iv x3, rv b143, iv kk0, iv kk1, iv kk2, iv kk3, iv ct0, iv ct1, rv b167, rv bx173_rb, .unset, .unset, .unset, .unset] [(.int (1 : Int32)), (.ref b167)])) rfl rfl (hb hby at_228)) ?_
  refine own_step (fun t k => XS.iload X173.here hx rfl (hb hby at_229) rfl k) ?_
  show own_G p.tables e below _ (T173.setTop (mkF m 231 #[iv p1, iv p2, iv p3, iv (2 : Int32), rv b2, iv x0, iv x1, iv x2, iv x3, rv b143, iv kk0, iv kk1, iv kk2, iv kk3, iv ct0, iv ct1, rv b167, rv bx173_rb, .unset, .unset, .unset, .unset] [(.int ct0), (.int ((own_s2 kk0 kk1).getD 1 0))]))
  have hk183 : ((own_s2 kk0 kk1).getD 1 0) = ct0 := own_b2 (kk0 := kk0) (kk1 := kk1) (kk2 := kk2) (kk3 := kk3) (ct0 := ct0) (ct1 := ct1) h30 h31 hd_ct0 hd_ct1
  refine own_step (fun t k => XS.icmpNo X173.here hx rfl (hb hby at_231) rfl ((teq hk183).2) k) ?_
  show own_G p.tables e below _ (T173.setTop (mkF m 234 #[iv p1, iv p2, iv p3, iv (2 : Int32), rv b2, iv x0, iv x1, iv x2, iv x3, rv b143, iv kk0, iv kk1, iv kk2, iv kk3, iv ct0, iv ct1, rv b167, rv bx173_rb, .unset, .unset, .unset, .unset] []))
  refine own_step (fun t k => XS.aload X173.here hx rfl (hb hby at_234) rfl rfl k) ?_
  refine own_step (fun t k => XS.iconst X173.here hx rfl (hb hby at_236) k) ?_
  refine own_step (own_iaload X173 hx hZ rfl w173_0 (own_inb (by decide) (by rw [own_s2_len]; decide)) (g := (mkF m 237 #[iv p1, iv p2, iv p3, iv (2 : Int32), rv b2, iv x0, iv x1, iv x2, iv x3, rv b143, iv kk0, iv kk1, iv kk2, iv kk3, iv ct0, iv ct1, rv b167, rv bx173_rb, .unset, .unset, .unset, .unset] [(.int (2 : Int32)), (.ref b167)])) rfl rfl (hb hby at_237)) ?_
  refine own_step (fun t k => XS.iload X173.here hx rfl (hb hby at_238) rfl k) ?_
  show own_G p.tables e below _ (T173.setTop (mkF m 240 #[iv p1, iv p2, iv p3, iv (2 : Int32), rv b2, iv x0, iv x1, iv x2, iv x3, rv b143, iv kk0, iv kk1, iv kk2, iv kk3, iv ct0, iv ct1, rv b167, rv bx173_rb, .unset, .unset, .unset, .unset] [(.int ct0), (.int ((own_s2 kk0 kk1).getD 2 0))]))
  refine own_step (fun t k => XS.iload X173.here hx rfl (hb hby at_240) rfl k) ?_
  refine own_step (fun t k => XS.iadd X173.here hx rfl (hb hby at_242) rfl k) ?_
  have hk184 : ((own_s2 kk0 kk1).getD 2 0) = (ct0 + ct1) := own_c2 (kk0 := kk0) (kk1 := kk1) (kk2 := kk2) (kk3 := kk3) (ct0 := ct0) (ct1 := ct1) h30 h31 hd_ct0 hd_ct1
  refine own_step (fun t k => XS.icmpNo X173.here hx rfl (hb hby at_243) rfl ((teq hk184).2) k) ?_
  show own_G p.tables e below _ (T173.setTop (mkF m 246 #[iv p1, iv p2, iv p3, iv (2 : Int32), rv b2, iv x0, iv x1, iv x2, iv x3, rv b143, iv kk0, iv kk1, iv kk2, iv kk3, iv ct0, iv ct1, rv b167, rv bx173_rb, .unset, .unset, .unset, .unset] []))
  refine own_step (fun t k => XS.aload X173.here hx rfl (hb hby at_246) rfl rfl k) ?_
  refine own_step (fun t k => XS.iconst X173.here hx rfl (hb hby at_248) k) ?_
  refine own_step (own_iaload X173 hx hZ rfl w173_0 (own_inb (by decide) (by rw [own_s2_len]; decide)) (g := (mkF m 249 #[iv p1, iv p2, iv p3, iv (2 : Int32), rv b2, iv x0, iv x1, iv x2, iv x3, rv b143, iv kk0, iv kk1, iv kk2, iv kk3, iv ct0, iv ct1, rv b167, rv bx173_rb, .unset, .unset, .unset, .unset] [(.int (3 : Int32)), (.ref b167)])) rfl rfl (hb hby at_249)) ?_
  refine own_step (fun t k => XS.iloadN X173.here hx rfl (hb hby at_250) rfl k) ?_
  show own_G p.tables e below _ (T173.setTop (mkF m 251 #[iv p1, iv p2, iv p3, iv (2 : Int32), rv b2, iv x0, iv x1, iv x2, iv x3, rv b143, iv kk0, iv kk1, iv kk2, iv kk3, iv ct0, iv ct1, rv b167, rv bx173_rb, .unset, .unset, .unset, .unset] [(.int (2 : Int32)), (.int ((own_s2 kk0 kk1).getD 3 0))]))
  have hk185 : ((own_s2 kk0 kk1).getD 3 0) = (2 : Int32) := own_d2 (kk0 := kk0) (kk1 := kk1) (kk2 := kk2) (kk3 := kk3) (ct0 := ct0) (ct1 := ct1) h30 h31 hd_ct0 hd_ct1
  refine own_step (fun t k => XS.icmpYes X173.here hx rfl (pc0 := 251) (pc' := 256) rfl (hb hby at_251) rfl ((teq hk185).1) (by decide) (by decide) k) ?_
  show own_G p.tables e below _ (T173.setTop (mkF m 256 #[iv p1, iv p2, iv p3, iv (2 : Int32), rv b2, iv x0, iv x1, iv x2, iv x3, rv b143, iv kk0, iv kk1, iv kk2, iv kk3, iv ct0, iv ct1, rv b167, rv bx173_rb, .unset, .unset, .unset, .unset] []))
  refine own_step (fun t k => XS.iload X173.here hx rfl (hb hby at_256) rfl k) ?_
  refine own_step (fun t k => XS.iload X173.here hx rfl (hb hby at_258) rfl k) ?_
  refine own_step (fun t k => XS.iload X173.here hx rfl (hb hby at_260) rfl k) ?_
  refine own_step (fun t k => XS.iloadN X173.here hx rfl (hb hby at_262) rfl k) ?_
  show own_G p.tables e below _ (T173.setTop (mkF m 263 #[iv p1, iv p2, iv p3, iv (2 : Int32), rv b2, iv x0, iv x1, iv x2, iv x3, rv b143, iv kk0, iv kk1, iv kk2, iv kk3, iv ct0, iv ct1, rv b167, rv bx173_rb, .unset, .unset, .unset, .unset] [(.int (2 : Int32)), (.int ct1), (.int ct0), (.int kk0)]))
  obtain ⟨_, _, ⟨T186, L186, k186, n186⟩, -, X186, ⟨Lc186, hQ186, l186, y186, z186⟩, st186⟩ := Jvm.LawKit.callS X173 hx (y := (⟨"com/example/stevedore/stevedore/MoveGraphGroupedPinLaw", "se", "(IIII)I"⟩ : MethodName)) hown (mvT hZ (hw _ (List.mem_of_getElem? (i := 21) rfl))) (mvT hZ (hw _ (List.mem_of_getElem? (i := 22) rfl))) (mvT hZ (hw _ (List.mem_of_getElem? (i := 3) rfl))) (mvT hZ (hw _ (List.mem_of_getElem? (i := 23) rfl))) (by decide) (backOf (W := 0) (rm4 l Z a0 hw [] kk0 ct0 ct1 (2 : Int32) T173.heap n0 (Nat.le_trans Z0 K173.1) ) hZ (hw _ (List.mem_of_getElem? (i := 23) rfl)) (hw _ (List.mem_of_getElem? (i := 3) rfl)) (by decide) (by decide)) (g := (mkF m 263 #[iv p1, iv p2, iv p3, iv (2 : Int32), rv b2, iv x0, iv x1, iv x2, iv x3, rv b143, iv kk0, iv kk1, iv kk2, iv kk3, iv ct0, iv ct1, rv b167, rv bx173_rb, .unset, .unset, .unset, .unset] [(.int (2 : Int32)), (.int ct1), (.int ct0), (.int kk0)])) rfl (by rw [hml]; rfl) (argsL := [(.int kk0), (.int ct0), (.int ct1), (.int (2 : Int32))]) (rest := []) (lenOf pd_0_2 rfl) rfl (by show 2 * 0 + _ ≤ _; exact Nat.le_of_eq rfl) (hb hby at_263) (fun _ _ => ⟨rfl, rfl, (by decide : 5 + 0 ≤ _), (by decide : 16 + 0 ≤ _)⟩)
  dsimp only [Pt.U, Pt.locs, Pt.cells, Pt.slots] at X186 l186 y186 z186 st186 hQ186
  subst y186 z186
  obtain ⟨rfl, N186q, e186⟩ := hQ186
  have N186 : Fr n0 L186 := by rw [l186]; exact Fr.app N173 N186q
  refine own_step st186 ?_
  refine own_nm ((own_f4 kk0 ct0 ct1 (2 : Int32)) : Int32) (fun pp0 => T186.setTop (mkF m 266 #[iv p1, iv p2, iv p3, iv (2 : Int32), rv b2, iv x0, iv x1, iv x2, iv x3, rv b143, iv kk0, iv kk1, iv kk2, iv kk3, iv ct0, iv ct1, rv b167, rv bx173_rb, .unset, .unset, .unset, .unset] [(.int pp0)])) ?_
  intro pp0 hd_pp0
  show own_G p.tables e below _ (T186.setTop (mkF m 266 #[iv p1, iv p2, iv p3, iv (2 : Int32), rv b2, iv x0, iv x1, iv x2, iv x3, rv b143, iv kk0, iv kk1, iv kk2, iv kk3, iv ct0, iv ct1, rv b167, rv bx173_rb, .unset, .unset, .unset, .unset] [(.int pp0)]))
  refine own_step (fun t k => XS.istore X186.here hx rfl (hb hby at_266) rfl (l' := #[iv p1, iv p2, iv p3, iv (2 : Int32), rv b2, iv x0, iv x1, iv x2, iv x3, rv b143, iv kk0, iv kk1, iv kk2, iv kk3, iv ct0, iv ct1, rv b167, rv bx173_rb, iv pp0, .unset, .unset, .unset]) rfl k) ?_
  refine own_step (fun t k => XS.iload X186.here hx rfl (hb hby at_268) rfl k) ?_
  refine own_step (fun t k => XS.iload X186.here hx rfl (hb hby at_270) rfl k) ?_
  refine own_step (fun t k => XS.iload X186.here hx rfl (hb hby at_272) rfl k) ?_
  show own_G p.tables e below _ (T186.setTop (mkF m 274 #[iv p1, iv p2, iv p3, iv (2 : Int32), rv b2, iv x0, iv x1, iv x2, iv x3, rv b143, iv kk0, iv kk1, iv kk2, iv kk3, iv ct0, iv ct1, rv b167, rv bx173_rb, iv pp0, .unset, .unset, .unset] [(.int ct1), (.int ct0), (.int kk1)]))
  refine own_step (fun t k => XS.iloadN X186.here hx rfl (hb hby at_274) rfl k) ?_
  obtain ⟨_, _, ⟨T188, L188, k188, n188⟩, -, X188, ⟨Lc188, hQ188, l188, y188, z188⟩, st188⟩ := Jvm.LawKit.callS X186 hx (y := (⟨"com/example/stevedore/stevedore/MoveGraphGroupedPinLaw", "se", "(IIII)I"⟩ : MethodName)) hown (mvT hZ (hw _ (List.mem_of_getElem? (i := 21) rfl))) (mvT hZ (hw _ (List.mem_of_getElem? (i := 22) rfl))) (mvT hZ (hw _ (List.mem_of_getElem? (i := 3) rfl))) (mvT hZ (hw _ (List.mem_of_getElem? (i := 23) rfl))) (by decide) (backOf (W := 0) (rm4 l Z a0 hw [] kk1 ct0 ct1 (2 : Int32) T173.heap n0 (Nat.le_trans Z0 K173.1) ) hZ (hw _ (List.mem_of_getElem? (i := 23) rfl)) (hw _ (List.mem_of_getElem? (i := 3) rfl)) (by decide) (by decide)) (g := (mkF m 275 #[iv p1, iv p2, iv p3, iv (2 : Int32), rv b2, iv x0, iv x1, iv x2, iv x3, rv b143, iv kk0, iv kk1, iv kk2, iv kk3, iv ct0, iv ct1, rv b167, rv bx173_rb, iv pp0, .unset, .unset, .unset] [(.int (2 : Int32)), (.int ct1), (.int ct0), (.int kk1)])) rfl (by rw [hml]; rfl) (argsL := [(.int kk1), (.int ct0), (.int ct1), (.int (2 : Int32))]) (rest := []) (lenOf pd_0_2 rfl) rfl (by show 2 * 0 + _ ≤ _; exact Nat.le_of_eq rfl) (hb hby at_275) (fun _ _ => ⟨rfl, e186, (by decide : 5 + 0 ≤ _), (by decide : 16 + 0 ≤ _)⟩)
  dsimp only [Pt.U, Pt.locs, Pt.cells, Pt.slots] at X188 l188 y188 z188 st188 hQ188
  subst y188 z188
  obtain ⟨rfl, N188q, e188⟩ := hQ188
  have N188 : Fr n0 L188 := by rw [l188]; exact Fr.app N186 N188q
  refine own_step st188 ?_
  refine own_step (fun t k => XS.iload X188.here hx rfl (hb hby at_278) rfl k) ?_
  refine own_step (fun t k => XS.iload X188.here hx rfl (hb hby at_280) rfl k) ?_
  clear N173 N186 N186q N188q X173 X186 e186 hk181 hk182 hk183 hk184 hk185 st186 st188
  show own_G p.tables e below _ (T188.setTop (mkF m 282 #[iv p1, iv p2, iv p3, iv (2 : Int32), rv b2, iv x0, iv x1, iv x2, iv x3, rv b143, iv kk0, iv kk1, iv kk2, iv kk3, iv ct0, iv ct1, rv b167, rv bx173_rb, iv pp0, .unset, .unset, .unset] [(.int kk1), (.int kk0), (.int (own_f4 kk1 ct0 ct1 (2 : Int32)))]))
  refine own_imp (B := T188.setTop (mkF m 290 #[iv p1, iv p2, iv p3, iv (2 : Int32), rv b2, iv x0, iv x1, iv x2, iv x3, rv b143, iv kk0, iv kk1, iv kk2, iv kk3, iv ct0, iv ct1, rv b167, rv bx173_rb, iv pp0, .unset, .unset, .unset] [(.int (if kk0 = kk1 then (1 : Int32) else (0 : Int32))), (.int (own_f4 kk1 ct0 ct1 (2 : Int32)))])) (fun k0 => ?_) ?_
  · by_cases hc189 : kk0 = kk1
    · simp only [if_pos hc189] at k0
      refine own_step (fun t k => XS.icmpNo X188.here hx rfl (hb hby at_282) rfl ((teq hc189).2) k) ?_
      show own_G p.tables e below _ (T188.setTop (mkF m 285 #[iv p1, iv p2, iv p3, iv (2 : Int32), rv b2, iv x0, iv x1, iv x2, iv x3, rv b143, iv kk0, iv kk1, iv kk2, iv kk3, iv ct0, iv ct1, rv b167, rv bx173_rb, iv pp0, .unset, .unset, .unset] [(.int (own_f4 kk1 ct0 ct1 (2 : Int32)))]))
      refine own_step (fun t k => XS.iconst X188.here hx rfl (hb hby at_285) k) ?_
      refine own_step (fun t k => XS.goto X188.here hx rfl (pc0 := 286) (pc' := 290) rfl (hb hby at_286) (by decide) (by decide) k) ?_
      exact k0
    · simp only [if_neg hc189] at k0
      refine own_step (fun t k => XS.icmpYes X188.here hx rfl (pc0 := 282) (pc' := 289) rfl (hb hby at_282) rfl ((feq hc189).2) (by decide) (by decide) k) ?_
      show own_G p.tables e below _ (T188.setTop (mkF m 289 #[iv p1, iv p2, iv p3, iv (2 : Int32), rv b2, iv x0, iv x1, iv x2, iv x3, rv b143, iv kk0, iv kk1, iv kk2, iv kk3, iv ct0, iv ct1, rv b167, rv bx173_rb, iv pp0, .unset, .unset, .unset] [(.int (own_f4 kk1 ct0 ct1 (2 : Int32)))]))
      refine own_step (fun t k => XS.iconst X188.here hx rfl (hb hby at_289) k) ?_
      exact k0
  show own_G p.tables e below _ (T188.setTop (mkF m 290 #[iv p1, iv p2, iv p3, iv (2 : Int32), rv b2, iv x0, iv x1, iv x2, iv x3, rv b143, iv kk0, iv kk1, iv kk2, iv kk3, iv ct0, iv ct1, rv b167, rv bx173_rb, iv pp0, .unset, .unset, .unset] [(.int (if kk0 = kk1 then (1 : Int32) else (0 : Int32))), (.int (own_f4 kk1 ct0 ct1 (2 : Int32)))]))
  obtain ⟨_, _, ⟨T190, L190, k190, n190⟩, -, X190, ⟨Lc190, hQ190, l190, y190, z190⟩, st190⟩ := Jvm.LawKit.callS X188 hx (y := (⟨"com/example/stevedore/stevedore/MoveGraphGroupedPinLaw", "one", "(Z)I"⟩ : MethodName)) hown (mvT hZ (hw _ (List.mem_of_getElem? (i := 5) rfl))) (mvT hZ (hw _ (List.mem_of_getElem? (i := 6) rfl))) (mvT hZ (hw _ (List.mem_of_getElem? (i := 3) rfl))) (mvT hZ (hw _ (List.mem_of_getElem? (i := 7) rfl))) (by decide) (backOf (W := 1) (rm2 l Z a0 hw [] (if kk0 = kk1 then (1 : Int32) else (0 : Int32)) T173.heap n0 (Nat.le_trans Z0 K173.1) ) hZ (hw _ (List.mem_of_getElem? (i := 7) rfl)) (hw _ (List.mem_of_getElem? (i := 3) rfl)) (by decide) (by decide)) (g := (mkF m 290 #[iv p1, iv p2, iv p3, iv (2 : Int32), rv b2, iv x0, iv x1, iv x2, iv x3, rv b143, iv kk0, iv kk1, iv kk2, iv kk3, iv ct0, iv ct1, rv b167, rv bx173_rb, iv pp0, .unset, .unset, .unset] [(.int (if kk0 = kk1 then (1 : Int32) else (0 : Int32))), (.int (own_f4 kk1 ct0 ct1 (2 : Int32)))])) rfl (by rw [hml]; rfl) (argsL := [(.int (if kk0 = kk1 then (1 : Int32) else (0 : Int32)))]) (rest := [(.int (own_f4 kk1 ct0 ct1 (2 : Int32)))]) (lenOf pd_0_3 rfl) rfl (by show 2 * 0 + _ ≤ _; exact Nat.le_of_eq rfl) (hb hby at_290) (fun _ _ => ⟨rfl, e188, (by decide : 5 + 0 ≤ _), (by decide : 16 + 0 ≤ _)⟩)
  dsimp only [Pt.U, Pt.locs, Pt.cells, Pt.slots] at X190 l190 y190 z190 st190 hQ190
  subst y190 z190
  obtain ⟨rfl, N190q, e190⟩ := hQ190
  have N190 : Fr n0 L190 := by rw [l190]; exact Fr.app N188 N190q
  refine own_step st190 ?_
  refine own_step (fun t k => XS.iadd X190.here hx rfl (hb hby at_293) rfl k) ?_
  refine own_nm (((own_f4 kk1 ct0 ct1 (2 : Int32)) + (own_f2 (if kk0 = kk1 then (1 : Int32) else (0 : Int32)))) : Int32) (fun pp1 => T190.setTop (mkF m 294 #[iv p1, iv p2, iv p3, iv (2 : Int32), rv b2, iv x0, iv x1, iv x2, iv x3, rv b143, iv kk0, iv kk1, iv kk2, iv kk3, iv ct0, iv ct1, rv b167, rv bx173_rb, iv pp0, .unset, .unset, .unset] [(.int pp1)])) ?_
  intro pp1 hd_pp1
  show own_G p.tables e below _ (T190.setTop (mkF m 294 #[iv p1, iv p2, iv p3, iv (2 : Int32), rv b2, iv x0, iv x1, iv x2, iv x3, rv b143, iv kk0, iv kk1, iv kk2, iv kk3, iv ct0, iv ct1, rv b167, rv bx173_rb, iv pp0, .unset, .unset, .unset] [(.int pp1)]))
  refine own_step (fun t k => XS.istore X190.here hx rfl (hb hby at_294) rfl (l' := #[iv p1, iv p2, iv p3, iv (2 : Int32), rv b2, iv x0, iv x1, iv x2, iv x3, rv b143, iv kk0, iv kk1, iv kk2, iv kk3, iv ct0, iv ct1, rv b167, rv bx173_rb, iv pp0, iv pp1, .unset, .unset]) rfl k) ?_
  refine own_step (fun t k => XS.iload X190.here hx rfl (hb hby at_296) rfl k) ?_
  refine own_step (fun t k => XS.iload X190.here hx rfl (hb hby at_298) rfl k) ?_
  refine own_step (fun t k => XS.iload X190.here hx rfl (hb hby at_300) rfl k) ?_
  show own_G p.tables e below _ (T190.setTop (mkF m 302 #[iv p1, iv p2, iv p3, iv (2 : Int32), rv b2, iv x0, iv x1, iv x2, iv x3, rv b143, iv kk0, iv kk1, iv kk2, iv kk3, iv ct0, iv ct1, rv b167, rv bx173_rb, iv pp0, iv pp1, .unset, .unset] [(.int ct1), (.int ct0), (.int kk2)]))
  refine own_step (fun t k => XS.iloadN X190.here hx rfl (hb hby at_302) rfl k) ?_
  obtain ⟨_, _, ⟨T192, L192, k192, n192⟩, -, X192, ⟨Lc192, hQ192, l192, y192, z192⟩, st192⟩ := Jvm.LawKit.callS X190 hx (y := (⟨"com/example/stevedore/stevedore/MoveGraphGroupedPinLaw", "se", "(IIII)I"⟩ : MethodName)) hown (mvT hZ (hw _ (List.mem_of_getElem? (i := 21) rfl))) (mvT hZ (hw _ (List.mem_of_getElem? (i := 22) rfl))) (mvT hZ (hw _ (List.mem_of_getElem? (i := 3) rfl))) (mvT hZ (hw _ (List.mem_of_getElem? (i := 23) rfl))) (by decide) (backOf (W := 0) (rm4 l Z a0 hw [] kk2 ct0 ct1 (2 : Int32) T173.heap n0 (Nat.le_trans Z0 K173.1) ) hZ (hw _ (List.mem_of_getElem? (i := 23) rfl)) (hw _ (List.mem_of_getElem? (i := 3) rfl)) (by decide) (by decide)) (g := (mkF m 303 #[iv p1, iv p2, iv p3, iv (2 : Int32), rv b2, iv x0, iv x1, iv x2, iv x3, rv b143, iv kk0, iv kk1, iv kk2, iv kk3, iv ct0, iv ct1, rv b167, rv bx173_rb, iv pp0, iv pp1, .unset, .unset] [(.int (2 : Int32)), (.int ct1), (.int ct0), (.int kk2)])) rfl (by rw [hml]; rfl) (argsL := [(.int kk2), (.int ct0), (.int ct1), (.int (2 : Int32))]) (rest := []) (lenOf pd_0_2 rfl) rfl (by show 2 * 0 + _ ≤ _; exact Nat.le_of_eq rfl) (hb hby at_303) (fun _ _ => ⟨rfl, e190, (by decide : 5 + 0 ≤ _), (by decide : 16 + 0 ≤ _)⟩)
  dsimp only [Pt.U, Pt.locs, Pt.cells, Pt.slots] at X192 l192 y192 z192 st192 hQ192
  subst y192 z192
  obtain ⟨rfl, N192q, e192⟩ := hQ192
  have N192 : Fr n0 L192 := by rw [l192]; exact Fr.app N190 N192q
  refine own_step st192 ?_
  refine own_step (fun t k => XS.iload X192.here hx rfl (hb hby at_306) rfl k) ?_
  refine own_step (fun t k => XS.iload X192.here hx rfl (hb hby at_308) rfl k) ?_
  clear N188 N190 N190q N192q X188 X190 e188 e190 st190 st192
  show own_G p.tables e below _ (T192.setTop (mkF m 310 #[iv p1, iv p2, iv p3, iv (2 : Int32), rv b2, iv x0, iv x1, iv x2, iv x3, rv b143, iv kk0, iv kk1, iv kk2, iv kk3, iv ct0, iv ct1, rv b167, rv bx173_rb, iv pp0, iv pp1, .unset, .unset] [(.int kk2), (.int kk0), (.int (own_f4 kk2 ct0 ct1 (2 : Int32)))]))
  refine own_imp (B := T192.setTop (mkF m 318 #[iv p1, iv p2, iv p3, iv (2 : Int32), rv b2, iv x0, iv x1, iv x2, iv x3, rv b143, iv kk0, iv kk1, iv kk2, iv kk3, iv ct0, iv ct1, rv b167, rv bx173_rb, iv pp0, iv pp1, .unset, .unset] [(.int (if kk0 = kk2 then (1 : Int32) else (0 : Int32))), (.int (own_f4 kk2 ct0 ct1 (2 : Int32)))])) (fun k0 => ?_) ?_
  · by_cases hc193 : kk0 = kk2
    · simp only [if_pos hc193] at k0
      refine own_step (fun t k => XS.icmpNo X192.here hx rfl (hb hby at_310) rfl ((teq hc193).2) k) ?_
      show own_G p.tables e below _ (T192.setTop (mkF m 313 #[iv p1, iv p2, iv p3, iv (2 : Int32), rv b2, iv x0, iv x1, iv x2, iv x3, rv b143, iv kk0, iv kk1, iv kk2, iv kk3, iv ct0, iv ct1, rv b167, rv bx173_rb, iv pp0, iv pp1, .unset, .unset] [(.int (own_f4 kk2 ct0 ct1 (2 : Int32)))]))
      refine own_step (fun t k => XS.iconst X192.here hx rfl (hb hby at_313) k) ?_
      refine own_step (fun t k => XS.goto X192.here hx rfl (pc0 := 314) (pc' := 318) rfl (hb hby at_314) (by decide) (by decide) k) ?_
      exact k0
    · simp only [if_neg hc193] at k0
      refine own_step (fun t k => XS.icmpYes X192.here hx rfl (pc0 := 310) (pc' := 317) rfl (hb hby at_310) rfl ((feq hc193).2) (by decide) (by decide) k) ?_
      show own_G p.tables e below _ (T192.setTop (mkF m 317 #[iv p1, iv p2, iv p3, iv (2 : Int32), rv b2, iv x0, iv x1, iv x2, iv x3, rv b143, iv kk0, iv kk1, iv kk2, iv kk3, iv ct0, iv ct1, rv b167, rv bx173_rb, iv pp0, iv pp1, .unset, .unset] [(.int (own_f4 kk2 ct0 ct1 (2 : Int32)))]))
      refine own_step (fun t k => XS.iconst X192.here hx rfl (hb hby at_317) k) ?_
      exact k0
  show own_G p.tables e below _ (T192.setTop (mkF m 318 #[iv p1, iv p2, iv p3, iv (2 : Int32), rv b2, iv x0, iv x1, iv x2, iv x3, rv b143, iv kk0, iv kk1, iv kk2, iv kk3, iv ct0, iv ct1, rv b167, rv bx173_rb, iv pp0, iv pp1, .unset, .unset] [(.int (if kk0 = kk2 then (1 : Int32) else (0 : Int32))), (.int (own_f4 kk2 ct0 ct1 (2 : Int32)))]))
  obtain ⟨_, _, ⟨T194, L194, k194, n194⟩, -, X194, ⟨Lc194, hQ194, l194, y194, z194⟩, st194⟩ := Jvm.LawKit.callS X192 hx (y := (⟨"com/example/stevedore/stevedore/MoveGraphGroupedPinLaw", "one", "(Z)I"⟩ : MethodName)) hown (mvT hZ (hw _ (List.mem_of_getElem? (i := 5) rfl))) (mvT hZ (hw _ (List.mem_of_getElem? (i := 6) rfl))) (mvT hZ (hw _ (List.mem_of_getElem? (i := 3) rfl))) (mvT hZ (hw _ (List.mem_of_getElem? (i := 7) rfl))) (by decide) (backOf (W := 1) (rm2 l Z a0 hw [] (if kk0 = kk2 then (1 : Int32) else (0 : Int32)) T173.heap n0 (Nat.le_trans Z0 K173.1) ) hZ (hw _ (List.mem_of_getElem? (i := 7) rfl)) (hw _ (List.mem_of_getElem? (i := 3) rfl)) (by decide) (by decide)) (g := (mkF m 318 #[iv p1, iv p2, iv p3, iv (2 : Int32), rv b2, iv x0, iv x1, iv x2, iv x3, rv b143, iv kk0, iv kk1, iv kk2, iv kk3, iv ct0, iv ct1, rv b167, rv bx173_rb, iv pp0, iv pp1, .unset, .unset] [(.int (if kk0 = kk2 then (1 : Int32) else (0 : Int32))), (.int (own_f4 kk2 ct0 ct1 (2 : Int32)))])) rfl (by rw [hml]; rfl) (argsL := [(.int (if kk0 = kk2 then (1 : Int32) else (0 : Int32)))]) (rest := [(.int (own_f4 kk2 ct0 ct1 (2 : Int32)))]) (lenOf pd_0_3 rfl) rfl (by show 2 * 0 + _ ≤ _; exact Nat.le_of_eq rfl) (hb hby at_318) (fun _ _ => ⟨rfl, e192, (by decide : 5 + 0 ≤ _), (by decide : 16 + 0 ≤ _)⟩)
  dsimp only [Pt.U, Pt.locs, Pt.cells, Pt.slots] at X194 l194 y194 z194 st194 hQ194
  subst y194 z194
  obtain ⟨rfl, N194q, e194⟩ := hQ194
  have N194 : Fr n0 L194 := by rw [l194]; exact Fr.app N192 N194q
  refine own_step st194 ?_
  refine own_step (fun t k => XS.iadd X194.here hx rfl (hb hby at_321) rfl k) ?_
  refine own_step (fun t k => XS.iload X194.here hx rfl (hb hby at_322) rfl k) ?_
  refine own_step (fun t k => XS.iload X194.here hx rfl (hb hby at_324) rfl k) ?_
  show own_G p.tables e below _ (T194.setTop (mkF m 326 #[iv p1, iv p2, iv p3, iv (2 : Int32), rv b2, iv x0, iv x1, iv x2, iv x3, rv b143, iv kk0, iv kk1, iv kk2, iv kk3, iv ct0, iv ct1, rv b167, rv bx173_rb, iv pp0, iv pp1, .unset, .unset] [(.int kk2), (.int kk1), (.int ((own_f4 kk2 ct0 ct1 (2 : Int32)) + (own_f2 (if kk0 = kk2 then (1 : Int32) else (0 : Int32)))))]))
  refine own_imp (B := T194.setTop (mkF m 334 #[iv p1, iv p2, iv p3, iv (2 : Int32), rv b2, iv x0, iv x1, iv x2, iv x3, rv b143, iv kk0, iv kk1, iv kk2, iv kk3, iv ct0, iv ct1, rv b167, rv bx173_rb, iv pp0, iv pp1, .unset, .unset] [(.int (if kk1 = kk2 then (1 : Int32) else (0 : Int32))), (.int ((own_f4 kk2 ct0 ct1 (2 : Int32)) + (own_f2 (if kk0 = kk2 then (1 : Int32) else (0 : Int32)))))])) (fun k0 => ?_) ?_
  · by_cases hc195 : kk1 = kk2
    · simp only [if_pos hc195] at k0
      refine own_step (fun t k => XS.icmpNo X194.here hx rfl (hb hby at_326) rfl ((teq hc195).2) k) ?_
      show own_G p.tables e below _ (T194.setTop (mkF m 329 #[iv p1, iv p2, iv p3, iv (2 : Int32), rv b2, iv x0, iv x1, iv x2, iv x3, rv b143, iv kk0, iv kk1, iv kk2, iv kk3, iv ct0, iv ct1, rv b167, rv bx173_rb, iv pp0, iv pp1, .unset, .unset] [(.int ((own_f4 kk2 ct0 ct1 (2 : Int32)) + (own_f2 (if kk0 = kk2 then (1 : Int32) else (0 : Int32)))))]))
      refine own_step (fun t k => XS.iconst X194.here hx rfl (hb hby at_329) k) ?_
      refine own_step (fun t k => XS.goto X194.here hx rfl (pc0 := 330) (pc' := 334) rfl (hb hby at_330) (by decide) (by decide) k) ?_
      exact k0
    · simp only [if_neg hc195] at k0
      refine own_step (fun t k => XS.icmpYes X194.here hx rfl (pc0 := 326) (pc' := 333) rfl (hb hby at_326) rfl ((feq hc195).2) (by decide) (by decide) k) ?_
      show own_G p.tables e below _ (T194.setTop (mkF m 333 #[iv p1, iv p2, iv p3, iv (2 : Int32), rv b2, iv x0, iv x1, iv x2, iv x3, rv b143, iv kk0, iv kk1, iv kk2, iv kk3, iv ct0, iv ct1, rv b167, rv bx173_rb, iv pp0, iv pp1, .unset, .unset] [(.int ((own_f4 kk2 ct0 ct1 (2 : Int32)) + (own_f2 (if kk0 = kk2 then (1 : Int32) else (0 : Int32)))))]))
      refine own_step (fun t k => XS.iconst X194.here hx rfl (hb hby at_333) k) ?_
      exact k0
  show own_G p.tables e below _ (T194.setTop (mkF m 334 #[iv p1, iv p2, iv p3, iv (2 : Int32), rv b2, iv x0, iv x1, iv x2, iv x3, rv b143, iv kk0, iv kk1, iv kk2, iv kk3, iv ct0, iv ct1, rv b167, rv bx173_rb, iv pp0, iv pp1, .unset, .unset] [(.int (if kk1 = kk2 then (1 : Int32) else (0 : Int32))), (.int ((own_f4 kk2 ct0 ct1 (2 : Int32)) + (own_f2 (if kk0 = kk2 then (1 : Int32) else (0 : Int32)))))]))
  obtain ⟨_, _, ⟨T196, L196, k196, n196⟩, -, X196, ⟨Lc196, hQ196, l196, y196, z196⟩, st196⟩ := Jvm.LawKit.callS X194 hx (y := (⟨"com/example/stevedore/stevedore/MoveGraphGroupedPinLaw", "one", "(Z)I"⟩ : MethodName)) hown (mvT hZ (hw _ (List.mem_of_getElem? (i := 5) rfl))) (mvT hZ (hw _ (List.mem_of_getElem? (i := 6) rfl))) (mvT hZ (hw _ (List.mem_of_getElem? (i := 3) rfl))) (mvT hZ (hw _ (List.mem_of_getElem? (i := 7) rfl))) (by decide) (backOf (W := 1) (rm2 l Z a0 hw [] (if kk1 = kk2 then (1 : Int32) else (0 : Int32)) T173.heap n0 (Nat.le_trans Z0 K173.1) ) hZ (hw _ (List.mem_of_getElem? (i := 7) rfl)) (hw _ (List.mem_of_getElem? (i := 3) rfl)) (by decide) (by decide)) (g := (mkF m 334 #[iv p1, iv p2, iv p3, iv (2 : Int32), rv b2, iv x0, iv x1, iv x2, iv x3, rv b143, iv kk0, iv kk1, iv kk2, iv kk3, iv ct0, iv ct1, rv b167, rv bx173_rb, iv pp0, iv pp1, .unset, .unset] [(.int (if kk1 = kk2 then (1 : Int32) else (0 : Int32))), (.int ((own_f4 kk2 ct0 ct1 (2 : Int32)) + (own_f2 (if kk0 = kk2 then (1 : Int32) else (0 : Int32)))))])) rfl (by rw [hml]; rfl) (argsL := [(.int (if kk1 = kk2 then (1 : Int32) else (0 : Int32)))]) (rest := [(.int ((own_f4 kk2 ct0 ct1 (2 : Int32)) + (own_f2 (if kk0 = kk2 then (1 : Int32) else (0 : Int32)))))]) (lenOf pd_0_3 rfl) rfl (by show 2 * 0 + _ ≤ _; exact Nat.le_of_eq rfl) (hb hby at_334) (fun _ _ => ⟨rfl, e194, (by decide : 5 + 0 ≤ _), (by decide : 16 + 0 ≤ _)⟩)
  dsimp only [Pt.U, Pt.locs, Pt.cells, Pt.slots] at X196 l196 y196 z196 st196 hQ196
  subst y196 z196
  obtain ⟨rfl, N196q, e196⟩ := hQ196
  have N196 : Fr n0 L196 := by rw [l196]; exact Fr.app N194 N196q
  refine own_step st196 ?_
  refine own_step (fun t k => XS.iadd X196.here hx rfl (hb hby at_337) rfl k) ?_
  refine own_nm ((((own_f4 kk2 ct0 ct1 (2 : Int32)) + (own_f2 (if kk0 = kk2 then (1 : Int32) else (0 : Int32)))) + (own_f2 (if kk1 = kk2 then (1 : Int32) else (0 : Int32)))) : Int32) (fun pp2 => T196.setTop (mkF m 338 #[iv p1, iv p2, iv p3, iv (2 : Int32), rv b2, iv x0, iv x1, iv x2, iv x3, rv b143, iv kk0, iv kk1, iv kk2, iv kk3, iv ct0, iv ct1, rv b167, rv bx173_rb, iv pp0, iv pp1, .unset, .unset] [(.int pp2)])) ?_
  intro pp2 hd_pp2
  clear N192 N194 N194q N196q X192 X194 e192 e194 st194 st196
  show own_G p.tables e below _ (T196.setTop (mkF m 338 #[iv p1, iv p2, iv p3, iv (2 : Int32), rv b2, iv x0, iv x1, iv x2, iv x3, rv b143, iv kk0, iv kk1, iv kk2, iv kk3, iv ct0, iv ct1, rv b167, rv bx173_rb, iv pp0, iv pp1, .unset, .unset] [(.int pp2)]))
  refine own_step (fun t k => XS.istore X196.here hx rfl (hb hby at_338) rfl (l' := #[iv p1, iv p2, iv p3, iv (2 : Int32), rv b2, iv x0, iv x1, iv x2, iv x3, rv b143, iv kk0, iv kk1, iv kk2, iv kk3, iv ct0, iv ct1, rv b167, rv bx173_rb, iv pp0, iv pp1, iv pp2, .unset]) rfl k) ?_
  refine own_step (fun t k => XS.iload X196.here hx rfl (hb hby at_340) rfl k) ?_
  refine own_step (fun t k => XS.iload X196.here hx rfl (hb hby at_342) rfl k) ?_
  refine own_step (fun t k => XS.iload X196.here hx rfl (hb hby at_344) rfl k) ?_
  show own_G p.tables e below _ (T196.setTop (mkF m 346 #[iv p1, iv p2, iv p3, iv (2 : Int32), rv b2, iv x0, iv x1, iv x2, iv x3, rv b143, iv kk0, iv kk1, iv kk2, iv kk3, iv ct0, iv ct1, rv b167, rv bx173_rb, iv pp0, iv pp1, iv pp2, .unset] [(.int ct1), (.int ct0), (.int kk3)]))
  refine own_step (fun t k => XS.iloadN X196.here hx rfl (hb hby at_346) rfl k) ?_
  obtain ⟨_, _, ⟨T198, L198, k198, n198⟩, -, X198, ⟨Lc198, hQ198, l198, y198, z198⟩, st198⟩ := Jvm.LawKit.callS X196 hx (y := (⟨"com/example/stevedore/stevedore/MoveGraphGroupedPinLaw", "se", "(IIII)I"⟩ : MethodName)) hown (mvT hZ (hw _ (List.mem_of_getElem? (i := 21) rfl))) (mvT hZ (hw _ (List.mem_of_getElem? (i := 22) rfl))) (mvT hZ (hw _ (List.mem_of_getElem? (i := 3) rfl))) (mvT hZ (hw _ (List.mem_of_getElem? (i := 23) rfl))) (by decide) (backOf (W := 0) (rm4 l Z a0 hw [] kk3 ct0 ct1 (2 : Int32) T173.heap n0 (Nat.le_trans Z0 K173.1) ) hZ (hw _ (List.mem_of_getElem? (i := 23) rfl)) (hw _ (List.mem_of_getElem? (i := 3) rfl)) (by decide) (by decide)) (g := (mkF m 347 #[iv p1, iv p2, iv p3, iv (2 : Int32), rv b2, iv x0, iv x1, iv x2, iv x3, rv b143, iv kk0, iv kk1, iv kk2, iv kk3, iv ct0, iv ct1, rv b167, rv bx173_rb, iv pp0, iv pp1, iv pp2, .unset] [(.int (2 : Int32)), (.int ct1), (.int ct0), (.int kk3)])) rfl (by rw [hml]; rfl) (argsL := [(.int kk3), (.int ct0), (.int ct1), (.int (2 : Int32))]) (rest := []) (lenOf pd_0_2 rfl) rfl (by show 2 * 0 + _ ≤ _; exact Nat.le_of_eq rfl) (hb hby at_347) (fun _ _ => ⟨rfl, e196, (by decide : 5 + 0 ≤ _), (by decide : 16 + 0 ≤ _)⟩)
  dsimp only [Pt.U, Pt.locs, Pt.cells, Pt.slots] at X198 l198 y198 z198 st198 hQ198
  subst y198 z198
  obtain ⟨rfl, N198q, e198⟩ := hQ198
  have N198 : Fr n0 L198 := by rw [l198]; exact Fr.app N196 N198q
  refine own_step st198 ?_
  refine own_step (fun t k => XS.iload X198.here hx rfl (hb hby at_350) rfl k) ?_
  refine own_step (fun t k => XS.iload X198.here hx rfl (hb hby at_352) rfl k) ?_
  show own_G p.tables e below _ (T198.setTop (mkF m 354 #[iv p1, iv p2, iv p3, iv (2 : Int32), rv b2, iv x0, iv x1, iv x2, iv x3, rv b143, iv kk0, iv kk1, iv kk2, iv kk3, iv ct0, iv ct1, rv b167, rv bx173_rb, iv pp0, iv pp1, iv pp2, .unset] [(.int kk3), (.int kk0), (.int (own_f4 kk3 ct0 ct1 (2 : Int32)))]))
  refine own_imp (B := T198.setTop (mkF m 362 #[iv p1, iv p2, iv p3, iv (2 : Int32), rv b2, iv x0, iv x1, iv x2, iv x3, rv b143, iv kk0, iv kk1, iv kk2, iv kk3, iv ct0, iv ct1, rv b167, rv bx173_rb, iv pp0, iv pp1, iv pp2, .unset] [(.int (if kk0 = kk3 then (1 : Int32) else (0 : Int32))), (.int (own_f4 kk3 ct0 ct1 (2 : Int32)))])) (fun k0 => ?_) ?_
  · by_cases hc199 : kk0 = kk3
    · simp only [if_pos hc199] at k0
      refine own_step (fun t k => XS.icmpNo X198.here hx rfl (hb hby at_354) rfl ((teq hc199).2) k) ?_
      show own_G p.tables e below _ (T198.setTop (mkF m 357 #[iv p1, iv p2, iv p3, iv (2 : Int32), rv b2, iv x0, iv x1, iv x2, iv x3, rv b143, iv kk0, iv kk1, iv kk2, iv kk3, iv ct0, iv ct1, rv b167, rv bx173_rb, iv pp0, iv pp1, iv pp2, .unset] [(.int (own_f4 kk3 ct0 ct1 (2 : Int32)))]))
      refine own_step (fun t k => XS.iconst X198.here hx rfl (hb hby at_357) k) ?_
      refine own_step (fun t k => XS.goto X198.here hx rfl (pc0 := 358) (pc' := 362) rfl (hb hby at_358) (by decide) (by decide) k) ?_
      exact k0
    · simp only [if_neg hc199] at k0
      refine own_step (fun t k => XS.icmpYes X198.here hx rfl (pc0 := 354) (pc' := 361) rfl (hb hby at_354) rfl ((feq hc199).2) (by decide) (by decide) k) ?_
      show own_G p.tables e below _ (T198.setTop (mkF m 361 #[iv p1, iv p2, iv p3, iv (2 : Int32), rv b2, iv x0, iv x1, iv x2, iv x3, rv b143, iv kk0, iv kk1, iv kk2, iv kk3, iv ct0, iv ct1, rv b167, rv bx173_rb, iv pp0, iv pp1, iv pp2, .unset] [(.int (own_f4 kk3 ct0 ct1 (2 : Int32)))]))
      refine own_step (fun t k => XS.iconst X198.here hx rfl (hb hby at_361) k) ?_
      exact k0
  show own_G p.tables e below _ (T198.setTop (mkF m 362 #[iv p1, iv p2, iv p3, iv (2 : Int32), rv b2, iv x0, iv x1, iv x2, iv x3, rv b143, iv kk0, iv kk1, iv kk2, iv kk3, iv ct0, iv ct1, rv b167, rv bx173_rb, iv pp0, iv pp1, iv pp2, .unset] [(.int (if kk0 = kk3 then (1 : Int32) else (0 : Int32))), (.int (own_f4 kk3 ct0 ct1 (2 : Int32)))]))
  obtain ⟨_, _, ⟨T200, L200, k200, n200⟩, -, X200, ⟨Lc200, hQ200, l200, y200, z200⟩, st200⟩ := Jvm.LawKit.callS X198 hx (y := (⟨"com/example/stevedore/stevedore/MoveGraphGroupedPinLaw", "one", "(Z)I"⟩ : MethodName)) hown (mvT hZ (hw _ (List.mem_of_getElem? (i := 5) rfl))) (mvT hZ (hw _ (List.mem_of_getElem? (i := 6) rfl))) (mvT hZ (hw _ (List.mem_of_getElem? (i := 3) rfl))) (mvT hZ (hw _ (List.mem_of_getElem? (i := 7) rfl))) (by decide) (backOf (W := 1) (rm2 l Z a0 hw [] (if kk0 = kk3 then (1 : Int32) else (0 : Int32)) T173.heap n0 (Nat.le_trans Z0 K173.1) ) hZ (hw _ (List.mem_of_getElem? (i := 7) rfl)) (hw _ (List.mem_of_getElem? (i := 3) rfl)) (by decide) (by decide)) (g := (mkF m 362 #[iv p1, iv p2, iv p3, iv (2 : Int32), rv b2, iv x0, iv x1, iv x2, iv x3, rv b143, iv kk0, iv kk1, iv kk2, iv kk3, iv ct0, iv ct1, rv b167, rv bx173_rb, iv pp0, iv pp1, iv pp2, .unset] [(.int (if kk0 = kk3 then (1 : Int32) else (0 : Int32))), (.int (own_f4 kk3 ct0 ct1 (2 : Int32)))])) rfl (by rw [hml]; rfl) (argsL := [(.int (if kk0 = kk3 then (1 : Int32) else (0 : Int32)))]) (rest := [(.int (own_f4 kk3 ct0 ct1 (2 : Int32)))]) (lenOf pd_0_3 rfl) rfl (by show 2 * 0 + _ ≤ _; exact Nat.le_of_eq rfl) (hb hby at_362) (fun _ _ => ⟨rfl, e198, (by decide : 5 + 0 ≤ _), (by decide : 16 + 0 ≤ _)⟩)
  dsimp only [Pt.U, Pt.locs, Pt.cells, Pt.slots] at X200 l200 y200 z200 st200 hQ200
  subst y200 z200
  obtain ⟨rfl, N200q, e200⟩ := hQ200
  have N200 : Fr n0 L200 := by rw [l200]; exact Fr.app N198 N200q
  refine own_step st200 ?_
  refine own_step (fun t k => XS.iadd X200.here hx rfl (hb hby at_365) rfl k) ?_
  refine own_step (fun t k => XS.iload X200.here hx rfl (hb hby at_366) rfl k) ?_
  refine own_step (fun t k => XS.iload X200.here hx rfl (hb hby at_368) rfl k) ?_
  clear N196 N198 N198q N200q X196 X198 e196 e198 st198 st200
  show own_G p.tables e below _ (T200.setTop (mkF m 370 #[iv p1, iv p2, iv p3, iv (2 : Int32), rv b2, iv x0, iv x1, iv x2, iv x3, rv b143, iv kk0, iv kk1, iv kk2, iv kk3, iv ct0, iv ct1, rv b167, rv bx173_rb, iv pp0, iv pp1, iv pp2, .unset] [(.int kk3), (.int kk1), (.int ((own_f4 kk3 ct0 ct1 (2 : Int32)) + (own_f2 (if kk0 = kk3 then (1 : Int32) else (0 : Int32)))))]))
  refine own_imp (B := T200.setTop (mkF m 378 #[iv p1, iv p2, iv p3, iv (2 : Int32), rv b2, iv x0, iv x1, iv x2, iv x3, rv b143, iv kk0, iv kk1, iv kk2, iv kk3, iv ct0, iv ct1, rv b167, rv bx173_rb, iv pp0, iv pp1, iv pp2, .unset] [(.int (if kk1 = kk3 then (1 : Int32) else (0 : Int32))), (.int ((own_f4 kk3 ct0 ct1 (2 : Int32)) + (own_f2 (if kk0 = kk3 then (1 : Int32) else (0 : Int32)))))])) (fun k0 => ?_) ?_
  · by_cases hc201 : kk1 = kk3
    · simp only [if_pos hc201] at k0
      refine own_step (fun t k => XS.icmpNo X200.here hx rfl (hb hby at_370) rfl ((teq hc201).2) k) ?_
      show own_G p.tables e below _ (T200.setTop (mkF m 373 #[iv p1, iv p2, iv p3, iv (2 : Int32), rv b2, iv x0, iv x1, iv x2, iv x3, rv b143, iv kk0, iv kk1, iv kk2, iv kk3, iv ct0, iv ct1, rv b167, rv bx173_rb, iv pp0, iv pp1, iv pp2, .unset] [(.int ((own_f4 kk3 ct0 ct1 (2 : Int32)) + (own_f2 (if kk0 = kk3 then (1 : Int32) else (0 : Int32)))))]))
      refine own_step (fun t k => XS.iconst X200.here hx rfl (hb hby at_373) k) ?_
      refine own_step (fun t k => XS.goto X200.here hx rfl (pc0 := 374) (pc' := 378) rfl (hb hby at_374) (by decide) (by decide) k) ?_
      exact k0
    · simp only [if_neg hc201] at k0
      refine own_step (fun t k => XS.icmpYes X200.here hx rfl (pc0 := 370) (pc' := 377) rfl (hb hby at_370) rfl ((feq hc201).2) (by decide) (by decide) k) ?_
      show own_G p.tables e below _ (T200.setTop (mkF m 377 #[iv p1, iv p2, iv p3, iv (2 : Int32), rv b2, iv x0, iv x1, iv x2, iv x3, rv b143, iv kk0, iv kk1, iv kk2, iv kk3, iv ct0, iv ct1, rv b167, rv bx173_rb, iv pp0, iv pp1, iv pp2, .unset] [(.int ((own_f4 kk3 ct0 ct1 (2 : Int32)) + (own_f2 (if kk0 = kk3 then (1 : Int32) else (0 : Int32)))))]))
      refine own_step (fun t k => XS.iconst X200.here hx rfl (hb hby at_377) k) ?_
      exact k0
  show own_G p.tables e below _ (T200.setTop (mkF m 378 #[iv p1, iv p2, iv p3, iv (2 : Int32), rv b2, iv x0, iv x1, iv x2, iv x3, rv b143, iv kk0, iv kk1, iv kk2, iv kk3, iv ct0, iv ct1, rv b167, rv bx173_rb, iv pp0, iv pp1, iv pp2, .unset] [(.int (if kk1 = kk3 then (1 : Int32) else (0 : Int32))), (.int ((own_f4 kk3 ct0 ct1 (2 : Int32)) + (own_f2 (if kk0 = kk3 then (1 : Int32) else (0 : Int32)))))]))
  obtain ⟨_, _, ⟨T202, L202, k202, n202⟩, -, X202, ⟨Lc202, hQ202, l202, y202, z202⟩, st202⟩ := Jvm.LawKit.callS X200 hx (y := (⟨"com/example/stevedore/stevedore/MoveGraphGroupedPinLaw", "one", "(Z)I"⟩ : MethodName)) hown (mvT hZ (hw _ (List.mem_of_getElem? (i := 5) rfl))) (mvT hZ (hw _ (List.mem_of_getElem? (i := 6) rfl))) (mvT hZ (hw _ (List.mem_of_getElem? (i := 3) rfl))) (mvT hZ (hw _ (List.mem_of_getElem? (i := 7) rfl))) (by decide) (backOf (W := 1) (rm2 l Z a0 hw [] (if kk1 = kk3 then (1 : Int32) else (0 : Int32)) T173.heap n0 (Nat.le_trans Z0 K173.1) ) hZ (hw _ (List.mem_of_getElem? (i := 7) rfl)) (hw _ (List.mem_of_getElem? (i := 3) rfl)) (by decide) (by decide)) (g := (mkF m 378 #[iv p1, iv p2, iv p3, iv (2 : Int32), rv b2, iv x0, iv x1, iv x2, iv x3, rv b143, iv kk0, iv kk1, iv kk2, iv kk3, iv ct0, iv ct1, rv b167, rv bx173_rb, iv pp0, iv pp1, iv pp2, .unset] [(.int (if kk1 = kk3 then (1 : Int32) else (0 : Int32))), (.int ((own_f4 kk3 ct0 ct1 (2 : Int32)) + (own_f2 (if kk0 = kk3 then (1 : Int32) else (0 : Int32)))))])) rfl (by rw [hml]; rfl) (argsL := [(.int (if kk1 = kk3 then (1 : Int32) else (0 : Int32)))]) (rest := [(.int ((own_f4 kk3 ct0 ct1 (2 : Int32)) + (own_f2 (if kk0 = kk3 then (1 : Int32) else (0 : Int32)))))]) (lenOf pd_0_3 rfl) rfl (by show 2 * 0 + _ ≤ _; exact Nat.le_of_eq rfl) (hb hby at_378) (fun _ _ => ⟨rfl, e200, (by decide : 5 + 0 ≤ _), (by decide : 16 + 0 ≤ _)⟩)
  dsimp only [Pt.U, Pt.locs, Pt.cells, Pt.slots] at X202 l202 y202 z202 st202 hQ202
  subst y202 z202
  obtain ⟨rfl, N202q, e202⟩ := hQ202
  have N202 : Fr n0 L202 := by rw [l202]; exact Fr.app N200 N202q
  refine own_step st202 ?_
  refine own_step (fun t k => XS.iadd X202.here hx rfl (hb hby at_381) rfl k) ?_
  refine own_step (fun t k => XS.iload X202.here hx rfl (hb hby at_382) rfl k) ?_
  refine own_step (fun t k => XS.iload X202.here hx rfl (hb hby at_384) rfl k) ?_
  show own_G p.tables e below _ (T202.setTop (mkF m 386 #[iv p1, iv p2, iv p3, iv (2 : Int32), rv b2, iv x0, iv x1, iv x2, iv x3, rv b143, iv kk0, iv kk1, iv kk2, iv kk3, iv ct0, iv ct1, rv b167, rv bx173_rb, iv pp0, iv pp1, iv pp2, .unset] [(.int kk3), (.int kk2), (.int (((own_f4 kk3 ct0 ct1 (2 : Int32)) + (own_f2 (if kk0 = kk3 then (1 : Int32) else (0 : Int32)))) + (own_f2 (if kk1 = kk3 then (1 : Int32) else (0 : Int32)))))]))
  refine own_imp (B := T202.setTop (mkF m 394 #[iv p1, iv p2, iv p3, iv (2 : Int32), rv b2, iv x0, iv x1, iv x2, iv x3, rv b143, iv kk0, iv kk1, iv kk2, iv kk3, iv ct0, iv ct1, rv b167, rv bx173_rb, iv pp0, iv pp1, iv pp2, .unset] [(.int (if kk2 = kk3 then (1 : Int32) else (0 : Int32))), (.int (((own_f4 kk3 ct0 ct1 (2 : Int32)) + (own_f2 (if kk0 = kk3 then (1 : Int32) else (0 : Int32)))) + (own_f2 (if kk1 = kk3 then (1 : Int32) else (0 : Int32)))))])) (fun k0 => ?_) ?_
  · by_cases hc203 : kk2 = kk3
    · simp only [if_pos hc203] at k0
      refine own_step (fun t k => XS.icmpNo X202.here hx rfl (hb hby at_386) rfl ((teq hc203).2) k) ?_
      show own_G p.tables e below _ (T202.setTop (mkF m 389 #[iv p1, iv p2, iv p3, iv (2 : Int32), rv b2, iv x0, iv x1, iv x2, iv x3, rv b143, iv kk0, iv kk1, iv kk2, iv kk3, iv ct0, iv ct1, rv b167, rv bx173_rb, iv pp0, iv pp1, iv pp2, .unset] [(.int (((own_f4 kk3 ct0 ct1 (2 : Int32)) + (own_f2 (if kk0 = kk3 then (1 : Int32) else (0 : Int32)))) + (own_f2 (if kk1 = kk3 then (1 : Int32) else (0 : Int32)))))]))
      refine own_step (fun t k => XS.iconst X202.here hx rfl (hb hby at_389) k) ?_
      refine own_step (fun t k => XS.goto X202.here hx rfl (pc0 := 390) (pc' := 394) rfl (hb hby at_390) (by decide) (by decide) k) ?_
      exact k0
    · simp only [if_neg hc203] at k0
      refine own_step (fun t k => XS.icmpYes X202.here hx rfl (pc0 := 386) (pc' := 393) rfl (hb hby at_386) rfl ((feq hc203).2) (by decide) (by decide) k) ?_
      show own_G p.tables e below _ (T202.setTop (mkF m 393 #[iv p1, iv p2, iv p3, iv (2 : Int32), rv b2, iv x0, iv x1, iv x2, iv x3, rv b143, iv kk0, iv kk1, iv kk2, iv kk3, iv ct0, iv ct1, rv b167, rv bx173_rb, iv pp0, iv pp1, iv pp2, .unset] [(.int (((own_f4 kk3 ct0 ct1 (2 : Int32)) + (own_f2 (if kk0 = kk3 then (1 : Int32) else (0 : Int32)))) + (own_f2 (if kk1 = kk3 then (1 : Int32) else (0 : Int32)))))]))
      refine own_step (fun t k => XS.iconst X202.here hx rfl (hb hby at_393) k) ?_
      exact k0
  show own_G p.tables e below _ (T202.setTop (mkF m 394 #[iv p1, iv p2, iv p3, iv (2 : Int32), rv b2, iv x0, iv x1, iv x2, iv x3, rv b143, iv kk0, iv kk1, iv kk2, iv kk3, iv ct0, iv ct1, rv b167, rv bx173_rb, iv pp0, iv pp1, iv pp2, .unset] [(.int (if kk2 = kk3 then (1 : Int32) else (0 : Int32))), (.int (((own_f4 kk3 ct0 ct1 (2 : Int32)) + (own_f2 (if kk0 = kk3 then (1 : Int32) else (0 : Int32)))) + (own_f2 (if kk1 = kk3 then (1 : Int32) else (0 : Int32)))))]))
  obtain ⟨_, _, ⟨T204, L204, k204, n204⟩, -, X204, ⟨Lc204, hQ204, l204, y204, z204⟩, st204⟩ := Jvm.LawKit.callS X202 hx (y := (⟨"com/example/stevedore/stevedore/MoveGraphGroupedPinLaw", "one", "(Z)I"⟩ : MethodName)) hown (mvT hZ (hw _ (List.mem_of_getElem? (i := 5) rfl))) (mvT hZ (hw _ (List.mem_of_getElem? (i := 6) rfl))) (mvT hZ (hw _ (List.mem_of_getElem? (i := 3) rfl))) (mvT hZ (hw _ (List.mem_of_getElem? (i := 7) rfl))) (by decide) (backOf (W := 1) (rm2 l Z a0 hw [] (if kk2 = kk3 then (1 : Int32) else (0 : Int32)) T173.heap n0 (Nat.le_trans Z0 K173.1) ) hZ (hw _ (List.mem_of_getElem? (i := 7) rfl)) (hw _ (List.mem_of_getElem? (i := 3) rfl)) (by decide) (by decide)) (g := (mkF m 394 #[iv p1, iv p2, iv p3, iv (2 : Int32), rv b2, iv x0, iv x1, iv x2, iv x3, rv b143, iv kk0, iv kk1, iv kk2, iv kk3, iv ct0, iv ct1, rv b167, rv bx173_rb, iv pp0, iv pp1, iv pp2, .unset] [(.int (if kk2 = kk3 then (1 : Int32) else (0 : Int32))), (.int (((own_f4 kk3 ct0 ct1 (2 : Int32)) + (own_f2 (if kk0 = kk3 then (1 : Int32) else (0 : Int32)))) + (own_f2 (if kk1 = kk3 then (1 : Int32) else (0 : Int32)))))])) rfl (by rw [hml]; rfl) (argsL := [(.int (if kk2 = kk3 then (1 : Int32) else (0 : Int32)))]) (rest := [(.int (((own_f4 kk3 ct0 ct1 (2 : Int32)) + (own_f2 (if kk0 = kk3 then (1 : Int32) else (0 : Int32)))) + (own_f2 (if kk1 = kk3 then (1 : Int32) else (0 : Int32)))))]) (lenOf pd_0_3 rfl) rfl (by show 2 * 0 + _ ≤ _; exact Nat.le_of_eq rfl) (hb hby at_394) (fun _ _ => ⟨rfl, e202, (by decide : 5 + 0 ≤ _), (by decide : 16 + 0 ≤ _)⟩)
  dsimp only [Pt.U, Pt.locs, Pt.cells, Pt.slots] at X204 l204 y204 z204 st204 hQ204
  subst y204 z204
  obtain ⟨rfl, N204q, e204⟩ := hQ204
  have N204 : Fr n0 L204 := by rw [l204]; exact Fr.app N202 N204q
  refine own_step st204 ?_
  refine own_step (fun t k => XS.iadd X204.here hx rfl (hb hby at_397) rfl k) ?_
  refine own_nm (((((own_f4 kk3 ct0 ct1 (2 : Int32)) + (own_f2 (if kk0 = kk3 then (1 : Int32) else (0 : Int32)))) + (own_f2 (if kk1 = kk3 then (1 : Int32) else (0 : Int32)))) + (own_f2 (if kk2 = kk3 then (1 : Int32) else (0 : Int32)))) : Int32) (fun pp3 => T204.setTop (mkF m 398 #[iv p1, iv p2, iv p3, iv (2 : Int32), rv b2, iv x0, iv x1, iv x2, iv x3, rv b143, iv kk0, iv kk1, iv kk2, iv kk3, iv ct0, iv ct1, rv b167, rv bx173_rb, iv pp0, iv pp1, iv pp2, .unset] [(.int pp3)])) ?_
  intro pp3 hd_pp3
  clear N200 N202 N202q N204q X200 X202 e200 e202 st202 st204
  show own_G p.tables e below _ (T204.setTop (mkF m 398 #[iv p1, iv p2, iv p3, iv (2 : Int32), rv b2, iv x0, iv x1, iv x2, iv x3, rv b143, iv kk0, iv kk1, iv kk2, iv kk3, iv ct0, iv ct1, rv b167, rv bx173_rb, iv pp0, iv pp1, iv pp2, .unset] [(.int pp3)]))
  refine own_step (fun t k => XS.istore X204.here hx rfl (hb hby at_398) rfl (l' := #[iv p1, iv p2, iv p3, iv (2 : Int32), rv b2, iv x0, iv x1, iv x2, iv x3, rv b143, iv kk0, iv kk1, iv kk2, iv kk3, iv ct0, iv ct1, rv b167, rv bx173_rb, iv pp0, iv pp1, iv pp2, iv pp3]) rfl k) ?_
  refine own_step (fun t k => XS.iloadN X204.here hx rfl (hb hby at_400) rfl k) ?_
  have hk206 : (0 : Int32) < (2 : Int32) := (by decide)
  refine own_step (fun t k => XS.ifNo X204.here hx rfl (hb hby at_401) rfl ((if0 _ _).trans (tlt hk206).2.2.2) k) ?_
  show own_G p.tables e below _ (T204.setTop (mkF m 404 #[iv p1, iv p2, iv p3, iv (2 : Int32), rv b2, iv x0, iv x1, iv x2, iv x3, rv b143, iv kk0, iv kk1, iv kk2, iv kk3, iv ct0, iv ct1, rv b167, rv bx173_rb, iv pp0, iv pp1, iv pp2, iv pp3] []))
  refine own_step (fun t k => XS.aload X204.here hx rfl (hb hby at_404) rfl rfl k) ?_
  refine own_step (fun t k => XS.iload X204.here hx rfl (hb hby at_406) rfl k) ?_
  refine own_step (own_iaload X204 hx hZ e204 w173_1 (own_setL (by simp only [List.length_set]; rfl) (own_pb2_0 (kk0 := kk0) (kk1 := kk1) (kk2 := kk2) (kk3 := kk3) h30 h31 hd_ct0 hd_ct1 hd_pp0)) (g := (mkF m 408 #[iv p1, iv p2, iv p3, iv (2 : Int32), rv b2, iv x0, iv x1, iv x2, iv x3, rv b143, iv kk0, iv kk1, iv kk2, iv kk3, iv ct0, iv ct1, rv b167, rv bx173_rb, iv pp0, iv pp1, iv pp2, iv pp3] [(.int pp0), (.ref bx173_rb)])) rfl rfl (hb hby at_408)) ?_
  refine own_step (fun t k => XS.iload X204.here hx rfl (hb hby at_409) rfl k) ?_
  show own_G p.tables e below _ (T204.setTop (mkF m 411 #[iv p1, iv p2, iv p3, iv (2 : Int32), rv b2, iv x0, iv x1, iv x2, iv x3, rv b143, iv kk0, iv kk1, iv kk2, iv kk3, iv ct0, iv ct1, rv b167, rv bx173_rb, iv pp0, iv pp1, iv pp2, iv pp3] [(.int x0), (.int ((([(0 : Int32), (0 : Int32)].set ((own_s2 kk0 kk1).getD kk0.toNatClampNeg 0).toNatClampNeg x0).set ((own_inc (own_s2 kk0 kk1) kk0).getD kk1.toNatClampNeg 0).toNatClampNeg x1).getD pp0.toNatClampNeg 0))]))
  have hk207 : ((([(0 : Int32), (0 : Int32)].set ((own_s2 kk0 kk1).getD kk0.toNatClampNeg 0).toNatClampNeg x0).set ((own_inc (own_s2 kk0 kk1) kk0).getD kk1.toNatClampNeg 0).toNatClampNeg x1).getD pp0.toNatClampNeg 0) = x0 := own_g2_0 (kk0 := kk0) (kk1 := kk1) (kk2 := kk2) (kk3 := kk3) (x0 := x0) (x1 := x1) (x2 := x2) (x3 := x3) h30 h31 hd_ct0 hd_ct1 hd_pp0
  refine own_step (fun t k => XS.icmpYes X204.here hx rfl (pc0 := 411) (pc' := 416) rfl (hb hby at_411) rfl ((teq hk207).1) (by decide) (by decide) k) ?_
  show own_G p.tables e below _ (T204.setTop (mkF m 416 #[iv p1, iv p2, iv p3, iv (2 : Int32), rv b2, iv x0, iv x1, iv x2, iv x3, rv b143, iv kk0, iv kk1, iv kk2, iv kk3, iv ct0, iv ct1, rv b167, rv bx173_rb, iv pp0, iv pp1, iv pp2, iv pp3] []))
  refine own_step (fun t k => XS.iloadN X204.here hx rfl (hb hby at_416) rfl k) ?_
  refine own_step (fun t k => XS.iconst X204.here hx rfl (hb hby at_417) k) ?_
  have hk208 : (1 : Int32) < (2 : Int32) := (by decide)
  refine own_step (fun t k => XS.icmpNo X204.here hx rfl (hb hby at_418) rfl ((tlt hk208).2.2.2) k) ?_
  show own_G p.tables e below _ (T204.setTop (mkF m 421 #[iv p1, iv p2, iv p3, iv (2 : Int32), rv b2, iv x0, iv x1, iv x2, iv x3, rv b143, iv kk0, iv kk1, iv kk2, iv kk3, iv ct0, iv ct1, rv b167, rv bx173_rb, iv pp0, iv pp1, iv pp2, iv pp3] []))
  refine own_step (fun t k => XS.aload X204.here hx rfl (hb hby at_421) rfl rfl k) ?_
  refine own_step (fun t k => XS.iload X204.here hx rfl (hb hby at_423) rfl k) ?_
  refine own_step (own_iaload X204 hx hZ e204 w173_1 (own_setL (by simp only [List.length_set]; rfl) (own_pb2_1 (kk0 := kk0) (kk1 := kk1) (kk2 := kk2) (kk3 := kk3) h30 h31 hd_ct0 hd_ct1 hd_pp1)) (g := (mkF m 425 #[iv p1, iv p2, iv p3, iv (2 : Int32), rv b2, iv x0, iv x1, iv x2, iv x3, rv b143, iv kk0, iv kk1, iv kk2, iv kk3, iv ct0, iv ct1, rv b167, rv bx173_rb, iv pp0, iv pp1, iv pp2, iv pp3] [(.int pp1), (.ref bx173_rb)])) rfl rfl (hb hby at_425)) ?_
  refine own_step (fun t k => XS.iload X204.here hx rfl (hb hby at_426) rfl k) ?_
  show own_G p.tables e below _ (T204.setTop (mkF m 428 #[iv p1, iv p2, iv p3, iv (2 : Int32), rv b2, iv x0, iv x1, iv x2, iv x3, rv b143, iv kk0, iv kk1, iv kk2, iv kk3, iv ct0, iv ct1, rv b167, rv bx173_rb, iv pp0, iv pp1, iv pp2, iv pp3] [(.int x1), (.int ((([(0 : Int32), (0 : Int32)].set ((own_s2 kk0 kk1).getD kk0.toNatClampNeg 0).toNatClampNeg x0).set ((own_inc (own_s2 kk0 kk1) kk0).getD kk1.toNatClampNeg 0).toNatClampNeg x1).getD pp1.toNatClampNeg 0))]))
  have hk209 : ((([(0 : Int32), (0 : Int32)].set ((own_s2 kk0 kk1).getD kk0.toNatClampNeg 0).toNatClampNeg x0).set ((own_inc (own_s2 kk0 kk1) kk0).getD kk1.toNatClampNeg 0).toNatClampNeg x1).getD pp1.toNatClampNeg 0) = x1 := own_g2_1 (kk0 := kk0) (kk1 := kk1) (kk2 := kk2) (kk3 := kk3) (x0 := x0) (x1 := x1) (x2 := x2) (x3 := x3) h30 h31 hd_ct0 hd_ct1 hd_pp1
  refine own_step (fun t k => XS.icmpYes X204.here hx rfl (pc0 := 428) (pc' := 433) rfl (hb hby at_428) rfl ((teq hk209).1) (by decide) (by decide) k) ?_
  show own_G p.tables e below _ (T204.setTop (mkF m 433 #[iv p1, iv p2, iv p3, iv (2 : Int32), rv b2, iv x0, iv x1, iv x2, iv x3, rv b143, iv kk0, iv kk1, iv kk2, iv kk3, iv ct0, iv ct1, rv b167, rv bx173_rb, iv pp0, iv pp1, iv pp2, iv pp3] []))
  refine own_step (fun t k => XS.iloadN X204.here hx rfl (hb hby at_433) rfl k) ?_
  refine own_step (fun t k => XS.iconst X204.here hx rfl (hb hby at_434) k) ?_
  have hk210 : ¬ ((2 : Int32) < (2 : Int32)) := (by decide)
  refine own_step (fun t k => XS.icmpYes X204.here hx rfl (pc0 := 435) (pc' := 450) rfl (hb hby at_435) rfl ((flt hk210).2.2.2) (by decide) (by decide) k) ?_
  show own_G p.tables e below _ (T204.setTop (mkF m 450 #[iv p1, iv p2, iv p3, iv (2 : Int32), rv b2, iv x0, iv x1, iv x2, iv x3, rv b143, iv kk0, iv kk1, iv kk2, iv kk3, iv ct0, iv ct1, rv b167, rv bx173_rb, iv pp0, iv pp1, iv pp2, iv pp3] []))
  refine own_step (fun t k => XS.iloadN X204.here hx rfl (hb hby at_450) rfl k) ?_
  refine own_step (fun t k => XS.iconst X204.here hx rfl (hb hby at_451) k) ?_
  have hk211 : ¬ ((3 : Int32) < (2 : Int32)) := (by decide)
  refine own_step (fun t k => XS.icmpYes X204.here hx rfl (pc0 := 452) (pc' := 467) rfl (hb hby at_452) rfl ((flt hk211).2.2.2) (by decide) (by decide) k) ?_
  show own_G p.tables e below _ (T204.setTop (mkF m 467 #[iv p1, iv p2, iv p3, iv (2 : Int32), rv b2, iv x0, iv x1, iv x2, iv x3, rv b143, iv kk0, iv kk1, iv kk2, iv kk3, iv ct0, iv ct1, rv b167, rv bx173_rb, iv pp0, iv pp1, iv pp2, iv pp3] []))
  refine own_step (fun t k => XS.iconst X204.here hx rfl (hb hby at_467) k) ?_
  obtain ⟨fs, hr, hrun, hended, hW, hsame⟩ := X204.leave (v := some (.int (1 : Int32))) (fun h => by rw [hret] at h; cases h) hlocks
  refine own_done (retN X204 hx (t := .boolean) hret (by simp) (hb hby at_468) hr) hrun hended (hP _ _ ⟨_, _, rfl, ?_, ⟨_, rfl⟩, hW, hsame.mono (by decide) (by decide)⟩)
  show Q0 Z p1 p2 p3 h0 n0 _ T204.heap _
  rw [e204]
  exact ⟨rfl, N204⟩
set_option maxRecDepth 65536 in
set_option maxHeartbeats 40000000 in
theorem rm0_c3 (l : Launch) (Z : State) (a0 : Array Value) (hw : ∀ d ∈ tables_1, d.before a0 Z = true) (p1 : Int32) (p2 : Int32) (p3 : Int32) (h0 : Heap) (n0 : Nat) (Z0 : n0 ≤ h0.size) {p : Program} {e : Env} {s : State} {m : MethodId} {below : List Frame} {meth : Method} {c : Code} {T13 : State} {lc : List Loc} {P : Outcome → State → Prop} {h13 : Heap} {b2 : Addr} {kv0 : Int32} {kv1 : Int32} {kv2 : Int32} {kv3 : Int32} {x0 : Int32} {x1 : Int32} {x2 : Int32} {x3 : Int32} (hx : p.tables.exec = Jvm.exec) (hby : c.code = code) (hml : c.maxLocals = 22) (hown : s.vm.findClass "com/example/stevedore/stevedore/MoveGraphGroupedPinLaw" = some m.cls) (hZ : Z.Warmed39 s.vm) (hlocks : meth.locks = false) (hret : meth.sig.returnType = some .boolean) (X13 : Stand p l e room_1 s m #[(.int p1), (.int p2), (.int p3)] below meth c T13 lc 1 4) (e13 : T13.heap = h13) (N13 : Fr n0 lc) (K13 : Keep h0 h13 []) (c14 : own_Ari Z h13 b2 .int [kv0, kv1, kv2, kv3]) (ge2 : n0 ≤ b2) (sz2 : h0.size ≤ b2) (hd_kv0 : kv0 = ((p3 &&& (15 : Int32)) - ((p3 &&& (15 : Int32)) / (3 : Int32)) * (3 : Int32))) (hd_kv1 : kv1 = ((((p3.toUInt32 >>> ((4 : Int32) &&& 31).toUInt32).toInt32) &&& (15 : Int32)) - ((((p3.toUInt32 >>> ((4 : Int32) &&& 31).toUInt32).toInt32) &&& (15 : Int32)) / (3 : Int32)) * (3 : Int32))) (hd_kv2 : kv2 = ((((p3.toUInt32 >>> ((8 : Int32) &&& 31).toUInt32).toInt32) &&& (15 : Int32)) - ((((p3.toUInt32 >>> ((8 : Int32) &&& 31).toUInt32).toInt32) &&& (15 : Int32)) / (3 : Int32)) * (3 : Int32))) (hd_kv3 : kv3 = ((((p3.toUInt32 >>> ((12 : Int32) &&& 31).toUInt32).toInt32) &&& (15 : Int32)) - ((((p3.toUInt32 >>> ((12 : Int32) &&& 31).toUInt32).toInt32) &&& (15 : Int32)) / (3 : Int32)) * (3 : Int32))) (hd_x0 : x0 = (p2 &&& (3 : Int32))) (hd_x1 : x1 = (((p2.toUInt32 >>> ((2 : Int32) &&& 31).toUInt32).toInt32) &&& (3 : Int32))) (hd_x2 : x2 = (((p2.toUInt32 >>> ((4 : Int32) &&& 31).toUInt32).toInt32) &&& (3 : Int32))) (hd_x3 : x3 = (((p2.toUInt32 >>> ((6 : Int32) &&& 31).toUInt32).toInt32) &&& (3 : Int32))) (hd_n : (3 : Int32) = ((p1 &&& (7 : Int32)) - ((p1 &&& (7 : Int32)) / (5 : Int32)) * (5 : Int32))) (hv0 : own_3 kv0) (hv1 : own_3 kv1) (hv2 : own_3 kv2) (hv3 : own_3 kv3) (hP : ∀ o U', (∃ v L, o = .returned v ∧ Q0 Z p1 p2 p3 h0 n0 v U'.heap L ∧ FrameEnd s o U' L room_1.cells room_1.slots) → P o U') : own_G p.tables e below P (T13.setTop (mkF m 87 #[iv p1, iv p2, iv p3, iv (3 : Int32), rv b2, iv x0, iv x1, iv x2, iv x3, .unset, .unset, .unset, .unset, .unset, .unset, .unset, .unset, .unset, .unset, .unset, .unset, .unset] [])) := by
  show own_G p.tables e below _ (T13.setTop (mkF m 87 #[iv p1, iv p2, iv p3, iv (3 : Int32), rv b2, iv x0, iv x1, iv x2, iv x3, .unset, .unset, .unset, .unset, .unset, .unset, .unset, .unset, .unset, .unset, .unset, .unset, .unset] []))
  have hx0 : own_4 x0 := by rw [hd_x0]; exact own_num _
  have hx1 : own_4 x1 := by rw [hd_x1]; exact own_num _
  have hx2 : own_4 x2 := by rw [hd_x2]; exact own_num _
  have hx3 : own_4 x3 := by rw [hd_x3]; exact own_num _
  refine own_step (fun t k => XS.iloadN X13.here hx rfl (hb hby at_87) rfl k) ?_
  obtain ⟨T212, h212, k212, X212, e212, E212, A212, st212⟩ := newP X13 hx hZ (hw _ (List.mem_of_getElem? (i := 0) rfl)) e13 (g := (mkF m 88 #[iv p1, iv p2, iv p3, iv (3 : Int32), rv b2, iv x0, iv x1, iv x2, iv x3, .unset, .unset, .unset, .unset, .unset, .unset, .unset, .unset, .unset, .unset, .unset, .unset, .unset] [(.int (3 : Int32))])) rfl (hb hby at_88) rfl (by decide) (cap := 3) (by decide) (by decide) (by decide) (by decide)
  obtain ⟨b212, g212⟩ : ∃ z, z = h13.size := ⟨_, rfl⟩
  have ne213 : b2 ≠ b212 := Nat.ne_of_lt (Nat.lt_of_lt_of_le c14.lt (Nat.le_of_eq g212.symm))
  have sz212 : h0.size ≤ b212 := Nat.le_trans K13.1 (Nat.le_of_eq g212.symm)
  have ge212 : n0 ≤ b212 := Nat.le_trans Z0 sz212
  have c214 : own_Ari Z h212 b2 .int [kv0, kv1, kv2, kv3] := c14.ext E212
  have K212 : Keep h0 h212 [] := K13.ext E212
  rw [← g212] at A212 st212
  have c215 : own_Ari Z h212 b212 .int [(0 : Int32), (0 : Int32), (0 : Int32)] := own_Ari_new (ty := .int) A212 (by decide) rfl
  refine own_step st212 ?_
  refine own_step (fun t k => XS.astore X212.here hx rfl (hb hby at_90) rfl rfl (l' := #[iv p1, iv p2, iv p3, iv (3 : Int32), rv b2, iv x0, iv x1, iv x2, iv x3, rv b212, .unset, .unset, .unset, .unset, .unset, .unset, .unset, .unset, .unset, .unset, .unset, .unset]) rfl k) ?_
  refine own_step (fun t k => XS.iloadN X212.here hx rfl (hb hby at_92) rfl k) ?_
  show own_G p.tables e below _ (T212.setTop (mkF m 93 #[iv p1, iv p2, iv p3, iv (3 : Int32), rv b2, iv x0, iv x1, iv x2, iv x3, rv b212, .unset, .unset, .unset, .unset, .unset, .unset, .unset, .unset, .unset, .unset, .unset, .unset] [(.int (3 : Int32))]))
  have hk216 : (0 : Int32) < (3 : Int32) := (by decide)
  refine own_step (fun t k => XS.ifNo X212.here hx rfl (hb hby at_93) rfl ((if0 _ _).trans (tlt hk216).2.2.2) k) ?_
  show own_G p.tables e below _ (T212.setTop (mkF m 96 #[iv p1, iv p2, iv p3, iv (3 : Int32), rv b2, iv x0, iv x1, iv x2, iv x3, rv b212, .unset, .unset, .unset, .unset, .unset, .unset, .unset, .unset, .unset, .unset, .unset, .unset] []))
  refine own_step (fun t k => XS.aload X212.here hx rfl (hb hby at_96) rfl rfl k) ?_
  refine own_step (fun t k => XS.iconst X212.here hx rfl (hb hby at_98) k) ?_
  refine own_step (fun t k => XS.iload X212.here hx rfl (hb hby at_99) rfl k) ?_
  obtain ⟨T217, h217, X217, e217, W217, c217, st217⟩ := own_iastore X212 hx hZ e212 c215 (own_inb (by decide) (Nat.le_of_ble_eq_true rfl)) (g := (mkF m 101 #[iv p1, iv p2, iv p3, iv (3 : Int32), rv b2, iv x0, iv x1, iv x2, iv x3, rv b212, .unset, .unset, .unset, .unset, .unset, .unset, .unset, .unset, .unset, .unset, .unset, .unset] [(.int x0), (.int (0 : Int32)), (.ref b212)])) rfl rfl (hb hby at_101)
  have N217 := Fr.snoc X217 N13 ge212
  have c218 : own_Ari Z h217 b212 .int [x0, (0 : Int32), (0 : Int32)] := c217
  have c219 : own_Ari Z h217 b2 .int [kv0, kv1, kv2, kv3] := c214.other W217 ne213
  have K217 : Keep h0 h217 [] := K212.wr W217 (Or.inr sz212)
  refine own_step st217 ?_
  clear A212 E212 K212 W217 X212 c214 c215 c217 e212 g212 hk216 st212 st217
  show own_G p.tables e below _ (T217.setTop (mkF m 102 #[iv p1, iv p2, iv p3, iv (3 : Int32), rv b2, iv x0, iv x1, iv x2, iv x3, rv b212, .unset, .unset, .unset, .unset, .unset, .unset, .unset, .unset, .unset, .unset, .unset, .unset] []))
  refine own_step (fun t k => XS.iloadN X217.here hx rfl (hb hby at_102) rfl k) ?_
  refine own_step (fun t k => XS.iconst X217.here hx rfl (hb hby at_103) k) ?_
  have hk221 : (1 : Int32) < (3 : Int32) := (by decide)
  refine own_step (fun t k => XS.icmpNo X217.here hx rfl (hb hby at_104) rfl ((tlt hk221).2.2.2) k) ?_
  show own_G p.tables e below _ (T217.setTop (mkF m 107 #[iv p1, iv p2, iv p3, iv (3 : Int32), rv b2, iv x0, iv x1, iv x2, iv x3, rv b212, .unset, .unset, .unset, .unset, .unset, .unset, .unset, .unset, .unset, .unset, .unset, .unset] []))
  refine own_step (fun t k => XS.aload X217.here hx rfl (hb hby at_107) rfl rfl k) ?_
  refine own_step (fun t k => XS.iconst X217.here hx rfl (hb hby at_109) k) ?_
  refine own_step (fun t k => XS.iload X217.here hx rfl (hb hby at_110) rfl k) ?_
  obtain ⟨T222, h222, X222, e222, W222, c222, st222⟩ := own_iastore X217 hx hZ e217 c218 (own_inb (by decide) (Nat.le_of_ble_eq_true rfl)) (g := (mkF m 112 #[iv p1, iv p2, iv p3, iv (3 : Int32), rv b2, iv x0, iv x1, iv x2, iv x3, rv b212, .unset, .unset, .unset, .unset, .unset, .unset, .unset, .unset, .unset, .unset, .unset, .unset] [(.int x1), (.int (1 : Int32)), (.ref b212)])) rfl rfl (hb hby at_112)
  have N222 := Fr.snoc X222 N217 ge212
  have c223 : own_Ari Z h222 b212 .int [x0, x1, (0 : Int32)] := c222
  have c224 : own_Ari Z h222 b2 .int [kv0, kv1, kv2, kv3] := c219.other W222 ne213
  have K222 : Keep h0 h222 [] := K217.wr W222 (Or.inr sz212)
  refine own_step st222 ?_
  clear K217 N217 W222 X217 c218 c219 c222 e217 hk221 st222
  show own_G p.tables e below _ (T222.setTop (mkF m 113 #[iv p1, iv p2, iv p3, iv (3 : Int32), rv b2, iv x0, iv x1, iv x2, iv x3, rv b212, .unset, .unset, .unset, .unset, .unset, .unset, .unset, .unset, .unset, .unset, .unset, .unset] []))
  refine own_step (fun t k => XS.iloadN X222.here hx rfl (hb hby at_113) rfl k) ?_
  refine own_step (fun t k => XS.iconst X222.here hx rfl (hb hby at_114) k) ?_
  have hk226 : (2 : Int32) < (3 : Int32) := (by decide)
  refine own_step (fun t k => XS.icmpNo X222.here hx rfl (hb hby at_115) rfl ((tlt hk226).2.2.2) k) ?_
  show own_G p.tables e below _ (T222.setTop (mkF m 118 #[iv p1, iv p2, iv p3, iv (3 : Int32), rv b2, iv x0, iv x1, iv x2, iv x3, rv b212, .unset, .unset, .unset, .unset, .unset, .unset, .unset, .unset, .unset, .unset, .unset, .unset] []))
  refine own_step (fun t k => XS.aload X222.here hx rfl (hb hby at_118) rfl rfl k) ?_
  refine own_step (fun t k => XS.iconst X222.here hx rfl (hb hby at_120) k) ?_
  refine own_step (fun t k => XS.iload X222.here hx rfl (hb hby at_121) rfl k) ?_
  obtain ⟨T227, h227, X227, e227, W227, c227, st227⟩ := own_iastore X222 hx hZ e222 c223 (own_inb (by decide) (Nat.le_of_ble_eq_true rfl)) (g := (mkF m 123 #[iv p1, iv p2, iv p3, iv (3 : Int32), rv b2, iv x0, iv x1, iv x2, iv x3, rv b212, .unset, .unset, .unset, .unset, .unset, .unset, .unset, .unset, .unset, .unset, .unset, .unset] [(.int x2), (.int (2 : Int32)), (.ref b212)])) rfl rfl (hb hby at_123)
  have N227 := Fr.snoc X227 N222 ge212
  have c228 : own_Ari Z h227 b212 .int [x0, x1, x2] := c227
  have c229 : own_Ari Z h227 b2 .int [kv0, kv1, kv2, kv3] := c224.other W227 ne213
  have K227 : Keep h0 h227 [] := K222.wr W227 (Or.inr sz212)
  refine own_step st227 ?_
  clear K222 N222 W227 X222 c223 c224 c227 e222 hk226 st227
  show own_G p.tables e below _ (T227.setTop (mkF m 124 #[iv p1, iv p2, iv p3, iv (3 : Int32), rv b2, iv x0, iv x1, iv x2, iv x3, rv b212, .unset, .unset, .unset, .unset, .unset, .unset, .unset, .unset, .unset, .unset, .unset, .unset] []))
  refine own_step (fun t k => XS.iloadN X227.here hx rfl (hb hby at_124) rfl k) ?_
  refine own_step (fun t k => XS.iconst X227.here hx rfl (hb hby at_125) k) ?_
  have hk231 : ¬ ((3 : Int32) < (3 : Int32)) := (by decide)
  refine own_step (fun t k => XS.icmpYes X227.here hx rfl (pc0 := 126) (pc' := 135) rfl (hb hby at_126) rfl ((flt hk231).2.2.2) (by decide) (by decide) k) ?_
  show own_G p.tables e below _ (T227.setTop (mkF m 135 #[iv p1, iv p2, iv p3, iv (3 : Int32), rv b2, iv x0, iv x1, iv x2, iv x3, rv b212, .unset, .unset, .unset, .unset, .unset, .unset, .unset, .unset, .unset, .unset, .unset, .unset] []))
  refine own_step (fun t k => XS.aload X227.here hx rfl (hb hby at_135) rfl rfl k) ?_
  refine own_step (fun t k => XS.iload X227.here hx rfl (hb hby at_137) rfl k) ?_
  refine own_step (own_iaload X227 hx hZ e227 c229 (own_i4 hx0 rfl) (g := (mkF m 139 #[iv p1, iv p2, iv p3, iv (3 : Int32), rv b2, iv x0, iv x1, iv x2, iv x3, rv b212, .unset, .unset, .unset, .unset, .unset, .unset, .unset, .unset, .unset, .unset, .unset, .unset] [(.int x0), (.ref b2)])) rfl rfl (hb hby at_139)) ?_
  refine own_nm (([kv0, kv1, kv2, kv3].getD x0.toNatClampNeg 0) : Int32) (fun kk0 => T227.setTop (mkF m 140 #[iv p1, iv p2, iv p3, iv (3 : Int32), rv b2, iv x0, iv x1, iv x2, iv x3, rv b212, .unset, .unset, .unset, .unset, .unset, .unset, .unset, .unset, .unset, .unset, .unset, .unset] [(.int kk0)])) ?_
  intro kk0 hd_kk0
  show own_G p.tables e below _ (T227.setTop (mkF m 140 #[iv p1, iv p2, iv p3, iv (3 : Int32), rv b2, iv x0, iv x1, iv x2, iv x3, rv b212, .unset, .unset, .unset, .unset, .unset, .unset, .unset, .unset, .unset, .unset, .unset, .unset] [(.int kk0)]))
  refine own_step (fun t k => XS.istore X227.here hx rfl (hb hby at_140) rfl (l' := #[iv p1, iv p2, iv p3, iv (3 : Int32), rv b2, iv x0, iv x1, iv x2, iv x3, rv b212, iv kk0, .unset, .unset, .unset, .unset, .unset, .unset, .unset, .unset, .unset, .unset, .unset]) rfl k) ?_
  refine own_step (fun t k => XS.aload X227.here hx rfl (hb hby at_142) rfl rfl k) ?_
  refine own_step (fun t k => XS.iload X227.here hx rfl (hb hby at_144) rfl k) ?_
  refine own_step (own_iaload X227 hx hZ e227 c229 (own_i4 hx1 rfl) (g := (mkF m 146 #[iv p1, iv p2, iv p3, iv (3 : Int32), rv b2, iv x0, iv x1, iv x2, iv x3, rv b212, iv kk0, .unset, .unset, .unset, .unset, .unset, .unset, .unset, .unset, .unset, .unset, .unset] [(.int x1), (.ref b2)])) rfl rfl (hb hby at_146)) ?_
  show own_G p.tables e below _ (T227.setTop (mkF m 147 #[iv p1, iv p2, iv p3, iv (3 : Int32), rv b2, iv x0, iv x1, iv x2, iv x3, rv b212, iv kk0, .unset, .unset, .unset, .unset, .unset, .unset, .unset, .unset, .unset, .unset, .unset] [(.int ([kv0, kv1, kv2, kv3].getD x1.toNatClampNeg 0))]))
  refine own_nm (([kv0, kv1, kv2, kv3].getD x1.toNatClampNeg 0) : Int32) (fun kk1 => T227.setTop (mkF m 147 #[iv p1, iv p2, iv p3, iv (3 : Int32), rv b2, iv x0, iv x1, iv x2, iv x3, rv b212, iv kk0, .unset, .unset, .unset, .unset, .unset, .unset, .unset, .unset, .unset, .unset, .unset] [(.int kk1)])) ?_
  intro kk1 hd_kk1
  show own_G p.tables e below _ (T227.setTop (mkF m 147 #[iv p1, iv p2, iv p3, iv (3 : Int32), rv b2, iv x0, iv x1, iv x2, iv x3, rv b212, iv kk0, .unset, .unset, .unset, .unset, .unset, .unset, .unset, .unset, .unset, .unset, .unset] [(.int kk1)]))
  refine own_step (fun t k => XS.istore X227.here hx rfl (hb hby at_147) rfl (l' := #[iv p1, iv p2, iv p3, iv (3 : Int32), rv b2, iv x0, iv x1, iv x2, iv x3, rv b212, iv kk0, iv kk1, .unset, .unset, .unset, .unset, .unset, .unset, .unset, .unset, .unset, .unset]) rfl k) ?_
  refine own_step (fun t k => XS.aload X227.here hx rfl (hb hby at_149) rfl rfl k) ?_
  refine own_step (fun t k => XS.iload X227.here hx rfl (hb hby at_151) rfl k) ?_
  refine own_step (own_iaload X227 hx hZ e227 c229 (own_i4 hx2 rfl) (g := (mkF m 153 #[iv p1, iv p2, iv p3, iv (3 : Int32), rv b2, iv x0, iv x1, iv x2, iv x3, rv b212, iv kk0, iv kk1, .unset, .unset, .unset, .unset, .unset, .unset, .unset, .unset, .unset, .unset] [(.int x2), (.ref b2)])) rfl rfl (hb hby at_153)) ?_
  show own_G p.tables e below _ (T227.setTop (mkF m 154 #[iv p1, iv p2, iv p3, iv (3 : Int32), rv b2, iv x0, iv x1, iv x2, iv x3, rv b212, iv kk0, iv kk1, .unset, .unset, .unset, .unset, .unset, .unset, .unset, .unset, .unset, .unset] [(.int ([kv0, kv1, kv2, kv3].getD x2.toNatClampNeg 0))]))
  refine own_nm (([kv0, kv1, kv2, kv3].getD x2.toNatClampNeg 0) : Int32) (fun kk2 => T227.setTop (mkF m 154 #[iv p1, iv p2, iv p3, iv (3 : Int32), rv b2, iv x0, iv x1, iv x2, iv x3, rv b212, iv kk0, iv kk1, .unset, .unset, .unset, .unset, .unset, .unset, .unset, .unset, .unset, .unset] [(.int kk2)])) ?_
  intro kk2 hd_kk2
  show own_G p.tables e below _ (T227.setTop (mkF m 154 #[iv p1, iv p2, iv p3, iv (3 : Int32), rv b2, iv x0, iv x1, iv x2, iv x3, rv b212, iv kk0, iv kk1, .unset, .unset, .unset, .unset, .unset, .unset, .unset, .unset, .unset, .unset] [(.int kk2)]))
  refine own_step (fun t k => XS.istore X227.here hx rfl (hb hby at_154) rfl (l' := #[iv p1, iv p2, iv p3, iv (3 : Int32), rv b2, iv x0, iv x1, iv x2, iv x3, rv b212, iv kk0, iv kk1, iv kk2, .unset, .unset, .unset, .unset, .unset, .unset, .unset, .unset, .unset]) rfl k) ?_
  refine own_step (fun t k => XS.aload X227.here hx rfl (hb hby at_156) rfl rfl k) ?_
  refine own_step (fun t k => XS.iload X227.here hx rfl (hb hby at_158) rfl k) ?_
  refine own_step (own_iaload X227 hx hZ e227 c229 (own_i4 hx3 rfl) (g := (mkF m 160 #[iv p1, iv p2, iv p3, iv (3 : Int32), rv b2, iv x0, iv x1, iv x2, iv x3, rv b212, iv kk0, iv kk1, iv kk2, .unset, .unset, .unset, .unset, .unset, .unset, .unset, .unset, .unset] [(.int x3), (.ref b2)])) rfl rfl (hb hby at_160)) ?_
  show own_G p.tables e below _ (T227.setTop (mkF m 161 #[iv p1, iv p2, iv p3, iv (3 : Int32), rv b2, iv x0, iv x1, iv x2, iv x3, rv b212, iv kk0, iv kk1, iv kk2, .unset, .unset, .unset, .unset, .unset, .unset, .unset, .unset, .unset] [(.int ([kv0, kv1, kv2, kv3].getD x3.toNatClampNeg 0))]))
  refine own_nm (([kv0, kv1, kv2, kv3].getD x3.toNatClampNeg 0) : Int32) (fun kk3 => T227.setTop (mkF m 161 #[iv p1, iv p2, iv p3, iv (3 : Int32), rv b2, iv x0, iv x1, iv x2, iv x3, rv b212, iv kk0, iv kk1, iv kk2, .unset, .unset, .unset, .unset, .unset, .unset, .unset, .unset, .unset] [(.int kk3)])) ?_
  intro kk3 hd_kk3
  show own_G p.tables e below _ (T227.setTop (mkF m 161 #[iv p1, iv p2, iv p3, iv (3 : Int32), rv b2, iv x0, iv x1, iv x2, iv x3, rv b212, iv kk0, iv kk1, iv kk2, .unset, .unset, .unset, .unset, .unset, .unset, .unset, .unset, .unset] [(.int kk3)]))
  refine own_step (fun t k => XS.istore X227.here hx rfl (hb hby at_161) rfl (l' := #[iv p1, iv p2, iv p3, iv (3 : Int32), rv b2, iv x0, iv x1, iv x2, iv x3, rv b212, iv kk0, iv kk1, iv kk2, iv kk3, .unset, .unset, .unset, .unset, .unset, .unset, .unset, .unset]) rfl k) ?_
  have h30 : own_3 kk0 := by rw [hd_kk0]; exact own_k3 hv0 hv1 hv2 hv3 hx0
  have h31 : own_3 kk1 := by rw [hd_kk1]; exact own_k3 hv0 hv1 hv2 hv3 hx1
  have h32 : own_3 kk2 := by rw [hd_kk2]; exact own_k3 hv0 hv1 hv2 hv3 hx2
  have h33 : own_3 kk3 := by rw [hd_kk3]; exact own_k3 hv0 hv1 hv2 hv3 hx3
  refine own_step (fun t k => XS.iconst X227.here hx rfl (hb hby at_163) k) ?_
  refine own_step (fun t k => XS.iloadN X227.here hx rfl (hb hby at_164) rfl k) ?_
  refine own_step (fun t k => XS.iload X227.here hx rfl (hb hby at_165) rfl k) ?_
  show own_G p.tables e below _ (T227.setTop (mkF m 167 #[iv p1, iv p2, iv p3, iv (3 : Int32), rv b2, iv x0, iv x1, iv x2, iv x3, rv b212, iv kk0, iv kk1, iv kk2, iv kk3, .unset, .unset, .unset, .unset, .unset, .unset, .unset, .unset] [(.int kk0), (.int (3 : Int32)), (.int (0 : Int32))]))
  refine own_step (fun t k => XS.iload X227.here hx rfl (hb hby at_167) rfl k) ?_
  refine own_step (fun t k => XS.iload X227.here hx rfl (hb hby at_169) rfl k) ?_
  refine own_step (fun t k => XS.iload X227.here hx rfl (hb hby at_171) rfl k) ?_
  obtain ⟨_, _, ⟨T236, L236, k236, n236⟩, -, X236, ⟨Lc236, hQ236, l236, y236, z236⟩, st236⟩ := Jvm.LawKit.callS X227 hx (y := (⟨"com/example/stevedore/stevedore/MoveGraphGroupedPinLaw", "cnt", "(IIIIII)I"⟩ : MethodName)) hown (mvT hZ (hw _ (List.mem_of_getElem? (i := 1) rfl))) (mvT hZ (hw _ (List.mem_of_getElem? (i := 2) rfl))) (mvT hZ (hw _ (List.mem_of_getElem? (i := 3) rfl))) (mvT hZ (hw _ (List.mem_of_getElem? (i := 4) rfl))) (by decide) (backOf (W := 0) (rm1_n3 l Z a0 hw [] (0 : Int32) kk0 kk1 kk2 kk3 h227 n0 (Nat.le_trans Z0 K227.1) ) hZ (hw _ (List.mem_of_getElem? (i := 4) rfl)) (hw _ (List.mem_of_getElem? (i := 3) rfl)) (by decide) (by decide)) (g := (mkF m 173 #[iv p1, iv p2, iv p3, iv (3 : Int32), rv b2, iv x0, iv x1, iv x2, iv x3, rv b212, iv kk0, iv kk1, iv kk2, iv kk3, .unset, .unset, .unset, .unset, .unset, .unset, .unset, .unset] [(.int kk3), (.int kk2), (.int kk1), (.int kk0), (.int (3 : Int32)), (.int (0 : Int32))])) rfl (by rw [hml]; rfl) (argsL := [(.int (0 : Int32)), (.int (3 : Int32)), (.int kk0), (.int kk1), (.int kk2), (.int kk3)]) (rest := []) (lenOf pd_0_0 rfl) rfl (by show 2 * 0 + _ ≤ _; exact Nat.le_of_eq rfl) (hb hby at_173) (fun _ _ => ⟨rfl, e227, (by decide : 2 + 0 ≤ _), (by decide : 7 + 0 ≤ _)⟩)
  dsimp only [Pt.U, Pt.locs, Pt.cells, Pt.slots] at X236 l236 y236 z236 st236 hQ236
  subst y236 z236
  obtain ⟨rfl, N236q, e236⟩ := hQ236
  have N236 : Fr n0 L236 := by rw [l236]; exact Fr.app N227 N236q
  refine own_step st236 ?_
  show own_G p.tables e below _ (T236.setTop (mkF m 176 #[iv p1, iv p2, iv p3, iv (3 : Int32), rv b2, iv x0, iv x1, iv x2, iv x3, rv b212, iv kk0, iv kk1, iv kk2, iv kk3, .unset, .unset, .unset, .unset, .unset, .unset, .unset, .unset] [(.int ((((own_f2 (if kk0 = (0 : Int32) then (1 : Int32) else (0 : Int32))) + (own_f2 (if kk1 = (0 : Int32) then (1 : Int32) else (0 : Int32)))) + (own_f2 (if kk2 = (0 : Int32) then (1 : Int32) else (0 : Int32)))) + (own_f2 (0 : Int32))))]))
  refine own_nm (((((own_f2 (if kk0 = (0 : Int32) then (1 : Int32) else (0 : Int32))) + (own_f2 (if kk1 = (0 : Int32) then (1 : Int32) else (0 : Int32)))) + (own_f2 (if kk2 = (0 : Int32) then (1 : Int32) else (0 : Int32)))) + (own_f2 (0 : Int32))) : Int32) (fun ct0 => T236.setTop (mkF m 176 #[iv p1, iv p2, iv p3, iv (3 : Int32), rv b2, iv x0, iv x1, iv x2, iv x3, rv b212, iv kk0, iv kk1, iv kk2, iv kk3, .unset, .unset, .unset, .unset, .unset, .unset, .unset, .unset] [(.int ct0)])) ?_
  intro ct0 hd_ct0
  show own_G p.tables e below _ (T236.setTop (mkF m 176 #[iv p1, iv p2, iv p3, iv (3 : Int32), rv b2, iv x0, iv x1, iv x2, iv x3, rv b212, iv kk0, iv kk1, iv kk2, iv kk3, .unset, .unset, .unset, .unset, .unset, .unset, .unset, .unset] [(.int ct0)]))
  refine own_step (fun t k => XS.istore X236.here hx rfl (hb hby at_176) rfl (l' := #[iv p1, iv p2, iv p3, iv (3 : Int32), rv b2, iv x0, iv x1, iv x2, iv x3, rv b212, iv kk0, iv kk1, iv kk2, iv kk3, iv ct0, .unset, .unset, .unset, .unset, .unset, .unset, .unset]) rfl k) ?_
  refine own_step (fun t k => XS.iconst X236.here hx rfl (hb hby at_178) k) ?_
  refine own_step (fun t k => XS.iloadN X236.here hx rfl (hb hby at_179) rfl k) ?_
  refine own_step (fun t k => XS.iload X236.here hx rfl (hb hby at_180) rfl k) ?_
  show own_G p.tables e below _ (T236.setTop (mkF m 182 #[iv p1, iv p2, iv p3, iv (3 : Int32), rv b2, iv x0, iv x1, iv x2, iv x3, rv b212, iv kk0, iv kk1, iv kk2, iv kk3, iv ct0, .unset, .unset, .unset, .unset, .unset, .unset, .unset] [(.int kk0), (.int (3 : Int32)), (.int (1 : Int32))]))
  refine own_step (fun t k => XS.iload X236.here hx rfl (hb hby at_182) rfl k) ?_
  refine own_step (fun t k => XS.iload X236.here hx rfl (hb hby at_184) rfl k) ?_
  refine own_step (fun t k => XS.iload X236.here hx rfl (hb hby at_186) rfl k) ?_
  obtain ⟨_, _, ⟨T238, L238, k238, n238⟩, -, X238, ⟨Lc238, hQ238, l238, y238, z238⟩, st238⟩ := Jvm.LawKit.callS X236 hx (y := (⟨"com/example/stevedore/stevedore/MoveGraphGroupedPinLaw", "cnt", "(IIIIII)I"⟩ : MethodName)) hown (mvT hZ (hw _ (List.mem_of_getElem? (i := 1) rfl))) (mvT hZ (hw _ (List.mem_of_getElem? (i := 2) rfl))) (mvT hZ (hw _ (List.mem_of_getElem? (i := 3) rfl))) (mvT hZ (hw _ (List.mem_of_getElem? (i := 4) rfl))) (by decide) (backOf (W := 0) (rm1_n3 l Z a0 hw [] (1 : Int32) kk0 kk1 kk2 kk3 h227 n0 (Nat.le_trans Z0 K227.1) ) hZ (hw _ (List.mem_of_getElem? (i := 4) rfl)) (hw _ (List.mem_of_getElem? (i := 3) rfl)) (by decide) (by decide)) (g := (mkF m 188 #[iv p1, iv p2, iv p3, iv (3 : Int32), rv b2, iv x0, iv x1, iv x2, iv x3, rv b212, iv kk0, iv kk1, iv kk2, iv kk3, iv ct0, .unset, .unset, .unset, .unset, .unset, .unset, .unset] [(.int kk3), (.int kk2), (.int kk1), (.int kk0), (.int (3 : Int32)), (.int (1 : Int32))])) rfl (by rw [hml]; rfl) (argsL := [(.int (1 : Int32)), (.int (3 : Int32)), (.int kk0), (.int kk1), (.int kk2), (.int kk3)]) (rest := []) (lenOf pd_0_0 rfl) rfl (by show 2 * 0 + _ ≤ _; exact Nat.le_of_eq rfl) (hb hby at_188) (fun _ _ => ⟨rfl, e236, (by decide : 2 + 0 ≤ _), (by decide : 7 + 0 ≤ _)⟩)
  dsimp only [Pt.U, Pt.locs, Pt.cells, Pt.slots] at X238 l238 y238 z238 st238 hQ238
  subst y238 z238
  obtain ⟨rfl, N238q, e238⟩ := hQ238
  have N238 : Fr n0 L238 := by rw [l238]; exact Fr.app N236 N238q
  refine own_step st238 ?_
  clear N227 N236 N236q N238q X227 X236 e227 e236 hk231 st236 st238
  show own_G p.tables e below _ (T238.setTop (mkF m 191 #[iv p1, iv p2, iv p3, iv (3 : Int32), rv b2, iv x0, iv x1, iv x2, iv x3, rv b212, iv kk0, iv kk1, iv kk2, iv kk3, iv ct0, .unset, .unset, .unset, .unset, .unset, .unset, .unset] [(.int ((((own_f2 (if kk0 = (1 : Int32) then (1 : Int32) else (0 : Int32))) + (own_f2 (if kk1 = (1 : Int32) then (1 : Int32) else (0 : Int32)))) + (own_f2 (if kk2 = (1 : Int32) then (1 : Int32) else (0 : Int32)))) + (own_f2 (0 : Int32))))]))
  refine own_nm (((((own_f2 (if kk0 = (1 : Int32) then (1 : Int32) else (0 : Int32))) + (own_f2 (if kk1 = (1 : Int32) then (1 : Int32) else (0 : Int32)))) + (own_f2 (if kk2 = (1 : Int32) then (1 : Int32) else (0 : Int32)))) + (own_f2 (0 : Int32))) : Int32) (fun ct1 => T238.setTop (mkF m 191 #[iv p1, iv p2, iv p3, iv (3 : Int32), rv b2, iv x0, iv x1, iv x2, iv x3, rv b212, iv kk0, iv kk1, iv kk2, iv kk3, iv ct0, .unset, .unset, .unset, .unset, .unset, .unset, .unset] [(.int ct1)])) ?_
  intro ct1 hd_ct1
  show own_G p.tables e below _ (T238.setTop (mkF m 191 #[iv p1, iv p2, iv p3, iv (3 : Int32), rv b2, iv x0, iv x1, iv x2, iv x3, rv b212, iv kk0, iv kk1, iv kk2, iv kk3, iv ct0, .unset, .unset, .unset, .unset, .unset, .unset, .unset] [(.int ct1)]))
  refine own_step (fun t k => XS.istore X238.here hx rfl (hb hby at_191) rfl (l' := #[iv p1, iv p2, iv p3, iv (3 : Int32), rv b2, iv x0, iv x1, iv x2, iv x3, rv b212, iv kk0, iv kk1, iv kk2, iv kk3, iv ct0, iv ct1, .unset, .unset, .unset, .unset, .unset, .unset]) rfl k) ?_
  refine own_step (fun t k => XS.iconst X238.here hx rfl (hb hby at_193) k) ?_
  obtain ⟨T240, h240, k240, X240, e240, E240, A240, B240, st240⟩ := newPE X238 hx hZ (hw _ (List.mem_of_getElem? (i := 0) rfl)) e238 (g := (mkF m 194 #[iv p1, iv p2, iv p3, iv (3 : Int32), rv b2, iv x0, iv x1, iv x2, iv x3, rv b212, iv kk0, iv kk1, iv kk2, iv kk3, iv ct0, iv ct1, .unset, .unset, .unset, .unset, .unset, .unset] [(.int (4 : Int32))])) rfl (hb hby at_194) rfl (by decide) (cap := 4) (by decide) (by decide) (by decide) (by decide) (ad := "[I") (by decide)
  obtain ⟨b240, g240⟩ : ∃ z, z = h227.size := ⟨_, rfl⟩
  have ne241 : b2 ≠ b240 := Nat.ne_of_lt (Nat.lt_of_lt_of_le c229.lt (Nat.le_of_eq g240.symm))
  have ne242 : b212 ≠ b240 := Nat.ne_of_lt (Nat.lt_of_lt_of_le c228.lt (Nat.le_of_eq g240.symm))
  have sz240 : h0.size ≤ b240 := Nat.le_trans K227.1 (Nat.le_of_eq g240.symm)
  have ge240 : n0 ≤ b240 := Nat.le_trans Z0 sz240
  have c243 : own_Ari Z h240 b2 .int [kv0, kv1, kv2, kv3] := c229.ext E240
  have c244 : own_Ari Z h240 b212 .int [x0, x1, x2] := c228.ext E240
  have K240 : Keep h0 h240 [] := K227.ext E240
  rw [← g240] at A240 B240 st240
  have c245 : own_Ari Z h240 b240 .int [(0 : Int32), (0 : Int32), (0 : Int32), (0 : Int32)] := own_Ari_new (ty := .int) A240 (by decide) rfl
  refine own_step st240 ?_
  refine own_step (fun t k => XS.astore X240.here hx rfl (hb hby at_196) rfl rfl (l' := #[iv p1, iv p2, iv p3, iv (3 : Int32), rv b2, iv x0, iv x1, iv x2, iv x3, rv b212, iv kk0, iv kk1, iv kk2, iv kk3, iv ct0, iv ct1, rv b240, .unset, .unset, .unset, .unset, .unset]) rfl k) ?_
  show own_G p.tables e below _ (T240.setTop (mkF m 198 #[iv p1, iv p2, iv p3, iv (3 : Int32), rv b2, iv x0, iv x1, iv x2, iv x3, rv b212, iv kk0, iv kk1, iv kk2, iv kk3, iv ct0, iv ct1, rv b240, .unset, .unset, .unset, .unset, .unset] []))
  refine own_step (fun t k => XS.aload X240.here hx rfl (hb hby at_198) rfl rfl k) ?_
  refine own_step (fun t k => XS.aload X240.here hx rfl (hb hby at_200) rfl rfl k) ?_
  refine own_step (fun t k => XS.aload X240.here hx rfl (hb hby at_202) rfl rfl k) ?_
  obtain ⟨_, _, ⟨T246, L246, k246, n246⟩, -, X246, ⟨Lc246, hQ246, l246, y246, z246⟩, st246⟩ := Jvm.LawKit.callS X240 hx (y := (⟨"com/example/stevedore/stevedore/MoveGraph", "grouped", "([I[I[I)[I"⟩ : MethodName)) hown (mvT hZ (hw _ (List.mem_of_getElem? (i := 8) rfl))) (mvT hZ (hw _ (List.mem_of_getElem? (i := 9) rfl))) (mvT hZ (hw _ (List.mem_of_getElem? (i := 10) rfl))) (mvT hZ (hw _ (List.mem_of_getElem? (i := 11) rfl))) (by decide) (backOf (W := 0) (rm3_n3 l Z a0 hw [] b212 b2 b240 x0 x1 x2 kv0 kv1 kv2 kv3 kk0 kk1 kk2 h240 n0 (Nat.le_trans Z0 K240.1) c244 c243 c245 B240 (hx0 : own_4 x0) (hx1 : own_4 x1) (hx2 : own_4 x2) (hd_kk0.symm : ([kv0, kv1, kv2, kv3].getD x0.toNatClampNeg 0) = kk0) (hd_kk1.symm : ([kv0, kv1, kv2, kv3].getD x1.toNatClampNeg 0) = kk1) (hd_kk2.symm : ([kv0, kv1, kv2, kv3].getD x2.toNatClampNeg 0) = kk2) (h30 : own_3 kk0) (h31 : own_3 kk1) (h32 : own_3 kk2) ge240 ne242 ne241) hZ (hw _ (List.mem_of_getElem? (i := 11) rfl)) (hw _ (List.mem_of_getElem? (i := 10) rfl)) (by decide) (by decide)) (g := (mkF m 204 #[iv p1, iv p2, iv p3, iv (3 : Int32), rv b2, iv x0, iv x1, iv x2, iv x3, rv b212, iv kk0, iv kk1, iv kk2, iv kk3, iv ct0, iv ct1, rv b240, .unset, .unset, .unset, .unset, .unset] [(.ref b240), (.ref b2), (.ref b212)])) rfl (by rw [hml]; rfl) (argsL := [(.ref b212), (.ref b2), (.ref b240)]) (rest := []) (lenOf pd_0_1 rfl) rfl (by show 2 * 0 + _ ≤ _; exact Nat.le_of_eq rfl) (hb hby at_204) (fun _ _ => ⟨rfl, e240, (by decide : 3 + 2 ≤ _), (by decide : 11 + 7 ≤ _)⟩)
  dsimp only [Pt.U, Pt.locs, Pt.cells, Pt.slots] at X246 l246 y246 z246 st246 hQ246
  subst y246 z246
  obtain ⟨bx246_rb, rfl, N246q, K246q, w246_0, w246_1, sx246_0⟩ := hQ246
  have c247 : own_Ari Z T246.heap b2 .int [kv0, kv1, kv2, kv3] := c243.keep K246q (ninS ne241 nin0)
  have c248 : own_Ari Z T246.heap b212 .int [x0, x1, x2] := c244.keep K246q (ninS ne242 nin0)
  have c249 : Exa Z T246.heap b240 "[I" := B240.keep K246q
  have sz246_0 : h0.size ≤ bx246_rb := Nat.le_trans K240.1 sx246_0
  have ge246_0 : n0 ≤ bx246_rb := Nat.le_trans Z0 sz246_0
  have ne251 : b2 ≠ bx246_rb := Nat.ne_of_lt (Nat.lt_of_lt_of_le c243.lt sx246_0)
  have ne252 : b212 ≠ bx246_rb := Nat.ne_of_lt (Nat.lt_of_lt_of_le c244.lt sx246_0)
  have ne253 : b240 ≠ bx246_rb := Nat.ne_of_lt (Nat.lt_of_lt_of_le B240.lt sx246_0)
  have K246 : Keep h0 T246.heap [] := K240.trans K246q (allS (Or.inr sz240) all0)
  have N246 : Fr n0 L246 := by rw [l246]; exact Fr.app N238 N246q
  refine own_step st246 ?_
  clear A240 B240 E240 K227 K240 K246q N238 N246q X238 X240 c228 c229 c243 c244 c245 e238 e240 g240 st240 st246 sx246_0
  show own_G p.tables e below _ (T246.setTop (mkF m 207 #[iv p1, iv p2, iv p3, iv (3 : Int32), rv b2, iv x0, iv x1, iv x2, iv x3, rv b212, iv kk0, iv kk1, iv kk2, iv kk3, iv ct0, iv ct1, rv b240, .unset, .unset, .unset, .unset, .unset] [(.ref bx246_rb)]))
  refine own_step (fun t k => XS.astore X246.here hx rfl (hb hby at_207) rfl rfl (l' := #[iv p1, iv p2, iv p3, iv (3 : Int32), rv b2, iv x0, iv x1, iv x2, iv x3, rv b212, iv kk0, iv kk1, iv kk2, iv kk3, iv ct0, iv ct1, rv b240, rv bx246_rb, .unset, .unset, .unset, .unset]) rfl k) ?_
  refine own_step (fun t k => XS.aload X246.here hx rfl (hb hby at_209) rfl rfl k) ?_
  refine own_step (own_lenI X246 hx hZ rfl w246_1 (g := (mkF m 211 #[iv p1, iv p2, iv p3, iv (3 : Int32), rv b2, iv x0, iv x1, iv x2, iv x3, rv b212, iv kk0, iv kk1, iv kk2, iv kk3, iv ct0, iv ct1, rv b240, rv bx246_rb, .unset, .unset, .unset, .unset] [(.ref bx246_rb)])) rfl rfl (hb hby at_211)) ?_
  show own_G p.tables e below _ (T246.setTop (mkF m 212 #[iv p1, iv p2, iv p3, iv (3 : Int32), rv b2, iv x0, iv x1, iv x2, iv x3, rv b212, iv kk0, iv kk1, iv kk2, iv kk3, iv ct0, iv ct1, rv b240, rv bx246_rb, .unset, .unset, .unset, .unset] [(.int (((([(0 : Int32), (0 : Int32), (0 : Int32)].set ((own_s3 kk0 kk1 kk2).getD kk0.toNatClampNeg 0).toNatClampNeg x0).set ((own_inc (own_s3 kk0 kk1 kk2) kk0).getD kk1.toNatClampNeg 0).toNatClampNeg x1).set ((own_inc (own_inc (own_s3 kk0 kk1 kk2) kk0) kk1).getD kk2.toNatClampNeg 0).toNatClampNeg x2).length.toInt32))]))
  rw [show (((([(0 : Int32), (0 : Int32), (0 : Int32)].set ((own_s3 kk0 kk1 kk2).getD kk0.toNatClampNeg 0).toNatClampNeg x0).set ((own_inc (own_s3 kk0 kk1 kk2) kk0).getD kk1.toNatClampNeg 0).toNatClampNeg x1).set ((own_inc (own_inc (own_s3 kk0 kk1 kk2) kk0) kk1).getD kk2.toNatClampNeg 0).toNatClampNeg x2).length.toInt32) = (3 : Int32) from by simp only [List.length_set]; rfl]
  show own_G p.tables e below _ (T246.setTop (mkF m 212 #[iv p1, iv p2, iv p3, iv (3 : Int32), rv b2, iv x0, iv x1, iv x2, iv x3, rv b212, iv kk0, iv kk1, iv kk2, iv kk3, iv ct0, iv ct1, rv b240, rv bx246_rb, .unset, .unset, .unset, .unset] [(.int (3 : Int32))]))
  refine own_step (fun t k => XS.iloadN X246.here hx rfl (hb hby at_212) rfl k) ?_
  have hk254 : (3 : Int32) = (3 : Int32) := rfl
  refine own_step (fun t k => XS.icmpYes X246.here hx rfl (pc0 := 213) (pc' := 218) rfl (hb hby at_213) rfl ((teq hk254).1) (by decide) (by decide) k) ?_
  show own_G p.tables e below _ (T246.setTop (mkF m 218 #[iv p1, iv p2, iv p3, iv (3 : Int32), rv b2, iv x0, iv x1, iv x2, iv x3, rv b212, iv kk0, iv kk1, iv kk2, iv kk3, iv ct0, iv ct1, rv b240, rv bx246_rb, .unset, .unset, .unset, .unset] []))
  refine own_step (fun t k => XS.aload X246.here hx rfl (hb hby at_218) rfl rfl k) ?_
  refine own_step (fun t k => XS.iconst X246.here hx rfl (hb hby at_220) k) ?_
  refine own_step (own_iaload X246 hx hZ rfl w246_0 (own_inb (by decide) (by rw [own_s3_len]; decide)) (g := (mkF m 221 #[iv p1, iv p2, iv p3, iv (3 : Int32), rv b2, iv x0, iv x1, iv x2, iv x3, rv b212, iv kk0, iv kk1, iv kk2, iv kk3, iv ct0, iv ct1, rv b240, rv bx246_rb, .unset, .unset, .unset, .unset] [(.int (0 : Int32)), (.ref b240)])) rfl rfl (hb hby at_221)) ?_
  have hk255 : ((own_s3 kk0 kk1 kk2).getD 0 0) = (0 : Int32) := own_a3 (kk0 := kk0) (kk1 := kk1) (kk2 := kk2) (kk3 := kk3) (ct0 := ct0) (ct1 := ct1) h30 h31 h32 hd_ct0 hd_ct1
  refine own_step (fun t k => XS.ifNo X246.here hx rfl (hb hby at_222) rfl ((if0 _ _).trans (teq hk255).2) k) ?_
  show own_G p.tables e below _ (T246.setTop (mkF m 225 #[iv p1, iv p2, iv p3, iv (3 : Int32), rv b2, iv x0, iv x1, iv x2, iv x3, rv b212, iv kk0, iv kk1, iv kk2, iv kk3, iv ct0, iv ct1, rv b240, rv bx246_rb, .unset, .unset, .unset, .unset] []))
  refine own_step (fun t k => XS.aload X246.here hx rfl (hb hby at_225) rfl rfl k) ?_
  refine own_step (fun t k => XS.iconst X246.here hx rfl (hb hby at_227) k) ?_
  refine own_step (own_iaload X246 hx hZ rfl w246_0 (own_inb (by decide) (by rw [own_s3_len]; decide)) (g := (mkF m 228 #[iv p1, iv p2, iv p3, iv (3 : Int32), rv b2, iv x0, iv x1, iv x2, iv x3, rv b212, iv kk0, iv kk1, iv kk2, iv kk3, iv ct0, iv ct1, rv b240, rv bx246_rb, .unset, .unset, .unset, .unset] [(.int (1 : Int32)), (.ref b240)])) rfl rfl (hb hby at_228)) ?_
  refine own_step (fun t k => XS.iload X246.here hx rfl (hb hby at_229) rfl k) ?_
  show own_G p.tables e below _ (T246.setTop (mkF m 231 #[iv p1, iv p2, iv p3, iv (3 : Int32), rv b2, iv x0, iv x1, iv x2, iv x3, rv b212, iv kk0, iv kk1, iv kk2, iv kk3, iv ct0, iv ct1, rv b240, rv bx246_rb, .unset, .unset, .unset, .unset] [(.int ct0), (.int ((own_s3 kk0 kk1 kk2).getD 1 0))]))
  have hk256 : ((own_s3 kk0 kk1 kk2).getD 1 0) = ct0 := own_b3 (kk0 := kk0) (kk1 := kk1) (kk2 := kk2) (kk3 := kk3) (ct0 := ct0) (ct1 := ct1) h30 h31 h32 hd_ct0 hd_ct1
  refine own_step (fun t k => XS.icmpNo X246.here hx rfl (hb hby at_231) rfl ((teq hk256).2) k) ?_
  show own_G p.tables e below _ (T246.setTop (mkF m 234 #[iv p1, iv p2, iv p3, iv (3 : Int32), rv b2, iv x0, iv x1, iv x2, iv x3, rv b212, iv kk0, iv kk1, iv kk2, iv kk3, iv ct0, iv ct1, rv b240, rv bx246_rb, .unset, .unset, .unset, .unset] []))
  refine own_step (fun t k => XS.aload X246.here hx rfl (hb hby at_234) rfl rfl k) ?_
  refine own_step (fun t k => XS.iconst X246.here hx rfl (hb hby at_236) k) ?_
  refine own_step (own_iaload X246 hx hZ rfl w246_0 (own_inb (by decide) (by rw [own_s3_len]; decide)) (g := (mkF m 237 #[iv p1, iv p2, iv p3, iv (3 : Int32), rv b2, iv x0, iv x1, iv x2, iv x3, rv b212, iv kk0, iv kk1, iv kk2, iv kk3, iv ct0, iv ct1, rv b240, rv bx246_rb, .unset, .unset, .unset, .unset] [(.int (2 : Int32)), (.ref b240)])) rfl rfl (hb hby at_237)) ?_
  refine own_step (fun t k => XS.iload X246.here hx rfl (hb hby at_238) rfl k) ?_
  show own_G p.tables e below _ (T246.setTop (mkF m 240 #[iv p1, iv p2, iv p3, iv (3 : Int32), rv b2, iv x0, iv x1, iv x2, iv x3, rv b212, iv kk0, iv kk1, iv kk2, iv kk3, iv ct0, iv ct1, rv b240, rv bx246_rb, .unset, .unset, .unset, .unset] [(.int ct0), (.int ((own_s3 kk0 kk1 kk2).getD 2 0))]))
  refine own_step (fun t k => XS.iload X246.here hx rfl (hb hby at_240) rfl k) ?_
  refine own_step (fun t k => XS.iadd X246.here hx rfl (hb hby at_242) rfl k) ?_
  have hk257 : ((own_s3 kk0 kk1 kk2).getD 2 0) = (ct0 + ct1) := own_c3 (kk0 := kk0) (kk1 := kk1) (kk2 := kk2) (kk3 := kk3) (ct0 := ct0) (ct1 := ct1) h30 h31 h32 hd_ct0 hd_ct1
  refine own_step (fun t k => XS.icmpNo X246.here hx rfl (hb hby at_243) rfl ((teq hk257).2) k) ?_
  show own_G p.tables e below _ (T246.setTop (mkF m 246 #[iv p1, iv p2, iv p3, iv (3 : Int32), rv b2, iv x0, iv x1, iv x2, iv x3, rv b212, iv kk0, iv kk1, iv kk2, iv kk3, iv ct0, iv ct1, rv b240, rv bx246_rb, .unset, .unset, .unset, .unset] []))
  refine own_step (fun t k => XS.aload X246.here hx rfl (hb hby at_246) rfl rfl k) ?_
  refine own_step (fun t k => XS.iconst X246.here hx rfl (hb hby at_248) k) ?_
  refine own_step (own_iaload X246 hx hZ rfl w246_0 (own_inb (by decide) (by rw [own_s3_len]; decide)) (g := (mkF m 249 #[iv p1, iv p2, iv p3, iv (3 : Int32), rv b2, iv x0, iv x1, iv x2, iv x3, rv b212, iv kk0, iv kk1, iv kk2, iv kk3, iv ct0, iv ct1, rv b240, rv bx246_rb, .unset, .unset, .unset, .unset] [(.int (3 : Int32)), (.ref b240)])) rfl rfl (hb hby at_249)) ?_
  refine own_step (fun t k => XS.iloadN X246.here hx rfl (hb hby at_250) rfl k) ?_
  show own_G p.tables e below _ (T246.setTop (mkF m 251 #[iv p1, iv p2, iv p3, iv (3 : Int32), rv b2, iv x0, iv x1, iv x2, iv x3, rv b212, iv kk0, iv kk1, iv kk2, iv kk3, iv ct0, iv ct1, rv b240, rv bx246_rb, .unset, .unset, .unset, .unset] [(.int (3 : Int32)), (.int ((own_s3 kk0 kk1 kk2).getD 3 0))]))
  have hk258 : ((own_s3 kk0 kk1 kk2).getD 3 0) = (3 : Int32) := own_d3 (kk0 := kk0) (kk1 := kk1) (kk2 := kk2) (kk3 := kk3) (ct0 := ct0) (ct1 := ct1) h30 h31 h32 hd_ct0 hd_ct1
  refine own_step (fun t k => XS.icmpYes X246.here hx rfl (pc0 := 251) (pc' := 256) rfl (hb hby at_251) rfl ((teq hk258).1) (by decide) (by decide) k) ?_
  show own_G p.tables e below _ (T246.setTop (mkF m 256 #[iv p1, iv p2, iv p3, iv (3 : Int32), rv b2, iv x0, iv x1, iv x2, iv x3, rv b212, iv kk0, iv kk1, iv kk2, iv kk3, iv ct0, iv ct1, rv b240, rv bx246_rb, .unset, .unset, .unset, .unset] []))
  refine own_step (fun t k => XS.iload X246.here hx rfl (hb hby at_256) rfl k) ?_
  refine own_step (fun t k => XS.iload X246.here hx rfl (hb hby at_258) rfl k) ?_
  refine own_step (fun t k => XS.iload X246.here hx rfl (hb hby at_260) rfl k) ?_
  refine own_step (fun t k => XS.iloadN X246.here hx rfl (hb hby at_262) rfl k) ?_
  show own_G p.tables e below _ (T246.setTop (mkF m 263 #[iv p1, iv p2, iv p3, iv (3 : Int32), rv b2, iv x0, iv x1, iv x2, iv x3, rv b212, iv kk0, iv kk1, iv kk2, iv kk3, iv ct0, iv ct1, rv b240, rv bx246_rb, .unset, .unset, .unset, .unset] [(.int (3 : Int32)), (.int ct1), (.int ct0), (.int kk0)]))
  obtain ⟨_, _, ⟨T259, L259, k259, n259⟩, -, X259, ⟨Lc259, hQ259, l259, y259, z259⟩, st259⟩ := Jvm.LawKit.callS X246 hx (y := (⟨"com/example/stevedore/stevedore/MoveGraphGroupedPinLaw", "se", "(IIII)I"⟩ : MethodName)) hown (mvT hZ (hw _ (List.mem_of_getElem? (i := 21) rfl))) (mvT hZ (hw _ (List.mem_of_getElem? (i := 22) rfl))) (mvT hZ (hw _ (List.mem_of_getElem? (i := 3) rfl))) (mvT hZ (hw _ (List.mem_of_getElem? (i := 23) rfl))) (by decide) (backOf (W := 0) (rm4 l Z a0 hw [] kk0 ct0 ct1 (3 : Int32) T246.heap n0 (Nat.le_trans Z0 K246.1) ) hZ (hw _ (List.mem_of_getElem? (i := 23) rfl)) (hw _ (List.mem_of_getElem? (i := 3) rfl)) (by decide) (by decide)) (g := (mkF m 263 #[iv p1, iv p2, iv p3, iv (3 : Int32), rv b2, iv x0, iv x1, iv x2, iv x3, rv b212, iv kk0, iv kk1, iv kk2, iv kk3, iv ct0, iv ct1, rv b240, rv bx246_rb, .unset, .unset, .unset, .unset] [(.int (3 : Int32)), (.int ct1), (.int ct0), (.int kk0)])) rfl (by rw [hml]; rfl) (argsL := [(.int kk0), (.int ct0), (.int ct1), (.int (3 : Int32))]) (rest := []) (lenOf pd_0_2 rfl) rfl (by show 2 * 0 + _ ≤ _; exact Nat.le_of_eq rfl) (hb hby at_263) (fun _ _ => ⟨rfl, rfl, (by decide : 5 + 0 ≤ _), (by decide : 18 + 0 ≤ _)⟩)
  dsimp only [Pt.U, Pt.locs, Pt.cells, Pt.slots] at X259 l259 y259 z259 st259 hQ259
  subst y259 z259
  obtain ⟨rfl, N259q, e259⟩ := hQ259
  have N259 : Fr n0 L259 := by rw [l259]; exact Fr.app N246 N259q
  refine own_step st259 ?_
  refine own_nm ((own_f4 kk0 ct0 ct1 (3 : Int32)) : Int32) (fun pp0 => T259.setTop (mkF m 266 #[iv p1, iv p2, iv p3, iv (3 : Int32), rv b2, iv x0, iv x1, iv x2, iv x3, rv b212, iv kk0, iv kk1, iv kk2, iv kk3, iv ct0, iv ct1, rv b240, rv bx246_rb, .unset, .unset, .unset, .unset] [(.int pp0)])) ?_
  intro pp0 hd_pp0
  show own_G p.tables e below _ (T259.setTop (mkF m 266 #[iv p1, iv p2, iv p3, iv (3 : Int32), rv b2, iv x0, iv x1, iv x2, iv x3, rv b212, iv kk0, iv kk1, iv kk2, iv kk3, iv ct0, iv ct1, rv b240, rv bx246_rb, .unset, .unset, .unset, .unset] [(.int pp0)]))
  refine own_step (fun t k => XS.istore X259.here hx rfl (hb hby at_266) rfl (l' := #[iv p1, iv p2, iv p3, iv (3 : Int32), rv b2, iv x0, iv x1, iv x2, iv x3, rv b212, iv kk0, iv kk1, iv kk2, iv kk3, iv ct0, iv ct1, rv b240, rv bx246_rb, iv pp0, .unset, .unset, .unset]) rfl k) ?_
  refine own_step (fun t k => XS.iload X259.here hx rfl (hb hby at_268) rfl k) ?_
  refine own_step (fun t k => XS.iload X259.here hx rfl (hb hby at_270) rfl k) ?_
  refine own_step (fun t k => XS.iload X259.here hx rfl (hb hby at_272) rfl k) ?_
  show own_G p.tables e below _ (T259.setTop (mkF m 274 #[iv p1, iv p2, iv p3, iv (3 : Int32), rv b2, iv x0, iv x1, iv x2, iv x3, rv b212, iv kk0, iv kk1, iv kk2, iv kk3, iv ct0, iv ct1, rv b240, rv bx246_rb, iv pp0, .unset, .unset, .unset] [(.int ct1), (.int ct0), (.int kk1)]))
  refine own_step (fun t k => XS.iloadN X259.here hx rfl (hb hby at_274) rfl k) ?_
  obtain ⟨_, _, ⟨T261, L261, k261, n261⟩, -, X261, ⟨Lc261, hQ261, l261, y261, z261⟩, st261⟩ := Jvm.LawKit.callS X259 hx (y := (⟨"com/example/stevedore/stevedore/MoveGraphGroupedPinLaw", "se", "(IIII)I"⟩ : MethodName)) hown (mvT hZ (hw _ (List.mem_of_getElem? (i := 21) rfl))) (mvT hZ (hw _ (List.mem_of_getElem? (i := 22) rfl))) (mvT hZ (hw _ (List.mem_of_getElem? (i := 3) rfl))) (mvT hZ (hw _ (List.mem_of_getElem? (i := 23) rfl))) (by decide) (backOf (W := 0) (rm4 l Z a0 hw [] kk1 ct0 ct1 (3 : Int32) T246.heap n0 (Nat.le_trans Z0 K246.1) ) hZ (hw _ (List.mem_of_getElem? (i := 23) rfl)) (hw _ (List.mem_of_getElem? (i := 3) rfl)) (by decide) (by decide)) (g := (mkF m 275 #[iv p1, iv p2, iv p3, iv (3 : Int32), rv b2, iv x0, iv x1, iv x2, iv x3, rv b212, iv kk0, iv kk1, iv kk2, iv kk3, iv ct0, iv ct1, rv b240, rv bx246_rb, iv pp0, .unset, .unset, .unset] [(.int (3 : Int32)), (.int ct1), (.int ct0), (.int kk1)])) rfl (by rw [hml]; rfl) (argsL := [(.int kk1), (.int ct0), (.int ct1), (.int (3 : Int32))]) (rest := []) (lenOf pd_0_2 rfl) rfl (by show 2 * 0 + _ ≤ _; exact Nat.le_of_eq rfl) (hb hby at_275) (fun _ _ => ⟨rfl, e259, (by decide : 5 + 0 ≤ _), (by decide : 18 + 0 ≤ _)⟩)
  dsimp only [Pt.U, Pt.locs, Pt.cells, Pt.slots] at X261 l261 y261 z261 st261 hQ261
  subst y261 z261
  obtain ⟨rfl, N261q, e261⟩ := hQ261
  have N261 : Fr n0 L261 := by rw [l261]; exact Fr.app N259 N261q
  refine own_step st261 ?_
  refine own_step (fun t k => XS.iload X261.here hx rfl (hb hby at_278) rfl k) ?_
  refine own_step (fun t k => XS.iload X261.here hx rfl (hb hby at_280) rfl k) ?_
  clear N246 N259 N259q N261q X246 X259 e259 hk254 hk255 hk256 hk257 hk258 st259 st261
  show own_G p.tables e below _ (T261.setTop (mkF m 282 #[iv p1, iv p2, iv p3, iv (3 : Int32), rv b2, iv x0, iv x1, iv x2, iv x3, rv b212, iv kk0, iv kk1, iv kk2, iv kk3, iv ct0, iv ct1, rv b240, rv bx246_rb, iv pp0, .unset, .unset, .unset] [(.int kk1), (.int kk0), (.int (own_f4 kk1 ct0 ct1 (3 : Int32)))]))
  refine own_imp (B := T261.setTop (mkF m 290 #[iv p1, iv p2, iv p3, iv (3 : Int32), rv b2, iv x0, iv x1, iv x2, iv x3, rv b212, iv kk0, iv kk1, iv kk2, iv kk3, iv ct0, iv ct1, rv b240, rv bx246_rb, iv pp0, .unset, .unset, .unset] [(.int (if kk0 = kk1 then (1 : Int32) else (0 : Int32))), (.int (own_f4 kk1 ct0 ct1 (3 : Int32)))])) (fun k0 => ?_) ?_
  · by_cases hc262 : kk0 = kk1
    · simp only [if_pos hc262] at k0
      refine own_step (fun t k => XS.icmpNo X261.here hx rfl (hb hby at_282) rfl ((teq hc262).2) k) ?_
      show own_G p.tables e below _ (T261.setTop (mkF m 285 #[iv p1, iv p2, iv p3, iv (3 : Int32), rv b2, iv x0, iv x1, iv x2, iv x3, rv b212, iv kk0, iv kk1, iv kk2, iv kk3, iv ct0, iv ct1, rv b240, rv bx246_rb, iv pp0, .unset, .unset, .unset] [(.int (own_f4 kk1 ct0 ct1 (3 : Int32)))]))
      refine own_step (fun t k => XS.iconst X261.here hx rfl (hb hby at_285) k) ?_
      refine own_step (fun t k => XS.goto X261.here hx rfl (pc0 := 286) (pc' := 290) rfl (hb hby at_286) (by decide) (by decide) k) ?_
      exact k0
    · simp only [if_neg hc262] at k0
      refine own_step (fun t k => XS.icmpYes X261.here hx rfl (pc0 := 282) (pc' := 289) rfl (hb hby at_282) rfl ((feq hc262).2) (by decide) (by decide) k) ?_
      show own_G p.tables e below _ (T261.setTop (mkF m 289 #[iv p1, iv p2, iv p3, iv (3 : Int32), rv b2, iv x0, iv x1, iv x2, iv x3, rv b212, iv kk0, iv kk1, iv kk2, iv kk3, iv ct0, iv ct1, rv b240, rv bx246_rb, iv pp0, .unset, .unset, .unset] [(.int (own_f4 kk1 ct0 ct1 (3 : Int32)))]))
      refine own_step (fun t k => XS.iconst X261.here hx rfl (hb hby at_289) k) ?_
      exact k0
  show own_G p.tables e below _ (T261.setTop (mkF m 290 #[iv p1, iv p2, iv p3, iv (3 : Int32), rv b2, iv x0, iv x1, iv x2, iv x3, rv b212, iv kk0, iv kk1, iv kk2, iv kk3, iv ct0, iv ct1, rv b240, rv bx246_rb, iv pp0, .unset, .unset, .unset] [(.int (if kk0 = kk1 then (1 : Int32) else (0 : Int32))), (.int (own_f4 kk1 ct0 ct1 (3 : Int32)))]))
  obtain ⟨_, _, ⟨T263, L263, k263, n263⟩, -, X263, ⟨Lc263, hQ263, l263, y263, z263⟩, st263⟩ := Jvm.LawKit.callS X261 hx (y := (⟨"com/example/stevedore/stevedore/MoveGraphGroupedPinLaw", "one", "(Z)I"⟩ : MethodName)) hown (mvT hZ (hw _ (List.mem_of_getElem? (i := 5) rfl))) (mvT hZ (hw _ (List.mem_of_getElem? (i := 6) rfl))) (mvT hZ (hw _ (List.mem_of_getElem? (i := 3) rfl))) (mvT hZ (hw _ (List.mem_of_getElem? (i := 7) rfl))) (by decide) (backOf (W := 1) (rm2 l Z a0 hw [] (if kk0 = kk1 then (1 : Int32) else (0 : Int32)) T246.heap n0 (Nat.le_trans Z0 K246.1) ) hZ (hw _ (List.mem_of_getElem? (i := 7) rfl)) (hw _ (List.mem_of_getElem? (i := 3) rfl)) (by decide) (by decide)) (g := (mkF m 290 #[iv p1, iv p2, iv p3, iv (3 : Int32), rv b2, iv x0, iv x1, iv x2, iv x3, rv b212, iv kk0, iv kk1, iv kk2, iv kk3, iv ct0, iv ct1, rv b240, rv bx246_rb, iv pp0, .unset, .unset, .unset] [(.int (if kk0 = kk1 then (1 : Int32) else (0 : Int32))), (.int (own_f4 kk1 ct0 ct1 (3 : Int32)))])) rfl (by rw [hml]; rfl) (argsL := [(.int (if kk0 = kk1 then (1 : Int32) else (0 : Int32)))]) (rest := [(.int (own_f4 kk1 ct0 ct1 (3 : Int32)))]) (lenOf pd_0_3 rfl) rfl (by show 2 * 0 + _ ≤ _; exact Nat.le_of_eq rfl) (hb hby at_290) (fun _ _ => ⟨rfl, e261, (by decide : 5 + 0 ≤ _), (by decide : 18 + 0 ≤ _)⟩)
  dsimp only [Pt.U, Pt.locs, Pt.cells, Pt.slots] at X263 l263 y263 z263 st263 hQ263
  subst y263 z263
  obtain ⟨rfl, N263q, e263⟩ := hQ263
  have N263 : Fr n0 L263 := by rw [l263]; exact Fr.app N261 N263q
  refine own_step st263 ?_
  refine own_step (fun t k => XS.iadd X263.here hx rfl (hb hby at_293) rfl k) ?_
  refine own_nm (((own_f4 kk1 ct0 ct1 (3 : Int32)) + (own_f2 (if kk0 = kk1 then (1 : Int32) else (0 : Int32)))) : Int32) (fun pp1 => T263.setTop (mkF m 294 #[iv p1, iv p2, iv p3, iv (3 : Int32), rv b2, iv x0, iv x1, iv x2, iv x3, rv b212, iv kk0, iv kk1, iv kk2, iv kk3, iv ct0, iv ct1, rv b240, rv bx246_rb, iv pp0, .unset, .unset, .unset] [(.int pp1)])) ?_
  intro pp1 hd_pp1
  show own_G p.tables e below _ (T263.setTop (mkF m 294 #[iv p1, iv p2, iv p3, iv (3 : Int32), rv b2, iv x0, iv x1, iv x2, iv x3, rv b212, iv kk0, iv kk1, iv kk2, iv kk3, iv ct0, iv ct1, rv b240, rv bx246_rb, iv pp0, .unset, .unset, .unset] [(.int pp1)]))
  refine own_step (fun t k => XS.istore X263.here hx rfl (hb hby at_294) rfl (l' := #[iv p1, iv p2, iv p3, iv (3 : Int32), rv b2, iv x0, iv x1, iv x2, iv x3, rv b212, iv kk0, iv kk1, iv kk2, iv kk3, iv ct0, iv ct1, rv b240, rv bx246_rb, iv pp0, iv pp1, .unset, .unset]) rfl k) ?_
  refine own_step (fun t k => XS.iload X263.here hx rfl (hb hby at_296) rfl k) ?_
  refine own_step (fun t k => XS.iload X263.here hx rfl (hb hby at_298) rfl k) ?_
  refine own_step (fun t k => XS.iload X263.here hx rfl (hb hby at_300) rfl k) ?_
  show own_G p.tables e below _ (T263.setTop (mkF m 302 #[iv p1, iv p2, iv p3, iv (3 : Int32), rv b2, iv x0, iv x1, iv x2, iv x3, rv b212, iv kk0, iv kk1, iv kk2, iv kk3, iv ct0, iv ct1, rv b240, rv bx246_rb, iv pp0, iv pp1, .unset, .unset] [(.int ct1), (.int ct0), (.int kk2)]))
  refine own_step (fun t k => XS.iloadN X263.here hx rfl (hb hby at_302) rfl k) ?_
  obtain ⟨_, _, ⟨T265, L265, k265, n265⟩, -, X265, ⟨Lc265, hQ265, l265, y265, z265⟩, st265⟩ := Jvm.LawKit.callS X263 hx (y := (⟨"com/example/stevedore/stevedore/MoveGraphGroupedPinLaw", "se", "(IIII)I"⟩ : MethodName)) hown (mvT hZ (hw _ (List.mem_of_getElem? (i := 21) rfl))) (mvT hZ (hw _ (List.mem_of_getElem? (i := 22) rfl))) (mvT hZ (hw _ (List.mem_of_getElem? (i := 3) rfl))) (mvT hZ (hw _ (List.mem_of_getElem? (i := 23) rfl))) (by decide) (backOf (W := 0) (rm4 l Z a0 hw [] kk2 ct0 ct1 (3 : Int32) T246.heap n0 (Nat.le_trans Z0 K246.1) ) hZ (hw _ (List.mem_of_getElem? (i := 23) rfl)) (hw _ (List.mem_of_getElem? (i := 3) rfl)) (by decide) (by decide)) (g := (mkF m 303 #[iv p1, iv p2, iv p3, iv (3 : Int32), rv b2, iv x0, iv x1, iv x2, iv x3, rv b212, iv kk0, iv kk1, iv kk2, iv kk3, iv ct0, iv ct1, rv b240, rv bx246_rb, iv pp0, iv pp1, .unset, .unset] [(.int (3 : Int32)), (.int ct1), (.int ct0), (.int kk2)])) rfl (by rw [hml]; rfl) (argsL := [(.int kk2), (.int ct0), (.int ct1), (.int (3 : Int32))]) (rest := []) (lenOf pd_0_2 rfl) rfl (by show 2 * 0 + _ ≤ _; exact Nat.le_of_eq rfl) (hb hby at_303) (fun _ _ => ⟨rfl, e263, (by decide : 5 + 0 ≤ _), (by decide : 18 + 0 ≤ _)⟩)
  dsimp only [Pt.U, Pt.locs, Pt.cells, Pt.slots] at X265 l265 y265 z265 st265 hQ265
  subst y265 z265
  obtain ⟨rfl, N265q, e265⟩ := hQ265
  have N265 : Fr n0 L265 := by rw [l265]; exact Fr.app N263 N265q
  refine own_step st265 ?_
  refine own_step (fun t k => XS.iload X265.here hx rfl (hb hby at_306) rfl k) ?_
  refine own_step (fun t k => XS.iload X265.here hx rfl (hb hby at_308) rfl k) ?_
  clear N261 N263 N263q N265q X261 X263 e261 e263 st263 st265
  show own_G p.tables e below _ (T265.setTop (mkF m 310 #[iv p1, iv p2, iv p3, iv (3 : Int32), rv b2, iv x0, iv x1, iv x2, iv x3, rv b212, iv kk0, iv kk1, iv kk2, iv kk3, iv ct0, iv ct1, rv b240, rv bx246_rb, iv pp0, iv pp1, .unset, .unset] [(.int kk2), (.int kk0), (.int (own_f4 kk2 ct0 ct1 (3 : Int32)))]))
  refine own_imp (B := T265.setTop (mkF m 318 #[iv p1, iv p2, iv p3, iv (3 : Int32), rv b2, iv x0, iv x1, iv x2, iv x3, rv b212, iv kk0, iv kk1, iv kk2, iv kk3, iv ct0, iv ct1, rv b240, rv bx246_rb, iv pp0, iv pp1, .unset, .unset] [(.int (if kk0 = kk2 then (1 : Int32) else (0 : Int32))), (.int (own_f4 kk2 ct0 ct1 (3 : Int32)))])) (fun k0 => ?_) ?_
  · by_cases hc266 : kk0 = kk2
    · simp only [if_pos hc266] at k0
      refine own_step (fun t k => XS.icmpNo X265.here hx rfl (hb hby at_310) rfl ((teq hc266).2) k) ?_
      show own_G p.tables e below _ (T265.setTop (mkF m 313 #[iv p1, iv p2, iv p3, iv (3 : Int32), rv b2, iv x0, iv x1, iv x2, iv x3, rv b212, iv kk0, iv kk1, iv kk2, iv kk3, iv ct0, iv ct1, rv b240, rv bx246_rb, iv pp0, iv pp1, .unset, .unset] [(.int (own_f4 kk2 ct0 ct1 (3 : Int32)))]))
      refine own_step (fun t k => XS.iconst X265.here hx rfl (hb hby at_313) k) ?_
      refine own_step (fun t k => XS.goto X265.here hx rfl (pc0 := 314) (pc' := 318) rfl (hb hby at_314) (by decide) (by decide) k) ?_
      exact k0
    · simp only [if_neg hc266] at k0
      refine own_step (fun t k => XS.icmpYes X265.here hx rfl (pc0 := 310) (pc' := 317) rfl (hb hby at_310) rfl ((feq hc266).2) (by decide) (by decide) k) ?_
      show own_G p.tables e below _ (T265.setTop (mkF m 317 #[iv p1, iv p2, iv p3, iv (3 : Int32), rv b2, iv x0, iv x1, iv x2, iv x3, rv b212, iv kk0, iv kk1, iv kk2, iv kk3, iv ct0, iv ct1, rv b240, rv bx246_rb, iv pp0, iv pp1, .unset, .unset] [(.int (own_f4 kk2 ct0 ct1 (3 : Int32)))]))
      refine own_step (fun t k => XS.iconst X265.here hx rfl (hb hby at_317) k) ?_
      exact k0
  show own_G p.tables e below _ (T265.setTop (mkF m 318 #[iv p1, iv p2, iv p3, iv (3 : Int32), rv b2, iv x0, iv x1, iv x2, iv x3, rv b212, iv kk0, iv kk1, iv kk2, iv kk3, iv ct0, iv ct1, rv b240, rv bx246_rb, iv pp0, iv pp1, .unset, .unset] [(.int (if kk0 = kk2 then (1 : Int32) else (0 : Int32))), (.int (own_f4 kk2 ct0 ct1 (3 : Int32)))]))
  obtain ⟨_, _, ⟨T267, L267, k267, n267⟩, -, X267, ⟨Lc267, hQ267, l267, y267, z267⟩, st267⟩ := Jvm.LawKit.callS X265 hx (y := (⟨"com/example/stevedore/stevedore/MoveGraphGroupedPinLaw", "one", "(Z)I"⟩ : MethodName)) hown (mvT hZ (hw _ (List.mem_of_getElem? (i := 5) rfl))) (mvT hZ (hw _ (List.mem_of_getElem? (i := 6) rfl))) (mvT hZ (hw _ (List.mem_of_getElem? (i := 3) rfl))) (mvT hZ (hw _ (List.mem_of_getElem? (i := 7) rfl))) (by decide) (backOf (W := 1) (rm2 l Z a0 hw [] (if kk0 = kk2 then (1 : Int32) else (0 : Int32)) T246.heap n0 (Nat.le_trans Z0 K246.1) ) hZ (hw _ (List.mem_of_getElem? (i := 7) rfl)) (hw _ (List.mem_of_getElem? (i := 3) rfl)) (by decide) (by decide)) (g := (mkF m 318 #[iv p1, iv p2, iv p3, iv (3 : Int32), rv b2, iv x0, iv x1, iv x2, iv x3, rv b212, iv kk0, iv kk1, iv kk2, iv kk3, iv ct0, iv ct1, rv b240, rv bx246_rb, iv pp0, iv pp1, .unset, .unset] [(.int (if kk0 = kk2 then (1 : Int32) else (0 : Int32))), (.int (own_f4 kk2 ct0 ct1 (3 : Int32)))])) rfl (by rw [hml]; rfl) (argsL := [(.int (if kk0 = kk2 then (1 : Int32) else (0 : Int32)))]) (rest := [(.int (own_f4 kk2 ct0 ct1 (3 : Int32)))]) (lenOf pd_0_3 rfl) rfl (by show 2 * 0 + _ ≤ _; exact Nat.le_of_eq rfl) (hb hby at_318) (fun _ _ => ⟨rfl, e265, (by decide : 5 + 0 ≤ _), (by decide : 18 + 0 ≤ _)⟩)
  dsimp only [Pt.U, Pt.locs, Pt.cells, Pt.slots] at X267 l267 y267 z267 st267 hQ267
  subst y267 z267
  obtain ⟨rfl, N267q, e267⟩ := hQ267
  have N267 : Fr n0 L267 := by rw [l267]; exact Fr.app N265 N267q
  refine own_step st267 ?_
  refine own_step (fun t k => XS.iadd X267.here hx rfl (hb hby at_321) rfl k) ?_
  refine own_step (fun t k => XS.iload X267.here hx rfl (hb hby at_322) rfl k) ?_
  refine own_step (fun t k => XS.iload X267.here hx rfl (hb hby at_324) rfl k) ?_
  show own_G p.tables e below _ (T267.setTop (mkF m 326 #[iv p1, iv p2, iv p3, iv (3 : Int32), rv b2, iv x0, iv x1, iv x2, iv x3, rv b212, iv kk0, iv kk1, iv kk2, iv kk3, iv ct0, iv ct1, rv b240, rv bx246_rb, iv pp0, iv pp1, .unset, .unset] [(.int kk2), (.int kk1), (.int ((own_f4 kk2 ct0 ct1 (3 : Int32)) + (own_f2 (if kk0 = kk2 then (1 : Int32) else (0 : Int32)))))]))
  refine own_imp (B := T267.setTop (mkF m 334 #[iv p1, iv p2, iv p3, iv (3 : Int32), rv b2, iv x0, iv x1, iv x2, iv x3, rv b212, iv kk0, iv kk1, iv kk2, iv kk3, iv ct0, iv ct1, rv b240, rv bx246_rb, iv pp0, iv pp1, .unset, .unset] [(.int (if kk1 = kk2 then (1 : Int32) else (0 : Int32))), (.int ((own_f4 kk2 ct0 ct1 (3 : Int32)) + (own_f2 (if kk0 = kk2 then (1 : Int32) else (0 : Int32)))))])) (fun k0 => ?_) ?_
  · by_cases hc268 : kk1 = kk2
    · simp only [if_pos hc268] at k0
      refine own_step (fun t k => XS.icmpNo X267.here hx rfl (hb hby at_326) rfl ((teq hc268).2) k) ?_
      show own_G p.tables e below _ (T267.setTop (mkF m 329 #[iv p1, iv p2, iv p3, iv (3 : Int32), rv b2, iv x0, iv x1, iv x2, iv x3, rv b212, iv kk0, iv kk1, iv kk2, iv kk3, iv ct0, iv ct1, rv b240, rv bx246_rb, iv pp0, iv pp1, .unset, .unset] [(.int ((own_f4 kk2 ct0 ct1 (3 : Int32)) + (own_f2 (if kk0 = kk2 then (1 : Int32) else (0 : Int32)))))]))
      refine own_step (fun t k => XS.iconst X267.here hx rfl (hb hby at_329) k) ?_
      refine own_step (fun t k => XS.goto X267.here hx rfl (pc0 := 330) (pc' := 334) rfl (hb hby at_330) (by decide) (by decide) k) ?_
      exact k0
    · simp only [if_neg hc268] at k0
      refine own_step (fun t k => XS.icmpYes X267.here hx rfl (pc0 := 326) (pc' := 333) rfl (hb hby at_326) rfl ((feq hc268).2) (by decide) (by decide) k) ?_
      show own_G p.tables e below _ (T267.setTop (mkF m 333 #[iv p1, iv p2, iv p3, iv (3 : Int32), rv b2, iv x0, iv x1, iv x2, iv x3, rv b212, iv kk0, iv kk1, iv kk2, iv kk3, iv ct0, iv ct1, rv b240, rv bx246_rb, iv pp0, iv pp1, .unset, .unset] [(.int ((own_f4 kk2 ct0 ct1 (3 : Int32)) + (own_f2 (if kk0 = kk2 then (1 : Int32) else (0 : Int32)))))]))
      refine own_step (fun t k => XS.iconst X267.here hx rfl (hb hby at_333) k) ?_
      exact k0
  show own_G p.tables e below _ (T267.setTop (mkF m 334 #[iv p1, iv p2, iv p3, iv (3 : Int32), rv b2, iv x0, iv x1, iv x2, iv x3, rv b212, iv kk0, iv kk1, iv kk2, iv kk3, iv ct0, iv ct1, rv b240, rv bx246_rb, iv pp0, iv pp1, .unset, .unset] [(.int (if kk1 = kk2 then (1 : Int32) else (0 : Int32))), (.int ((own_f4 kk2 ct0 ct1 (3 : Int32)) + (own_f2 (if kk0 = kk2 then (1 : Int32) else (0 : Int32)))))]))
  obtain ⟨_, _, ⟨T269, L269, k269, n269⟩, -, X269, ⟨Lc269, hQ269, l269, y269, z269⟩, st269⟩ := Jvm.LawKit.callS X267 hx (y := (⟨"com/example/stevedore/stevedore/MoveGraphGroupedPinLaw", "one", "(Z)I"⟩ : MethodName)) hown (mvT hZ (hw _ (List.mem_of_getElem? (i := 5) rfl))) (mvT hZ (hw _ (List.mem_of_getElem? (i := 6) rfl))) (mvT hZ (hw _ (List.mem_of_getElem? (i := 3) rfl))) (mvT hZ (hw _ (List.mem_of_getElem? (i := 7) rfl))) (by decide) (backOf (W := 1) (rm2 l Z a0 hw [] (if kk1 = kk2 then (1 : Int32) else (0 : Int32)) T246.heap n0 (Nat.le_trans Z0 K246.1) ) hZ (hw _ (List.mem_of_getElem? (i := 7) rfl)) (hw _ (List.mem_of_getElem? (i := 3) rfl)) (by decide) (by decide)) (g := (mkF m 334 #[iv p1, iv p2, iv p3, iv (3 : Int32), rv b2, iv x0, iv x1, iv x2, iv x3, rv b212, iv kk0, iv kk1, iv kk2, iv kk3, iv ct0, iv ct1, rv b240, rv bx246_rb, iv pp0, iv pp1, .unset, .unset] [(.int (if kk1 = kk2 then (1 : Int32) else (0 : Int32))), (.int ((own_f4 kk2 ct0 ct1 (3 : Int32)) + (own_f2 (if kk0 = kk2 then (1 : Int32) else (0 : Int32)))))])) rfl (by rw [hml]; rfl) (argsL := [(.int (if kk1 = kk2 then (1 : Int32) else (0 : Int32)))]) (rest := [(.int ((own_f4 kk2 ct0 ct1 (3 : Int32)) + (own_f2 (if kk0 = kk2 then (1 : Int32) else (0 : Int32)))))]) (lenOf pd_0_3 rfl) rfl (by show 2 * 0 + _ ≤ _; exact Nat.le_of_eq rfl) (hb hby at_334) (fun _ _ => ⟨rfl, e267, (by decide : 5 + 0 ≤ _), (by decide : 18 + 0 ≤ _)⟩)
  dsimp only [Pt.U, Pt.locs, Pt.cells, Pt.slots] at X269 l269 y269 z269 st269 hQ269
  subst y269 z269
  obtain ⟨rfl, N269q, e269⟩ := hQ269
  have N269 : Fr n0 L269 := by rw [l269]; exact Fr.app N267 N269q
  refine own_step st269 ?_
  refine own_step (fun t k => XS.iadd X269.here hx rfl (hb hby at_337) rfl k) ?_
  refine own_nm ((((own_f4 kk2 ct0 ct1 (3 : Int32)) + (own_f2 (if kk0 = kk2 then (1 : Int32) else (0 : Int32)))) + (own_f2 (if kk1 = kk2 then (1 : Int32) else (0 : Int32)))) : Int32) (fun pp2 => T269.setTop (mkF m 338 #[iv p1, iv p2, iv p3, iv (3 : Int32), rv b2, iv x0, iv x1, iv x2, iv x3, rv b212, iv kk0, iv kk1, iv kk2, iv kk3, iv ct0, iv ct1, rv b240, rv bx246_rb, iv pp0, iv pp1, .unset, .unset] [(.int pp2)])) ?_
  intro pp2 hd_pp2
  clear N265 N267 N267q N269q X265 X267 e265 e267 st267 st269
  show own_G p.tables e below _ (T269.setTop (mkF m 338 #[iv p1, iv p2, iv p3, iv (3 : Int32), rv b2, iv x0, iv x1, iv x2, iv x3, rv b212, iv kk0, iv kk1, iv kk2, iv kk3, iv ct0, iv ct1, rv b240, rv bx246_rb, iv pp0, iv pp1, .unset, .unset] [(.int pp2)]))
  refine own_step (fun t k => XS.istore X269.here hx rfl (hb hby at_338) rfl (l' := #[iv p1, iv p2, iv p3, iv (3 : Int32), rv b2, iv x0, iv x1, iv x2, iv x3, rv b212, iv kk0, iv kk1, iv kk2, iv kk3, iv ct0, iv ct1, rv b240, rv bx246_rb, iv pp0, iv pp1, iv pp2, .unset]) rfl k) ?_
  refine own_step (fun t k => XS.iload X269.here hx rfl (hb hby at_340) rfl k) ?_
  refine own_step (fun t k => XS.iload X269.here hx rfl (hb hby at_342) rfl k) ?_
  refine own_step (fun t k => XS.iload X269.here hx rfl (hb hby at_344) rfl k) ?_
  show own_G p.tables e below _ (T269.setTop (mkF m 346 #[iv p1, iv p2, iv p3, iv (3 : Int32), rv b2, iv x0, iv x1, iv x2, iv x3, rv b212, iv kk0, iv kk1, iv kk2, iv kk3, iv ct0, iv ct1, rv b240, rv bx246_rb, iv pp0, iv pp1, iv pp2, .unset] [(.int ct1), (.int ct0), (.int kk3)]))
  refine own_step (fun t k => XS.iloadN X269.here hx rfl (hb hby at_346) rfl k) ?_
  obtain ⟨_, _, ⟨T271, L271, k271, n271⟩, -, X271, ⟨Lc271, hQ271, l271, y271, z271⟩, st271⟩ := Jvm.LawKit.callS X269 hx (y := (⟨"com/example/stevedore/stevedore/MoveGraphGroupedPinLaw", "se", "(IIII)I"⟩ : MethodName)) hown (mvT hZ (hw _ (List.mem_of_getElem? (i := 21) rfl))) (mvT hZ (hw _ (List.mem_of_getElem? (i := 22) rfl))) (mvT hZ (hw _ (List.mem_of_getElem? (i := 3) rfl))) (mvT hZ (hw _ (List.mem_of_getElem? (i := 23) rfl))) (by decide) (backOf (W := 0) (rm4 l Z a0 hw [] kk3 ct0 ct1 (3 : Int32) T246.heap n0 (Nat.le_trans Z0 K246.1) ) hZ (hw _ (List.mem_of_getElem? (i := 23) rfl)) (hw _ (List.mem_of_getElem? (i := 3) rfl)) (by decide) (by decide)) (g := (mkF m 347 #[iv p1, iv p2, iv p3, iv (3 : Int32), rv b2, iv x0, iv x1, iv x2, iv x3, rv b212, iv kk0, iv kk1, iv kk2, iv kk3, iv ct0, iv ct1, rv b240, rv bx246_rb, iv pp0, iv pp1, iv pp2, .unset] [(.int (3 : Int32)), (.int ct1), (.int ct0), (.int kk3)])) rfl (by rw [hml]; rfl) (argsL := [(.int kk3), (.int ct0), (.int ct1), (.int (3 : Int32))]) (rest := []) (lenOf pd_0_2 rfl) rfl (by show 2 * 0 + _ ≤ _; exact Nat.le_of_eq rfl) (hb hby at_347) (fun _ _ => ⟨rfl, e269, (by decide : 5 + 0 ≤ _), (by decide : 18 + 0 ≤ _)⟩)
  dsimp only [Pt.U, Pt.locs, Pt.cells, Pt.slots] at X271 l271 y271 z271 st271 hQ271
  subst y271 z271
  obtain ⟨rfl, N271q, e271⟩ := hQ271
  have N271 : Fr n0 L271 := by rw [l271]; exact Fr.app N269 N271q
  refine own_step st271 ?_
  refine own_step (fun t k => XS.iload X271.here hx rfl (hb hby at_350) rfl k) ?_
  refine own_step (fun t k => XS.iload X271.here hx rfl (hb hby at_352) rfl k) ?_
  show own_G p.tables e below _ (T271.setTop (mkF m 354 #[iv p1, iv p2, iv p3, iv (3 : Int32), rv b2, iv x0, iv x1, iv x2, iv x3, rv b212, iv kk0, iv kk1, iv kk2, iv kk3, iv ct0, iv ct1, rv b240, rv bx246_rb, iv pp0, iv pp1, iv pp2, .unset] [(.int kk3), (.int kk0), (.int (own_f4 kk3 ct0 ct1 (3 : Int32)))]))
  refine own_imp (B := T271.setTop (mkF m 362 #[iv p1, iv p2, iv p3, iv (3 : Int32), rv b2, iv x0, iv x1, iv x2, iv x3, rv b212, iv kk0, iv kk1, iv kk2, iv kk3, iv ct0, iv ct1, rv b240, rv bx246_rb, iv pp0, iv pp1, iv pp2, .unset] [(.int (if kk0 = kk3 then (1 : Int32) else (0 : Int32))), (.int (own_f4 kk3 ct0 ct1 (3 : Int32)))])) (fun k0 => ?_) ?_
  · by_cases hc272 : kk0 = kk3
    · simp only [if_pos hc272] at k0
      refine own_step (fun t k => XS.icmpNo X271.here hx rfl (hb hby at_354) rfl ((teq hc272).2) k) ?_
      show own_G p.tables e below _ (T271.setTop (mkF m 357 #[iv p1, iv p2, iv p3, iv (3 : Int32), rv b2, iv x0, iv x1, iv x2, iv x3, rv b212, iv kk0, iv kk1, iv kk2, iv kk3, iv ct0, iv ct1, rv b240, rv bx246_rb, iv pp0, iv pp1, iv pp2, .unset] [(.int (own_f4 kk3 ct0 ct1 (3 : Int32)))]))
      refine own_step (fun t k => XS.iconst X271.here hx rfl (hb hby at_357) k) ?_
      refine own_step (fun t k => XS.goto X271.here hx rfl (pc0 := 358) (pc' := 362) rfl (hb hby at_358) (by decide) (by decide) k) ?_
      exact k0
    · simp only [if_neg hc272] at k0
      refine own_step (fun t k => XS.icmpYes X271.here hx rfl (pc0 := 354) (pc' := 361) rfl (hb hby at_354) rfl ((feq hc272).2) (by decide) (by decide) k) ?_
      show own_G p.tables e below _ (T271.setTop (mkF m 361 #[iv p1, iv p2, iv p3, iv (3 : Int32), rv b2, iv x0, iv x1, iv x2, iv x3, rv b212, iv kk0, iv kk1, iv kk2, iv kk3, iv ct0, iv ct1, rv b240, rv bx246_rb, iv pp0, iv pp1, iv pp2, .unset] [(.int (own_f4 kk3 ct0 ct1 (3 : Int32)))]))
      refine own_step (fun t k => XS.iconst X271.here hx rfl (hb hby at_361) k) ?_
      exact k0
  show own_G p.tables e below _ (T271.setTop (mkF m 362 #[iv p1, iv p2, iv p3, iv (3 : Int32), rv b2, iv x0, iv x1, iv x2, iv x3, rv b212, iv kk0, iv kk1, iv kk2, iv kk3, iv ct0, iv ct1, rv b240, rv bx246_rb, iv pp0, iv pp1, iv pp2, .unset] [(.int (if kk0 = kk3 then (1 : Int32) else (0 : Int32))), (.int (own_f4 kk3 ct0 ct1 (3 : Int32)))]))
  obtain ⟨_, _, ⟨T273, L273, k273, n273⟩, -, X273, ⟨Lc273, hQ273, l273, y273, z273⟩, st273⟩ := Jvm.LawKit.callS X271 hx (y := (⟨"com/example/stevedore/stevedore/MoveGraphGroupedPinLaw", "one", "(Z)I"⟩ : MethodName)) hown (mvT hZ (hw _ (List.mem_of_getElem? (i := 5) rfl))) (mvT hZ (hw _ (List.mem_of_getElem? (i := 6) rfl))) (mvT hZ (hw _ (List.mem_of_getElem? (i := 3) rfl))) (mvT hZ (hw _ (List.mem_of_getElem? (i := 7) rfl))) (by decide) (backOf (W := 1) (rm2 l Z a0 hw [] (if kk0 = kk3 then (1 : Int32) else (0 : Int32)) T246.heap n0 (Nat.le_trans Z0 K246.1) ) hZ (hw _ (List.mem_of_getElem? (i := 7) rfl)) (hw _ (List.mem_of_getElem? (i := 3) rfl)) (by decide) (by decide)) (g := (mkF m 362 #[iv p1, iv p2, iv p3, iv (3 : Int32), rv b2, iv x0, iv x1, iv x2, iv x3, rv b212, iv kk0, iv kk1, iv kk2, iv kk3, iv ct0, iv ct1, rv b240, rv bx246_rb, iv pp0, iv pp1, iv pp2, .unset] [(.int (if kk0 = kk3 then (1 : Int32) else (0 : Int32))), (.int (own_f4 kk3 ct0 ct1 (3 : Int32)))])) rfl (by rw [hml]; rfl) (argsL := [(.int (if kk0 = kk3 then (1 : Int32) else (0 : Int32)))]) (rest := [(.int (own_f4 kk3 ct0 ct1 (3 : Int32)))]) (lenOf pd_0_3 rfl) rfl (by show 2 * 0 + _ ≤ _; exact Nat.le_of_eq rfl) (hb hby at_362) (fun _ _ => ⟨rfl, e271, (by decide : 5 + 0 ≤ _), (by decide : 18 + 0 ≤ _)⟩)
  dsimp only [Pt.U, Pt.locs, Pt.cells, Pt.slots] at X273 l273 y273 z273 st273 hQ273
  subst y273 z273
  obtain ⟨rfl, N273q, e273⟩ := hQ273
  have N273 : Fr n0 L273 := by rw [l273]; exact Fr.app N271 N273q
  refine own_step st273 ?_
  refine own_step (fun t k => XS.iadd X273.here hx rfl (hb hby at_365) rfl k) ?_
  refine own_step (fun t k => XS.iload X273.here hx rfl (hb hby at_366) rfl k) ?_
  refine own_step (fun t k => XS.iload X273.here hx rfl (hb hby at_368) rfl k) ?_
  clear N269 N271 N271q N273q X269 X271 e269 e271 st271 st273
  show own_G p.tables e below _ (T273.setTop (mkF m 370 #[iv p1, iv p2, iv p3, iv (3 : Int32), rv b2, iv x0, iv x1, iv x2, iv x3, rv b212, iv kk0, iv kk1, iv kk2, iv kk3, iv ct0, iv ct1, rv b240, rv bx246_rb, iv pp0, iv pp1, iv pp2, .unset] [(.int kk3), (.int kk1), (.int ((own_f4 kk3 ct0 ct1 (3 : Int32)) + (own_f2 (if kk0 = kk3 then (1 : Int32) else (0 : Int32)))))]))
  refine own_imp (B := T273.setTop (mkF m 378 #[iv p1, iv p2, iv p3, iv (3 : Int32), rv b2, iv x0, iv x1, iv x2, iv x3, rv b212, iv kk0, iv kk1, iv kk2, iv kk3, iv ct0, iv ct1, rv b240, rv bx246_rb, iv pp0, iv pp1, iv pp2, .unset] [(.int (if kk1 = kk3 then (1 : Int32) else (0 : Int32))), (.int ((own_f4 kk3 ct0 ct1 (3 : Int32)) + (own_f2 (if kk0 = kk3 then (1 : Int32) else (0 : Int32)))))])) (fun k0 => ?_) ?_
  · by_cases hc274 : kk1 = kk3
    · simp only [if_pos hc274] at k0
      refine own_step (fun t k => XS.icmpNo X273.here hx rfl (hb hby at_370) rfl ((teq hc274).2) k) ?_
      show own_G p.tables e below _ (T273.setTop (mkF m 373 #[iv p1, iv p2, iv p3, iv (3 : Int32), rv b2, iv x0, iv x1, iv x2, iv x3, rv b212, iv kk0, iv kk1, iv kk2, iv kk3, iv ct0, iv ct1, rv b240, rv bx246_rb, iv pp0, iv pp1, iv pp2, .unset] [(.int ((own_f4 kk3 ct0 ct1 (3 : Int32)) + (own_f2 (if kk0 = kk3 then (1 : Int32) else (0 : Int32)))))]))
      refine own_step (fun t k => XS.iconst X273.here hx rfl (hb hby at_373) k) ?_
      refine own_step (fun t k => XS.goto X273.here hx rfl (pc0 := 374) (pc' := 378) rfl (hb hby at_374) (by decide) (by decide) k) ?_
      exact k0
    · simp only [if_neg hc274] at k0
      refine own_step (fun t k => XS.icmpYes X273.here hx rfl (pc0 := 370) (pc' := 377) rfl (hb hby at_370) rfl ((feq hc274).2) (by decide) (by decide) k) ?_
      show own_G p.tables e below _ (T273.setTop (mkF m 377 #[iv p1, iv p2, iv p3, iv (3 : Int32), rv b2, iv x0, iv x1, iv x2, iv x3, rv b212, iv kk0, iv kk1, iv kk2, iv kk3, iv ct0, iv ct1, rv b240, rv bx246_rb, iv pp0, iv pp1, iv pp2, .unset] [(.int ((own_f4 kk3 ct0 ct1 (3 : Int32)) + (own_f2 (if kk0 = kk3 then (1 : Int32) else (0 : Int32)))))]))
      refine own_step (fun t k => XS.iconst X273.here hx rfl (hb hby at_377) k) ?_
      exact k0
  show own_G p.tables e below _ (T273.setTop (mkF m 378 #[iv p1, iv p2, iv p3, iv (3 : Int32), rv b2, iv x0, iv x1, iv x2, iv x3, rv b212, iv kk0, iv kk1, iv kk2, iv kk3, iv ct0, iv ct1, rv b240, rv bx246_rb, iv pp0, iv pp1, iv pp2, .unset] [(.int (if kk1 = kk3 then (1 : Int32) else (0 : Int32))), (.int ((own_f4 kk3 ct0 ct1 (3 : Int32)) + (own_f2 (if kk0 = kk3 then (1 : Int32) else (0 : Int32)))))]))
  obtain ⟨_, _, ⟨T275, L275, k275, n275⟩, -, X275, ⟨Lc275, hQ275, l275, y275, z275⟩, st275⟩ := Jvm.LawKit.callS X273 hx (y := (⟨"com/example/stevedore/stevedore/MoveGraphGroupedPinLaw", "one", "(Z)I"⟩ : MethodName)) hown (mvT hZ (hw _ (List.mem_of_getElem? (i := 5) rfl))) (mvT hZ (hw _ (List.mem_of_getElem? (i := 6) rfl))) (mvT hZ (hw _ (List.mem_of_getElem? (i := 3) rfl))) (mvT hZ (hw _ (List.mem_of_getElem? (i := 7) rfl))) (by decide) (backOf (W := 1) (rm2 l Z a0 hw [] (if kk1 = kk3 then (1 : Int32) else (0 : Int32)) T246.heap n0 (Nat.le_trans Z0 K246.1) ) hZ (hw _ (List.mem_of_getElem? (i := 7) rfl)) (hw _ (List.mem_of_getElem? (i := 3) rfl)) (by decide) (by decide)) (g := (mkF m 378 #[iv p1, iv p2, iv p3, iv (3 : Int32), rv b2, iv x0, iv x1, iv x2, iv x3, rv b212, iv kk0, iv kk1, iv kk2, iv kk3, iv ct0, iv ct1, rv b240, rv bx246_rb, iv pp0, iv pp1, iv pp2, .unset] [(.int (if kk1 = kk3 then (1 : Int32) else (0 : Int32))), (.int ((own_f4 kk3 ct0 ct1 (3 : Int32)) + (own_f2 (if kk0 = kk3 then (1 : Int32) else (0 : Int32)))))])) rfl (by rw [hml]; rfl) (argsL := [(.int (if kk1 = kk3 then (1 : Int32) else (0 : Int32)))]) (rest := [(.int ((own_f4 kk3 ct0 ct1 (3 : Int32)) + (own_f2 (if kk0 = kk3 then (1 : Int32) else (0 : Int32)))))]) (lenOf pd_0_3 rfl) rfl (by show 2 * 0 + _ ≤ _; exact Nat.le_of_eq rfl) (hb hby at_378) (fun _ _ => ⟨rfl, e273, (by decide : 5 + 0 ≤ _), (by decide : 18 + 0 ≤ _)⟩)
  dsimp only [Pt.U, Pt.locs, Pt.cells, Pt.slots] at X275 l275 y275 z275 st275 hQ275
  subst y275 z275
  obtain ⟨rfl, N275q, e275⟩ := hQ275
  have N275 : Fr n0 L275 := by rw [l275]; exact Fr.app N273 N275q
  refine own_step st275 ?_
  refine own_step (fun t k => XS.iadd X275.here hx rfl (hb hby at_381) rfl k) ?_
  refine own_step (fun t k => XS.iload X275.here hx rfl (hb hby at_382) rfl k) ?_
  refine own_step (fun t k => XS.iload X275.here hx rfl (hb hby at_384) rfl k) ?_
  show own_G p.tables e below _ (T275.setTop (mkF m 386 #[iv p1, iv p2, iv p3, iv (3 : Int32), rv b2, iv x0, iv x1, iv x2, iv x3, rv b212, iv kk0, iv kk1, iv kk2, iv kk3, iv ct0, iv ct1, rv b240, rv bx246_rb, iv pp0, iv pp1, iv pp2, .unset] [(.int kk3), (.int kk2), (.int (((own_f4 kk3 ct0 ct1 (3 : Int32)) + (own_f2 (if kk0 = kk3 then (1 : Int32) else (0 : Int32)))) + (own_f2 (if kk1 = kk3 then (1 : Int32) else (0 : Int32)))))]))
  refine own_imp (B := T275.setTop (mkF m 394 #[iv p1, iv p2, iv p3, iv (3 : Int32), rv b2, iv x0, iv x1, iv x2, iv x3, rv b212, iv kk0, iv kk1, iv kk2, iv kk3, iv ct0, iv ct1, rv b240, rv bx246_rb, iv pp0, iv pp1, iv pp2, .unset] [(.int (if kk2 = kk3 then (1 : Int32) else (0 : Int32))), (.int (((own_f4 kk3 ct0 ct1 (3 : Int32)) + (own_f2 (if kk0 = kk3 then (1 : Int32) else (0 : Int32)))) + (own_f2 (if kk1 = kk3 then (1 : Int32) else (0 : Int32)))))])) (fun k0 => ?_) ?_
  · by_cases hc276 : kk2 = kk3
    · simp only [if_pos hc276] at k0
      refine own_step (fun t k => XS.icmpNo X275.here hx rfl (hb hby at_386) rfl ((teq hc276).2) k) ?_
      show own_G p.tables e below _ (T275.setTop (mkF m 389 #[iv p1, iv p2, iv p3, iv (3 : Int32), rv b2, iv x0, iv x1, iv x2, iv x3, rv b212, iv kk0, iv kk1, iv kk2, iv kk3, iv ct0, iv ct1, rv b240, rv bx246_rb, iv pp0, iv pp1, iv pp2, .unset] [(.int (((own_f4 kk3 ct0 ct1 (3 : Int32)) + (own_f2 (if kk0 = kk3 then (1 : Int32) else (0 : Int32)))) + (own_f2 (if kk1 = kk3 then (1 : Int32) else (0 : Int32)))))]))
      refine own_step (fun t k => XS.iconst X275.here hx rfl (hb hby at_389) k) ?_
      refine own_step (fun t k => XS.goto X275.here hx rfl (pc0 := 390) (pc' := 394) rfl (hb hby at_390) (by decide) (by decide) k) ?_
      exact k0
    · simp only [if_neg hc276] at k0
      refine own_step (fun t k => XS.icmpYes X275.here hx rfl (pc0 := 386) (pc' := 393) rfl (hb hby at_386) rfl ((feq hc276).2) (by decide) (by decide) k) ?_
      show own_G p.tables e below _ (T275.setTop (mkF m 393 #[iv p1, iv p2, iv p3, iv (3 : Int32), rv b2, iv x0, iv x1, iv x2, iv x3, rv b212, iv kk0, iv kk1, iv kk2, iv kk3, iv ct0, iv ct1, rv b240, rv bx246_rb, iv pp0, iv pp1, iv pp2, .unset] [(.int (((own_f4 kk3 ct0 ct1 (3 : Int32)) + (own_f2 (if kk0 = kk3 then (1 : Int32) else (0 : Int32)))) + (own_f2 (if kk1 = kk3 then (1 : Int32) else (0 : Int32)))))]))
      refine own_step (fun t k => XS.iconst X275.here hx rfl (hb hby at_393) k) ?_
      exact k0
  show own_G p.tables e below _ (T275.setTop (mkF m 394 #[iv p1, iv p2, iv p3, iv (3 : Int32), rv b2, iv x0, iv x1, iv x2, iv x3, rv b212, iv kk0, iv kk1, iv kk2, iv kk3, iv ct0, iv ct1, rv b240, rv bx246_rb, iv pp0, iv pp1, iv pp2, .unset] [(.int (if kk2 = kk3 then (1 : Int32) else (0 : Int32))), (.int (((own_f4 kk3 ct0 ct1 (3 : Int32)) + (own_f2 (if kk0 = kk3 then (1 : Int32) else (0 : Int32)))) + (own_f2 (if kk1 = kk3 then (1 : Int32) else (0 : Int32)))))]))
  obtain ⟨_, _, ⟨T277, L277, k277, n277⟩, -, X277, ⟨Lc277, hQ277, l277, y277, z277⟩, st277⟩ := Jvm.LawKit.callS X275 hx (y := (⟨"com/example/stevedore/stevedore/MoveGraphGroupedPinLaw", "one", "(Z)I"⟩ : MethodName)) hown (mvT hZ (hw _ (List.mem_of_getElem? (i := 5) rfl))) (mvT hZ (hw _ (List.mem_of_getElem? (i := 6) rfl))) (mvT hZ (hw _ (List.mem_of_getElem? (i := 3) rfl))) (mvT hZ (hw _ (List.mem_of_getElem? (i := 7) rfl))) (by decide) (backOf (W := 1) (rm2 l Z a0 hw [] (if kk2 = kk3 then (1 : Int32) else (0 : Int32)) T246.heap n0 (Nat.le_trans Z0 K246.1) ) hZ (hw _ (List.mem_of_getElem? (i := 7) rfl)) (hw _ (List.mem_of_getElem? (i := 3) rfl)) (by decide) (by decide)) (g := (mkF m 394 #[iv p1, iv p2, iv p3, iv (3 : Int32), rv b2, iv x0, iv x1, iv x2, iv x3, rv b212, iv kk0, iv kk1, iv kk2, iv kk3, iv ct0, iv ct1, rv b240, rv bx246_rb, iv pp0, iv pp1, iv pp2, .unset] [(.int (if kk2 = kk3 then (1 : Int32) else (0 : Int32))), (.int (((own_f4 kk3 ct0 ct1 (3 : Int32)) + (own_f2 (if kk0 = kk3 then (1 : Int32) else (0 : Int32)))) + (own_f2 (if kk1 = kk3 then (1 : Int32) else (0 : Int32)))))])) rfl (by rw [hml]; rfl) (argsL := [(.int (if kk2 = kk3 then (1 : Int32) else (0 : Int32)))]) (rest := [(.int (((own_f4 kk3 ct0 ct1 (3 : Int32)) + (own_f2 (if kk0 = kk3 then (1 : Int32) else (0 : Int32)))) + (own_f2 (if kk1 = kk3 then (1 : Int32) else (0 : Int32)))))]) (lenOf pd_0_3 rfl) rfl (by show 2 * 0 + _ ≤ _; exact Nat.le_of_eq rfl) (hb hby at_394) (fun _ _ => ⟨rfl, e275, (by decide : 5 + 0 ≤ _), (by decide : 18 + 0 ≤ _)⟩)
  dsimp only [Pt.U, Pt.locs, Pt.cells, Pt.slots] at X277 l277 y277 z277 st277 hQ277
  subst y277 z277
  obtain ⟨rfl, N277q, e277⟩ := hQ277
  have N277 : Fr n0 L277 := by rw [l277]; exact Fr.app N275 N277q
  refine own_step st277 ?_
  refine own_step (fun t k => XS.iadd X277.here hx rfl (hb hby at_397) rfl k) ?_
  refine own_nm (((((own_f4 kk3 ct0 ct1 (3 : Int32)) + (own_f2 (if kk0 = kk3 then (1 : Int32) else (0 : Int32)))) + (own_f2 (if kk1 = kk3 then (1 : Int32) else (0 : Int32)))) + (own_f2 (if kk2 = kk3 then (1 : Int32) else (0 : Int32)))) : Int32) (fun pp3 => T277.setTop (mkF m 398 #[iv p1, iv p2, iv p3, iv (3 : Int32), rv b2, iv x0, iv x1, iv x2, iv x3, rv b212, iv kk0, iv kk1, iv kk2, iv kk3, iv ct0, iv ct1, rv b240, rv bx246_rb, iv pp0, iv pp1, iv pp2, .unset] [(.int pp3)])) ?_
  intro pp3 hd_pp3
  clear N273 N275 N275q N277q X273 X275 e273 e275 st275 st277
  show own_G p.tables e below _ (T277.setTop (mkF m 398 #[iv p1, iv p2, iv p3, iv (3 : Int32), rv b2, iv x0, iv x1, iv x2, iv x3, rv b212, iv kk0, iv kk1, iv kk2, iv kk3, iv ct0, iv ct1, rv b240, rv bx246_rb, iv pp0, iv pp1, iv pp2, .unset] [(.int pp3)]))
  refine own_step (fun t k => XS.istore X277.here hx rfl (hb hby at_398) rfl (l' := #[iv p1, iv p2, iv p3, iv (3 : Int32), rv b2, iv x0, iv x1, iv x2, iv x3, rv b212, iv kk0, iv kk1, iv kk2, iv kk3, iv ct0, iv ct1, rv b240, rv bx246_rb, iv pp0, iv pp1, iv pp2, iv pp3]) rfl k) ?_
  refine own_step (fun t k => XS.iloadN X277.here hx rfl (hb hby at_400) rfl k) ?_
  have hk279 : (0 : Int32) < (3 : Int32) := (by decide)
  refine own_step (fun t k => XS.ifNo X277.here hx rfl (hb hby at_401) rfl ((if0 _ _).trans (tlt hk279).2.2.2) k) ?_
  show own_G p.tables e below _ (T277.setTop (mkF m 404 #[iv p1, iv p2, iv p3, iv (3 : Int32), rv b2, iv x0, iv x1, iv x2, iv x3, rv b212, iv kk0, iv kk1, iv kk2, iv kk3, iv ct0, iv ct1, rv b240, rv bx246_rb, iv pp0, iv pp1, iv pp2, iv pp3] []))
  refine own_step (fun t k => XS.aload X277.here hx rfl (hb hby at_404) rfl rfl k) ?_
  refine own_step (fun t k => XS.iload X277.here hx rfl (hb hby at_406) rfl k) ?_
  refine own_step (own_iaload X277 hx hZ e277 w246_1 (own_setL (by simp only [List.length_set]; rfl) (own_pb3_0 (kk0 := kk0) (kk1 := kk1) (kk2 := kk2) (kk3 := kk3) h30 h31 h32 hd_ct0 hd_ct1 hd_pp0)) (g := (mkF m 408 #[iv p1, iv p2, iv p3, iv (3 : Int32), rv b2, iv x0, iv x1, iv x2, iv x3, rv b212, iv kk0, iv kk1, iv kk2, iv kk3, iv ct0, iv ct1, rv b240, rv bx246_rb, iv pp0, iv pp1, iv pp2, iv pp3] [(.int pp0), (.ref bx246_rb)])) rfl rfl (hb hby at_408)) ?_
  refine own_step (fun t k => XS.iload X277.here hx rfl (hb hby at_409) rfl k) ?_
  show own_G p.tables e below _ (T277.setTop (mkF m 411 #[iv p1, iv p2, iv p3, iv (3 : Int32), rv b2, iv x0, iv x1, iv x2, iv x3, rv b212, iv kk0, iv kk1, iv kk2, iv kk3, iv ct0, iv ct1, rv b240, rv bx246_rb, iv pp0, iv pp1, iv pp2, iv pp3] [(.int x0), (.int (((([(0 : Int32), (0 : Int32), (0 : Int32)].set ((own_s3 kk0 kk1 kk2).getD kk0.toNatClampNeg 0).toNatClampNeg x0).set ((own_inc (own_s3 kk0 kk1 kk2) kk0).getD kk1.toNatClampNeg 0).toNatClampNeg x1).set ((own_inc (own_inc (own_s3 kk0 kk1 kk2) kk0) kk1).getD kk2.toNatClampNeg 0).toNatClampNeg x2).getD pp0.toNatClampNeg 0))]))
  have hk280 : (((([(0 : Int32), (0 : Int32), (0 : Int32)].set ((own_s3 kk0 kk1 kk2).getD kk0.toNatClampNeg 0).toNatClampNeg x0).set ((own_inc (own_s3 kk0 kk1 kk2) kk0).getD kk1.toNatClampNeg 0).toNatClampNeg x1).set ((own_inc (own_inc (own_s3 kk0 kk1 kk2) kk0) kk1).getD kk2.toNatClampNeg 0).toNatClampNeg x2).getD pp0.toNatClampNeg 0) = x0 := own_g3_0 (kk0 := kk0) (kk1 := kk1) (kk2 := kk2) (kk3 := kk3) (x0 := x0) (x1 := x1) (x2 := x2) (x3 := x3) h30 h31 h32 hd_ct0 hd_ct1 hd_pp0
  refine own_step (fun t k => XS.icmpYes X277.here hx rfl (pc0 := 411) (pc' := 416) rfl (hb hby at_411) rfl ((teq hk280).1) (by decide) (by decide) k) ?_
  show own_G p.tables e below _ (T277.setTop (mkF m 416 #[iv p1, iv p2, iv p3, iv (3 : Int32), rv b2, iv x0, iv x1, iv x2, iv x3, rv b212, iv kk0, iv kk1, iv kk2, iv kk3, iv ct0, iv ct1, rv b240, rv bx246_rb, iv pp0, iv pp1, iv pp2, iv pp3] []))
  refine own_step (fun t k => XS.iloadN X277.here hx rfl (hb hby at_416) rfl k) ?_
  refine own_step (fun t k => XS.iconst X277.here hx rfl (hb hby at_417) k) ?_
  have hk281 : (1 : Int32) < (3 : Int32) := (by decide)
  refine own_step (fun t k => XS.icmpNo X277.here hx rfl (hb hby at_418) rfl ((tlt hk281).2.2.2) k) ?_
  show own_G p.tables e below _ (T277.setTop (mkF m 421 #[iv p1, iv p2, iv p3, iv (3 : Int32), rv b2, iv x0, iv x1, iv x2, iv x3, rv b212, iv kk0, iv kk1, iv kk2, iv kk3, iv ct0, iv ct1, rv b240, rv bx246_rb, iv pp0, iv pp1, iv pp2, iv pp3] []))
  refine own_step (fun t k => XS.aload X277.here hx rfl (hb hby at_421) rfl rfl k) ?_
  refine own_step (fun t k => XS.iload X277.here hx rfl (hb hby at_423) rfl k) ?_
  refine own_step (own_iaload X277 hx hZ e277 w246_1 (own_setL (by simp only [List.length_set]; rfl) (own_pb3_1 (kk0 := kk0) (kk1 := kk1) (kk2 := kk2) (kk3 := kk3) h30 h31 h32 hd_ct0 hd_ct1 hd_pp1)) (g := (mkF m 425 #[iv p1, iv p2, iv p3, iv (3 : Int32), rv b2, iv x0, iv x1, iv x2, iv x3, rv b212, iv kk0, iv kk1, iv kk2, iv kk3, iv ct0, iv ct1, rv b240, rv bx246_rb, iv pp0, iv pp1, iv pp2, iv pp3] [(.int pp1), (.ref bx246_rb)])) rfl rfl (hb hby at_425)) ?_
  refine own_step (fun t k => XS.iload X277.here hx rfl (hb hby at_426) rfl k) ?_
  show own_G p.tables e below _ (T277.setTop (mkF m 428 #[iv p1, iv p2, iv p3, iv (3 : Int32), rv b2, iv x0, iv x1, iv x2, iv x3, rv b212, iv kk0, iv kk1, iv kk2, iv kk3, iv ct0, iv ct1, rv b240, rv bx246_rb, iv pp0, iv pp1, iv pp2, iv pp3] [(.int x1), (.int (((([(0 : Int32), (0 : Int32), (0 : Int32)].set ((own_s3 kk0 kk1 kk2).getD kk0.toNatClampNeg 0).toNatClampNeg x0).set ((own_inc (own_s3 kk0 kk1 kk2) kk0).getD kk1.toNatClampNeg 0).toNatClampNeg x1).set ((own_inc (own_inc (own_s3 kk0 kk1 kk2) kk0) kk1).getD kk2.toNatClampNeg 0).toNatClampNeg x2).getD pp1.toNatClampNeg 0))]))
  have hk282 : (((([(0 : Int32), (0 : Int32), (0 : Int32)].set ((own_s3 kk0 kk1 kk2).getD kk0.toNatClampNeg 0).toNatClampNeg x0).set ((own_inc (own_s3 kk0 kk1 kk2) kk0).getD kk1.toNatClampNeg 0).toNatClampNeg x1).set ((own_inc (own_inc (own_s3 kk0 kk1 kk2) kk0) kk1).getD kk2.toNatClampNeg 0).toNatClampNeg x2).getD pp1.toNatClampNeg 0) = x1 := own_g3_1 (kk0 := kk0) (kk1 := kk1) (kk2 := kk2) (kk3 := kk3) (x0 := x0) (x1 := x1) (x2 := x2) (x3 := x3) h30 h31 h32 hd_ct0 hd_ct1 hd_pp1
  refine own_step (fun t k => XS.icmpYes X277.here hx rfl (pc0 := 428) (pc' := 433) rfl (hb hby at_428) rfl ((teq hk282).1) (by decide) (by decide) k) ?_
  show own_G p.tables e below _ (T277.setTop (mkF m 433 #[iv p1, iv p2, iv p3, iv (3 : Int32), rv b2, iv x0, iv x1, iv x2, iv x3, rv b212, iv kk0, iv kk1, iv kk2, iv kk3, iv ct0, iv ct1, rv b240, rv bx246_rb, iv pp0, iv pp1, iv pp2, iv pp3] []))
  refine own_step (fun t k => XS.iloadN X277.here hx rfl (hb hby at_433) rfl k) ?_
  refine own_step (fun t k => XS.iconst X277.here hx rfl (hb hby at_434) k) ?_
  have hk283 : (2 : Int32) < (3 : Int32) := (by decide)
  refine own_step (fun t k => XS.icmpNo X277.here hx rfl (hb hby at_435) rfl ((tlt hk283).2.2.2) k) ?_
  show own_G p.tables e below _ (T277.setTop (mkF m 438 #[iv p1, iv p2, iv p3, iv (3 : Int32), rv b2, iv x0, iv x1, iv x2, iv x3, rv b212, iv kk0, iv kk1, iv kk2, iv kk3, iv ct0, iv ct1, rv b240, rv bx246_rb, iv pp0, iv pp1, iv pp2, iv pp3] []))
  refine own_step (fun t k => XS.aload X277.here hx rfl (hb hby at_438) rfl rfl k) ?_
  refine own_step (fun t k => XS.iload X277.here hx rfl (hb hby at_440) rfl k) ?_
  refine own_step (own_iaload X277 hx hZ e277 w246_1 (own_setL (by simp only [List.length_set]; rfl) (own_pb3_2 (kk0 := kk0) (kk1 := kk1) (kk2 := kk2) (kk3 := kk3) h30 h31 h32 hd_ct0 hd_ct1 hd_pp2)) (g := (mkF m 442 #[iv p1, iv p2, iv p3, iv (3 : Int32), rv b2, iv x0, iv x1, iv x2, iv x3, rv b212, iv kk0, iv kk1, iv kk2, iv kk3, iv ct0, iv ct1, rv b240, rv bx246_rb, iv pp0, iv pp1, iv pp2, iv pp3] [(.int pp2), (.ref bx246_rb)])) rfl rfl (hb hby at_442)) ?_
  refine own_step (fun t k => XS.iload X277.here hx rfl (hb hby at_443) rfl k) ?_
  show own_G p.tables e below _ (T277.setTop (mkF m 445 #[iv p1, iv p2, iv p3, iv (3 : Int32), rv b2, iv x0, iv x1, iv x2, iv x3, rv b212, iv kk0, iv kk1, iv kk2, iv kk3, iv ct0, iv ct1, rv b240, rv bx246_rb, iv pp0, iv pp1, iv pp2, iv pp3] [(.int x2), (.int (((([(0 : Int32), (0 : Int32), (0 : Int32)].set ((own_s3 kk0 kk1 kk2).getD kk0.toNatClampNeg 0).toNatClampNeg x0).set ((own_inc (own_s3 kk0 kk1 kk2) kk0).getD kk1.toNatClampNeg 0).toNatClampNeg x1).set ((own_inc (own_inc (own_s3 kk0 kk1 kk2) kk0) kk1).getD kk2.toNatClampNeg 0).toNatClampNeg x2).getD pp2.toNatClampNeg 0))]))
  have hk284 : (((([(0 : Int32), (0 : Int32), (0 : Int32)].set ((own_s3 kk0 kk1 kk2).getD kk0.toNatClampNeg 0).toNatClampNeg x0).set ((own_inc (own_s3 kk0 kk1 kk2) kk0).getD kk1.toNatClampNeg 0).toNatClampNeg x1).set ((own_inc (own_inc (own_s3 kk0 kk1 kk2) kk0) kk1).getD kk2.toNatClampNeg 0).toNatClampNeg x2).getD pp2.toNatClampNeg 0) = x2 := own_g3_2 (kk0 := kk0) (kk1 := kk1) (kk2 := kk2) (kk3 := kk3) (x0 := x0) (x1 := x1) (x2 := x2) (x3 := x3) h30 h31 h32 hd_ct0 hd_ct1 hd_pp2
  refine own_step (fun t k => XS.icmpYes X277.here hx rfl (pc0 := 445) (pc' := 450) rfl (hb hby at_445) rfl ((teq hk284).1) (by decide) (by decide) k) ?_
  show own_G p.tables e below _ (T277.setTop (mkF m 450 #[iv p1, iv p2, iv p3, iv (3 : Int32), rv b2, iv x0, iv x1, iv x2, iv x3, rv b212, iv kk0, iv kk1, iv kk2, iv kk3, iv ct0, iv ct1, rv b240, rv bx246_rb, iv pp0, iv pp1, iv pp2, iv pp3] []))
  refine own_step (fun t k => XS.iloadN X277.here hx rfl (hb hby at_450) rfl k) ?_
  refine own_step (fun t k => XS.iconst X277.here hx rfl (hb hby at_451) k) ?_
  have hk285 : ¬ ((3 : Int32) < (3 : Int32)) := (by decide)
  refine own_step (fun t k => XS.icmpYes X277.here hx rfl (pc0 := 452) (pc' := 467) rfl (hb hby at_452) rfl ((flt hk285).2.2.2) (by decide) (by decide) k) ?_
  show own_G p.tables e below _ (T277.setTop (mkF m 467 #[iv p1, iv p2, iv p3, iv (3 : Int32), rv b2, iv x0, iv x1, iv x2, iv x3, rv b212, iv kk0, iv kk1, iv kk2, iv kk3, iv ct0, iv ct1, rv b240, rv bx246_rb, iv pp0, iv pp1, iv pp2, iv pp3] []))
  refine own_step (fun t k => XS.iconst X277.here hx rfl (hb hby at_467) k) ?_
  obtain ⟨fs, hr, hrun, hended, hW, hsame⟩ := X277.leave (v := some (.int (1 : Int32))) (fun h => by rw [hret] at h; cases h) hlocks
  refine own_done (retN X277 hx (t := .boolean) hret (by simp) (hb hby at_468) hr) hrun hended (hP _ _ ⟨_, _, rfl, ?_, ⟨_, rfl⟩, hW, hsame.mono (by decide) (by decide)⟩)
  show Q0 Z p1 p2 p3 h0 n0 _ T277.heap _
  rw [e277]
  exact ⟨rfl, N277⟩
set_option maxRecDepth 65536 in
set_option maxHeartbeats 40000000 in
theorem rm0_c4 (l : Launch) (Z : State) (a0 : Array Value) (hw : ∀ d ∈ tables_1, d.before a0 Z = true) (p1 : Int32) (p2 : Int32) (p3 : Int32) (h0 : Heap) (n0 : Nat) (Z0 : n0 ≤ h0.size) {p : Program} {e : Env} {s : State} {m : MethodId} {below : List Frame} {meth : Method} {c : Code} {T13 : State} {lc : List Loc} {P : Outcome → State → Prop} {h13 : Heap} {b2 : Addr} {kv0 : Int32} {kv1 : Int32} {kv2 : Int32} {kv3 : Int32} {x0 : Int32} {x1 : Int32} {x2 : Int32} {x3 : Int32} (hx : p.tables.exec = Jvm.exec) (hby : c.code = code) (hml : c.maxLocals = 22) (hown : s.vm.findClass "com/example/stevedore/stevedore/MoveGraphGroupedPinLaw" = some m.cls) (hZ : Z.Warmed39 s.vm) (hlocks : meth.locks = false) (hret : meth.sig.returnType = some .boolean) (X13 : Stand p l e room_1 s m #[(.int p1), (.int p2), (.int p3)] below meth c T13 lc 1 4) (e13 : T13.heap = h13) (N13 : Fr n0 lc) (K13 : Keep h0 h13 []) (c14 : own_Ari Z h13 b2 .int [kv0, kv1, kv2, kv3]) (ge2 : n0 ≤ b2) (sz2 : h0.size ≤ b2) (hd_kv0 : kv0 = ((p3 &&& (15 : Int32)) - ((p3 &&& (15 : Int32)) / (3 : Int32)) * (3 : Int32))) (hd_kv1 : kv1 = ((((p3.toUInt32 >>> ((4 : Int32) &&& 31).toUInt32).toInt32) &&& (15 : Int32)) - ((((p3.toUInt32 >>> ((4 : Int32) &&& 31).toUInt32).toInt32) &&& (15 : Int32)) / (3 : Int32)) * (3 : Int32))) (hd_kv2 : kv2 = ((((p3.toUInt32 >>> ((8 : Int32) &&& 31).toUInt32).toInt32) &&& (15 : Int32)) - ((((p3.toUInt32 >>> ((8 : Int32) &&& 31).toUInt32).toInt32) &&& (15 : Int32)) / (3 : Int32)) * (3 : Int32))) (hd_kv3 : kv3 = ((((p3.toUInt32 >>> ((12 : Int32) &&& 31).toUInt32).toInt32) &&& (15 : Int32)) - ((((p3.toUInt32 >>> ((12 : Int32) &&& 31).toUInt32).toInt32) &&& (15 : Int32)) / (3 : Int32)) * (3 : Int32))) (hd_x0 : x0 = (p2 &&& (3 : Int32))) (hd_x1 : x1 = (((p2.toUInt32 >>> ((2 : Int32) &&& 31).toUInt32).toInt32) &&& (3 : Int32))) (hd_x2 : x2 = (((p2.toUInt32 >>> ((4 : Int32) &&& 31).toUInt32).toInt32) &&& (3 : Int32))) (hd_x3 : x3 = (((p2.toUInt32 >>> ((6 : Int32) &&& 31).toUInt32).toInt32) &&& (3 : Int32))) (hd_n : (4 : Int32) = ((p1 &&& (7 : Int32)) - ((p1 &&& (7 : Int32)) / (5 : Int32)) * (5 : Int32))) (hv0 : own_3 kv0) (hv1 : own_3 kv1) (hv2 : own_3 kv2) (hv3 : own_3 kv3) (hP : ∀ o U', (∃ v L, o = .returned v ∧ Q0 Z p1 p2 p3 h0 n0 v U'.heap L ∧ FrameEnd s o U' L room_1.cells room_1.slots) → P o U') : own_G p.tables e below P (T13.setTop (mkF m 87 #[iv p1, iv p2, iv p3, iv (4 : Int32), rv b2, iv x0, iv x1, iv x2, iv x3, .unset, .unset, .unset, .unset, .unset, .unset, .unset, .unset, .unset, .unset, .unset, .unset, .unset] [])) := by
  show own_G p.tables e below _ (T13.setTop (mkF m 87 #[iv p1, iv p2, iv p3, iv (4 : Int32), rv b2, iv x0, iv x1, iv x2, iv x3, .unset, .unset, .unset, .unset, .unset, .unset, .unset, .unset, .unset, .unset, .unset, .unset, .unset] []))
  have hx0 : own_4 x0 := by rw [hd_x0]; exact own_num _
  have hx1 : own_4 x1 := by rw [hd_x1]; exact own_num _
  have hx2 : own_4 x2 := by rw [hd_x2]; exact own_num _
  have hx3 : own_4 x3 := by rw [hd_x3]; exact own_num _
  refine own_step (fun t k => XS.iloadN X13.here hx rfl (hb hby at_87) rfl k) ?_
  obtain ⟨T286, h286, k286, X286, e286, E286, A286, st286⟩ := newP X13 hx hZ (hw _ (List.mem_of_getElem? (i := 0) rfl)) e13 (g := (mkF m 88 #[iv p1, iv p2, iv p3, iv (4 : Int32), rv b2, iv x0, iv x1, iv x2, iv x3, .unset, .unset, .unset, .unset, .unset, .unset, .unset, .unset, .unset, .unset, .unset, .unset, .unset] [(.int (4 : Int32))])) rfl (hb hby at_88) rfl (by decide) (cap := 4) (by decide) (by decide) (by decide) (by decide)
  obtain ⟨b286, g286⟩ : ∃ z, z = h13.size := ⟨_, rfl⟩
  have ne287 : b2 ≠ b286 := Nat.ne_of_lt (Nat.lt_of_lt_of_le c14.lt (Nat.le_of_eq g286.symm))
  have sz286 : h0.size ≤ b286 := Nat.le_trans K13.1 (Nat.le_of_eq g286.symm)
  have ge286 : n0 ≤ b286 := Nat.le_trans Z0 sz286
  have c288 : own_Ari Z h286 b2 .int [kv0, kv1, kv2, kv3] := c14.ext E286
  have K286 : Keep h0 h286 [] := K13.ext E286
  rw [← g286] at A286 st286
  have c289 : own_Ari Z h286 b286 .int [(0 : Int32), (0 : Int32), (0 : Int32), (0 : Int32)] := own_Ari_new (ty := .int) A286 (by decide) rfl
  refine own_step st286 ?_
  refine own_step (fun t k => XS.astore X286.here hx rfl (hb hby at_90) rfl rfl (l' := #[iv p1, iv p2, iv p3, iv (4 : Int32), rv b2, iv x0, iv x1, iv x2, iv x3, rv b286, .unset, .unset, .unset, .unset, .unset, .unset, .unset, .unset, .unset, .unset, .unset, .unset]) rfl k) ?_
  refine own_step (fun t k => XS.iloadN X286.here hx rfl (hb hby at_92) rfl k) ?_
  show own_G p.tables e below _ (T286.setTop (mkF m 93 #[iv p1, iv p2, iv p3, iv (4 : Int32), rv b2, iv x0, iv x1, iv x2, iv x3, rv b286, .unset, .unset, .unset, .unset, .unset, .unset, .unset, .unset, .unset, .unset, .unset, .unset] [(.int (4 : Int32))]))
  have hk290 : (0 : Int32) < (4 : Int32) := (by decide)
  refine own_step (fun t k => XS.ifNo X286.here hx rfl (hb hby at_93) rfl ((if0 _ _).trans (tlt hk290).2.2.2) k) ?_
  show own_G p.tables e below _ (T286.setTop (mkF m 96 #[iv p1, iv p2, iv p3, iv (4 : Int32), rv b2, iv x0, iv x1, iv x2, iv x3, rv b286, .unset, .unset, .unset, .unset, .unset, .unset, .unset, .unset, .unset, .unset, .unset, .unset] []))
  refine own_step (fun t k => XS.aload X286.here hx rfl (hb hby at_96) rfl rfl k) ?_
  refine own_step (fun t k => XS.iconst X286.here hx rfl (hb hby at_98) k) ?_
  refine own_step (fun t k => XS.iload X286.here hx rfl (hb hby at_99) rfl k) ?_
  obtain ⟨T291, h291, X291, e291, W291, c291, st291⟩ := own_iastore X286 hx hZ e286 c289 (own_inb (by decide) (Nat.le_of_ble_eq_true rfl)) (g := (mkF m 101 #[iv p1, iv p2, iv p3, iv (4 : Int32), rv b2, iv x0, iv x1, iv x2, iv x3, rv b286, .unset, .unset, .unset, .unset, .unset, .unset, .unset, .unset, .unset, .unset, .unset, .unset] [(.int x0), (.int (0 : Int32)), (.ref b286)])) rfl rfl (hb hby at_101)
  have N291 := Fr.snoc X291 N13 ge286
  have c292 : own_Ari Z h291 b286 .int [x0, (0 : Int32), (0 : Int32), (0 : Int32)] := c291
  have c293 : own_Ari Z h291 b2 .int [kv0, kv1, kv2, kv3] := c288.other W291 ne287
  have K291 : Keep h0 h291 [] := K286.wr W291 (Or.inr sz286)
  refine own_step st291 ?_
  clear A286 E286 K286 W291 X286 c288 c289 c291 e286 g286 hk290 st286 st291
  show own_G p.tables e below _ (T291.setTop (mkF m 102 #[iv p1, iv p2, iv p3, iv (4 : Int32), rv b2, iv x0, iv x1, iv x2, iv x3, rv b286, .unset, .unset, .unset, .unset, .unset, .unset, .unset, .unset, .unset, .unset, .unset, .unset] []))
  refine own_step (fun t k => XS.iloadN X291.here hx rfl (hb hby at_102) rfl k) ?_
  refine own_step (fun t k => XS.iconst X291.here hx rfl (hb hby at_103) k) ?_
  have hk295 : (1 : Int32) < (4 : Int32) := (by decide)
  refine own_step (fun t k => XS.icmpNo X291.here hx rfl (hb hby at_104) rfl ((tlt hk295).2.2.2) k) ?_
  show own_G p.tables e below _ (T291.setTop (mkF m 107 #[iv p1, iv p2, iv p3, iv (4 : Int32), rv b2, iv x0, iv x1, iv x2, iv x3, rv b286, .unset, .unset, .unset, .unset, .unset, .unset, .unset, .unset, .unset, .unset, .unset, .unset] []))
  refine own_step (fun t k => XS.aload X291.here hx rfl (hb hby at_107) rfl rfl k) ?_
  refine own_step (fun t k => XS.iconst X291.here hx rfl (hb hby at_109) k) ?_
  refine own_step (fun t k => XS.iload X291.here hx rfl (hb hby at_110) rfl k) ?_
  obtain ⟨T296, h296, X296, e296, W296, c296, st296⟩ := own_iastore X291 hx hZ e291 c292 (own_inb (by decide) (Nat.le_of_ble_eq_true rfl)) (g := (mkF m 112 #[iv p1, iv p2, iv p3, iv (4 : Int32), rv b2, iv x0, iv x1, iv x2, iv x3, rv b286, .unset, .unset, .unset, .unset, .unset, .unset, .unset, .unset, .unset, .unset, .unset, .unset] [(.int x1), (.int (1 : Int32)), (.ref b286)])) rfl rfl (hb hby at_112)
  have N296 := Fr.snoc X296 N291 ge286
  have c297 : own_Ari Z h296 b286 .int [x0, x1, (0 : Int32), (0 : Int32)] := c296
  have c298 : own_Ari Z h296 b2 .int [kv0, kv1, kv2, kv3] := c293.other W296 ne287
  have K296 : Keep h0 h296 [] := K291.wr W296 (Or.inr sz286)
  refine own_step st296 ?_
  clear K291 N291 W296 X291 c292 c293 c296 e291 hk295 st296
  show own_G p.tables e below _ (T296.setTop (mkF m 113 #[iv p1, iv p2, iv p3, iv (4 : Int32), rv b2, iv x0, iv x1, iv x2, iv x3, rv b286, .unset, .unset, .unset, .unset, .unset, .unset, .unset, .unset, .unset, .unset, .unset, .unset] []))
  refine own_step (fun t k => XS.iloadN X296.here hx rfl (hb hby at_113) rfl k) ?_
  refine own_step (fun t k => XS.iconst X296.here hx rfl (hb hby at_114) k) ?_
  have hk300 : (2 : Int32) < (4 : Int32) := (by decide)
  refine own_step (fun t k => XS.icmpNo X296.here hx rfl (hb hby at_115) rfl ((tlt hk300).2.2.2) k) ?_
  show own_G p.tables e below _ (T296.setTop (mkF m 118 #[iv p1, iv p2, iv p3, iv (4 : Int32), rv b2, iv x0, iv x1, iv x2, iv x3, rv b286, .unset, .unset, .unset, .unset, .unset, .unset, .unset, .unset, .unset, .unset, .unset, .unset] []))
  refine own_step (fun t k => XS.aload X296.here hx rfl (hb hby at_118) rfl rfl k) ?_
  refine own_step (fun t k => XS.iconst X296.here hx rfl (hb hby at_120) k) ?_
  refine own_step (fun t k => XS.iload X296.here hx rfl (hb hby at_121) rfl k) ?_
  obtain ⟨T301, h301, X301, e301, W301, c301, st301⟩ := own_iastore X296 hx hZ e296 c297 (own_inb (by decide) (Nat.le_of_ble_eq_true rfl)) (g := (mkF m 123 #[iv p1, iv p2, iv p3, iv (4 : Int32), rv b2, iv x0, iv x1, iv x2, iv x3, rv b286, .unset, .unset, .unset, .unset, .unset, .unset, .unset, .unset, .unset, .unset, .unset, .unset] [(.int x2), (.int (2 : Int32)), (.ref b286)])) rfl rfl (hb hby at_123)
  have N301 := Fr.snoc X301 N296 ge286
  have c302 : own_Ari Z h301 b286 .int [x0, x1, x2, (0 : Int32)] := c301
  have c303 : own_Ari Z h301 b2 .int [kv0, kv1, kv2, kv3] := c298.other W301 ne287
  have K301 : Keep h0 h301 [] := K296.wr W301 (Or.inr sz286)
  refine own_step st301 ?_
  clear K296 N296 W301 X296 c297 c298 c301 e296 hk300 st301
  show own_G p.tables e below _ (T301.setTop (mkF m 124 #[iv p1, iv p2, iv p3, iv (4 : Int32), rv b2, iv x0, iv x1, iv x2, iv x3, rv b286, .unset, .unset, .unset, .unset, .unset, .unset, .unset, .unset, .unset, .unset, .unset, .unset] []))
  refine own_step (fun t k => XS.iloadN X301.here hx rfl (hb hby at_124) rfl k) ?_
  refine own_step (fun t k => XS.iconst X301.here hx rfl (hb hby at_125) k) ?_
  have hk305 : (3 : Int32) < (4 : Int32) := (by decide)
  refine own_step (fun t k => XS.icmpNo X301.here hx rfl (hb hby at_126) rfl ((tlt hk305).2.2.2) k) ?_
  show own_G p.tables e below _ (T301.setTop (mkF m 129 #[iv p1, iv p2, iv p3, iv (4 : Int32), rv b2, iv x0, iv x1, iv x2, iv x3, rv b286, .unset, .unset, .unset, .unset, .unset, .unset, .unset, .unset, .unset, .unset, .unset, .unset] []))
  refine own_step (fun t k => XS.aload X301.here hx rfl (hb hby at_129) rfl rfl k) ?_
  refine own_step (fun t k => XS.iconst X301.here hx rfl (hb hby at_131) k) ?_
  refine own_step (fun t k => XS.iload X301.here hx rfl (hb hby at_132) rfl k) ?_
  obtain ⟨T306, h306, X306, e306, W306, c306, st306⟩ := own_iastore X301 hx hZ e301 c302 (own_inb (by decide) (Nat.le_of_ble_eq_true rfl)) (g := (mkF m 134 #[iv p1, iv p2, iv p3, iv (4 : Int32), rv b2, iv x0, iv x1, iv x2, iv x3, rv b286, .unset, .unset, .unset, .unset, .unset, .unset, .unset, .unset, .unset, .unset, .unset, .unset] [(.int x3), (.int (3 : Int32)), (.ref b286)])) rfl rfl (hb hby at_134)
  have N306 := Fr.snoc X306 N301 ge286
  have c307 : own_Ari Z h306 b286 .int [x0, x1, x2, x3] := c306
  have c308 : own_Ari Z h306 b2 .int [kv0, kv1, kv2, kv3] := c303.other W306 ne287
  have K306 : Keep h0 h306 [] := K301.wr W306 (Or.inr sz286)
  refine own_step st306 ?_
  clear K301 N301 W306 X301 c302 c303 c306 e301 hk305 st306
  show own_G p.tables e below _ (T306.setTop (mkF m 135 #[iv p1, iv p2, iv p3, iv (4 : Int32), rv b2, iv x0, iv x1, iv x2, iv x3, rv b286, .unset, .unset, .unset, .unset, .unset, .unset, .unset, .unset, .unset, .unset, .unset, .unset] []))
  refine own_step (fun t k => XS.aload X306.here hx rfl (hb hby at_135) rfl rfl k) ?_
  refine own_step (fun t k => XS.iload X306.here hx rfl (hb hby at_137) rfl k) ?_
  refine own_step (own_iaload X306 hx hZ e306 c308 (own_i4 hx0 rfl) (g := (mkF m 139 #[iv p1, iv p2, iv p3, iv (4 : Int32), rv b2, iv x0, iv x1, iv x2, iv x3, rv b286, .unset, .unset, .unset, .unset, .unset, .unset, .unset, .unset, .unset, .unset, .unset, .unset] [(.int x0), (.ref b2)])) rfl rfl (hb hby at_139)) ?_
  refine own_nm (([kv0, kv1, kv2, kv3].getD x0.toNatClampNeg 0) : Int32) (fun kk0 => T306.setTop (mkF m 140 #[iv p1, iv p2, iv p3, iv (4 : Int32), rv b2, iv x0, iv x1, iv x2, iv x3, rv b286, .unset, .unset, .unset, .unset, .unset, .unset, .unset, .unset, .unset, .unset, .unset, .unset] [(.int kk0)])) ?_
  intro kk0 hd_kk0
  show own_G p.tables e below _ (T306.setTop (mkF m 140 #[iv p1, iv p2, iv p3, iv (4 : Int32), rv b2, iv x0, iv x1, iv x2, iv x3, rv b286, .unset, .unset, .unset, .unset, .unset, .unset, .unset, .unset, .unset, .unset, .unset, .unset] [(.int kk0)]))
  refine own_step (fun t k => XS.istore X306.here hx rfl (hb hby at_140) rfl (l' := #[iv p1, iv p2, iv p3, iv (4 : Int32), rv b2, iv x0, iv x1, iv x2, iv x3, rv b286, iv kk0, .unset, .unset, .unset, .unset, .unset, .unset, .unset, .unset, .unset, .unset, .unset]) rfl k) ?_
  refine own_step (fun t k => XS.aload X306.here hx rfl (hb hby at_142) rfl rfl k) ?_
  refine own_step (fun t k => XS.iload X306.here hx rfl (hb hby at_144) rfl k) ?_
  refine own_step (own_iaload X306 hx hZ e306 c308 (own_i4 hx1 rfl) (g := (mkF m 146 #[iv p1, iv p2, iv p3, iv (4 : Int32), rv b2, iv x0, iv x1, iv x2, iv x3, rv b286, iv kk0, .unset, .unset, .unset, .unset, .unset, .unset, .unset, .unset, .unset, .unset, .unset] [(.int x1), (.ref b2)])) rfl rfl (hb hby at_146)) ?_
  show own_G p.tables e below _ (T306.setTop (mkF m 147 #[iv p1, iv p2, iv p3, iv (4 : Int32), rv b2, iv x0, iv x1, iv x2, iv x3, rv b286, iv kk0, .unset, .unset, .unset, .unset, .unset, .unset, .unset, .unset, .unset, .unset, .unset] [(.int ([kv0, kv1, kv2, kv3].getD x1.toNatClampNeg 0))]))
  refine own_nm (([kv0, kv1, kv2, kv3].getD x1.toNatClampNeg 0) : Int32) (fun kk1 => T306.setTop (mkF m 147 #[iv p1, iv p2, iv p3, iv (4 : Int32), rv b2, iv x0, iv x1, iv x2, iv x3, rv b286, iv kk0, .unset, .unset, .unset, .unset, .unset, .unset, .unset, .unset, .unset, .unset, .unset] [(.int kk1)])) ?_
  intro kk1 hd_kk1
  show own_G p.tables e below _ (T306.setTop (mkF m 147 #[iv p1, iv p2, iv p3, iv (4 : Int32), rv b2, iv x0, iv x1, iv x2, iv x3, rv b286, iv kk0, .unset, .unset, .unset, .unset, .unset, .unset, .unset, .unset, .unset, .unset, .unset] [(.int kk1)]))
  refine own_step (fun t k => XS.istore X306.here hx rfl (hb hby at_147) rfl (l' := #[iv p1, iv p2, iv p3, iv (4 : Int32), rv b2, iv x0, iv x1, iv x2, iv x3, rv b286, iv kk0, iv kk1, .unset, .unset, .unset, .unset, .unset, .unset, .unset, .unset, .unset, .unset]) rfl k) ?_
  refine own_step (fun t k => XS.aload X306.here hx rfl (hb hby at_149) rfl rfl k) ?_
  refine own_step (fun t k => XS.iload X306.here hx rfl (hb hby at_151) rfl k) ?_
  refine own_step (own_iaload X306 hx hZ e306 c308 (own_i4 hx2 rfl) (g := (mkF m 153 #[iv p1, iv p2, iv p3, iv (4 : Int32), rv b2, iv x0, iv x1, iv x2, iv x3, rv b286, iv kk0, iv kk1, .unset, .unset, .unset, .unset, .unset, .unset, .unset, .unset, .unset, .unset] [(.int x2), (.ref b2)])) rfl rfl (hb hby at_153)) ?_
  show own_G p.tables e below _ (T306.setTop (mkF m 154 #[iv p1, iv p2, iv p3, iv (4 : Int32), rv b2, iv x0, iv x1, iv x2, iv x3, rv b286, iv kk0, iv kk1, .unset, .unset, .unset, .unset, .unset, .unset, .unset, .unset, .unset, .unset] [(.int ([kv0, kv1, kv2, kv3].getD x2.toNatClampNeg 0))]))
  refine own_nm (([kv0, kv1, kv2, kv3].getD x2.toNatClampNeg 0) : Int32) (fun kk2 => T306.setTop (mkF m 154 #[iv p1, iv p2, iv p3, iv (4 : Int32), rv b2, iv x0, iv x1, iv x2, iv x3, rv b286, iv kk0, iv kk1, .unset, .unset, .unset, .unset, .unset, .unset, .unset, .unset, .unset, .unset] [(.int kk2)])) ?_
  intro kk2 hd_kk2
  show own_G p.tables e below _ (T306.setTop (mkF m 154 #[iv p1, iv p2, iv p3, iv (4 : Int32), rv b2, iv x0, iv x1, iv x2, iv x3, rv b286, iv kk0, iv kk1, .unset, .unset, .unset, .unset, .unset, .unset, .unset, .unset, .unset, .unset] [(.int kk2)]))
  refine own_step (fun t k => XS.istore X306.here hx rfl (hb hby at_154) rfl (l' := #[iv p1, iv p2, iv p3, iv (4 : Int32), rv b2, iv x0, iv x1, iv x2, iv x3, rv b286, iv kk0, iv kk1, iv kk2, .unset, .unset, .unset, .unset, .unset, .unset, .unset, .unset, .unset]) rfl k) ?_
  refine own_step (fun t k => XS.aload X306.here hx rfl (hb hby at_156) rfl rfl k) ?_
  refine own_step (fun t k => XS.iload X306.here hx rfl (hb hby at_158) rfl k) ?_
  refine own_step (own_iaload X306 hx hZ e306 c308 (own_i4 hx3 rfl) (g := (mkF m 160 #[iv p1, iv p2, iv p3, iv (4 : Int32), rv b2, iv x0, iv x1, iv x2, iv x3, rv b286, iv kk0, iv kk1, iv kk2, .unset, .unset, .unset, .unset, .unset, .unset, .unset, .unset, .unset] [(.int x3), (.ref b2)])) rfl rfl (hb hby at_160)) ?_
  show own_G p.tables e below _ (T306.setTop (mkF m 161 #[iv p1, iv p2, iv p3, iv (4 : Int32), rv b2, iv x0, iv x1, iv x2, iv x3, rv b286, iv kk0, iv kk1, iv kk2, .unset, .unset, .unset, .unset, .unset, .unset, .unset, .unset, .unset] [(.int ([kv0, kv1, kv2, kv3].getD x3.toNatClampNeg 0))]))
  refine own_nm (([kv0, kv1, kv2, kv3].getD x3.toNatClampNeg 0) : Int32) (fun kk3 => T306.setTop (mkF m 161 #[iv p1, iv p2, iv p3, iv (4 : Int32), rv b2, iv x0, iv x1, iv x2, iv x3, rv b286, iv kk0, iv kk1, iv kk2, .unset, .unset, .unset, .unset, .unset, .unset, .unset, .unset, .unset] [(.int kk3)])) ?_
  intro kk3 hd_kk3
  show own_G p.tables e below _ (T306.setTop (mkF m 161 #[iv p1, iv p2, iv p3, iv (4 : Int32), rv b2, iv x0, iv x1, iv x2, iv x3, rv b286, iv kk0, iv kk1, iv kk2, .unset, .unset, .unset, .unset, .unset, .unset, .unset, .unset, .unset] [(.int kk3)]))
  refine own_step (fun t k => XS.istore X306.here hx rfl (hb hby at_161) rfl (l' := #[iv p1, iv p2, iv p3, iv (4 : Int32), rv b2, iv x0, iv x1, iv x2, iv x3, rv b286, iv kk0, iv kk1, iv kk2, iv kk3, .unset, .unset, .unset, .unset, .unset, .unset, .unset, .unset]) rfl k) ?_
  have h30 : own_3 kk0 := by rw [hd_kk0]; exact own_k3 hv0 hv1 hv2 hv3 hx0
  have h31 : own_3 kk1 := by rw [hd_kk1]; exact own_k3 hv0 hv1 hv2 hv3 hx1
  have h32 : own_3 kk2 := by rw [hd_kk2]; exact own_k3 hv0 hv1 hv2 hv3 hx2
  have h33 : own_3 kk3 := by rw [hd_kk3]; exact own_k3 hv0 hv1 hv2 hv3 hx3
  refine own_step (fun t k => XS.iconst X306.here hx rfl (hb hby at_163) k) ?_
  refine own_step (fun t k => XS.iloadN X306.here hx rfl (hb hby at_164) rfl k) ?_
  refine own_step (fun t k => XS.iload X306.here hx rfl (hb hby at_165) rfl k) ?_
  show own_G p.tables e below _ (T306.setTop (mkF m 167 #[iv p1, iv p2, iv p3, iv (4 : Int32), rv b2, iv x0, iv x1, iv x2, iv x3, rv b286, iv kk0, iv kk1, iv kk2, iv kk3, .unset, .unset, .unset, .unset, .unset, .unset, .unset, .unset] [(.int kk0), (.int (4 : Int32)), (.int (0 : Int32))]))
  refine own_step (fun t k => XS.iload X306.here hx rfl (hb hby at_167) rfl k) ?_
  refine own_step (fun t k => XS.iload X306.here hx rfl (hb hby at_169) rfl k) ?_
  refine own_step (fun t k => XS.iload X306.here hx rfl (hb hby at_171) rfl k) ?_
  obtain ⟨_, _, ⟨T314, L314, k314, n314⟩, -, X314, ⟨Lc314, hQ314, l314, y314, z314⟩, st314⟩ := Jvm.LawKit.callS X306 hx (y := (⟨"com/example/stevedore/stevedore/MoveGraphGroupedPinLaw", "cnt", "(IIIIII)I"⟩ : MethodName)) hown (mvT hZ (hw _ (List.mem_of_getElem? (i := 1) rfl))) (mvT hZ (hw _ (List.mem_of_getElem? (i := 2) rfl))) (mvT hZ (hw _ (List.mem_of_getElem? (i := 3) rfl))) (mvT hZ (hw _ (List.mem_of_getElem? (i := 4) rfl))) (by decide) (backOf (W := 0) (rm1_n4 l Z a0 hw [] (0 : Int32) kk0 kk1 kk2 kk3 h306 n0 (Nat.le_trans Z0 K306.1) ) hZ (hw _ (List.mem_of_getElem? (i := 4) rfl)) (hw _ (List.mem_of_getElem? (i := 3) rfl)) (by decide) (by decide)) (g := (mkF m 173 #[iv p1, iv p2, iv p3, iv (4 : Int32), rv b2, iv x0, iv x1, iv x2, iv x3, rv b286, iv kk0, iv kk1, iv kk2, iv kk3, .unset, .unset, .unset, .unset, .unset, .unset, .unset, .unset] [(.int kk3), (.int kk2), (.int kk1), (.int kk0), (.int (4 : Int32)), (.int (0 : Int32))])) rfl (by rw [hml]; rfl) (argsL := [(.int (0 : Int32)), (.int (4 : Int32)), (.int kk0), (.int kk1), (.int kk2), (.int kk3)]) (rest := []) (lenOf pd_0_0 rfl) rfl (by show 2 * 0 + _ ≤ _; exact Nat.le_of_eq rfl) (hb hby at_173) (fun _ _ => ⟨rfl, e306, (by decide : 2 + 0 ≤ _), (by decide : 8 + 0 ≤ _)⟩)
  dsimp only [Pt.U, Pt.locs, Pt.cells, Pt.slots] at X314 l314 y314 z314 st314 hQ314
  subst y314 z314
  obtain ⟨rfl, N314q, e314⟩ := hQ314
  have N314 : Fr n0 L314 := by rw [l314]; exact Fr.app N306 N314q
  refine own_step st314 ?_
  show own_G p.tables e below _ (T314.setTop (mkF m 176 #[iv p1, iv p2, iv p3, iv (4 : Int32), rv b2, iv x0, iv x1, iv x2, iv x3, rv b286, iv kk0, iv kk1, iv kk2, iv kk3, .unset, .unset, .unset, .unset, .unset, .unset, .unset, .unset] [(.int ((((own_f2 (if kk0 = (0 : Int32) then (1 : Int32) else (0 : Int32))) + (own_f2 (if kk1 = (0 : Int32) then (1 : Int32) else (0 : Int32)))) + (own_f2 (if kk2 = (0 : Int32) then (1 : Int32) else (0 : Int32)))) + (own_f2 (if kk3 = (0 : Int32) then (1 : Int32) else (0 : Int32)))))]))
  refine own_nm (((((own_f2 (if kk0 = (0 : Int32) then (1 : Int32) else (0 : Int32))) + (own_f2 (if kk1 = (0 : Int32) then (1 : Int32) else (0 : Int32)))) + (own_f2 (if kk2 = (0 : Int32) then (1 : Int32) else (0 : Int32)))) + (own_f2 (if kk3 = (0 : Int32) then (1 : Int32) else (0 : Int32)))) : Int32) (fun ct0 => T314.setTop (mkF m 176 #[iv p1, iv p2, iv p3, iv (4 : Int32), rv b2, iv x0, iv x1, iv x2, iv x3, rv b286, iv kk0, iv kk1, iv kk2, iv kk3, .unset, .unset, .unset, .unset, .unset, .unset, .unset, .unset] [(.int ct0)])) ?_
  intro ct0 hd_ct0
  show own_G p.tables e below _ (T314.setTop (mkF m 176 #[iv p1, iv p2, iv p3, iv (4 : Int32), rv b2, iv x0, iv x1, iv x2, iv x3, rv b286, iv kk0, iv kk1, iv kk2, iv kk3, .unset, .unset, .unset, .unset, .unset, .unset, .unset, .unset] [(.int ct0)]))
  refine own_step (fun t k => XS.istore X314.here hx rfl (hb hby at_176) rfl (l' := #[iv p1, iv p2, iv p3, iv (4 : Int32), rv b2, iv x0, iv x1, iv x2, iv x3, rv b286, iv kk0, iv kk1, iv kk2, iv kk3, iv ct0, .unset, .unset, .unset, .unset, .unset, .unset, .unset]) rfl k) ?_
  refine own_step (fun t k => XS.iconst X314.here hx rfl (hb hby at_178) k) ?_
  refine own_step (fun t k => XS.iloadN X314.here hx rfl (hb hby at_179) rfl k) ?_
  refine own_step (fun t k => XS.iload X314.here hx rfl (hb hby at_180) rfl k) ?_
  show own_G p.tables e below _ (T314.setTop (mkF m 182 #[iv p1, iv p2, iv p3, iv (4 : Int32), rv b2, iv x0, iv x1, iv x2, iv x3, rv b286, iv kk0, iv kk1, iv kk2, iv kk3, iv ct0, .unset, .unset, .unset, .unset, .unset, .unset, .unset] [(.int kk0), (.int (4 : Int32)), (.int (1 : Int32))]))
  refine own_step (fun t k => XS.iload X314.here hx rfl (hb hby at_182) rfl k) ?_
  refine own_step (fun t k => XS.iload X314.here hx rfl (hb hby at_184) rfl k) ?_
  refine own_step (fun t k => XS.iload X314.here hx rfl (hb hby at_186) rfl k) ?_
  obtain ⟨_, _, ⟨T316, L316, k316, n316⟩, -, X316, ⟨Lc316, hQ316, l316, y316, z316⟩, st316⟩ := Jvm.LawKit.callS X314 hx (y := (⟨"com/example/stevedore/stevedore/MoveGraphGroupedPinLaw", "cnt", "(IIIIII)I"⟩ : MethodName)) hown (mvT hZ (hw _ (List.mem_of_getElem? (i := 1) rfl))) (mvT hZ (hw _ (List.mem_of_getElem? (i := 2) rfl))) (mvT hZ (hw _ (List.mem_of_getElem? (i := 3) rfl))) (mvT hZ (hw _ (List.mem_of_getElem? (i := 4) rfl))) (by decide) (backOf (W := 0) (rm1_n4 l Z a0 hw [] (1 : Int32) kk0 kk1 kk2 kk3 h306 n0 (Nat.le_trans Z0 K306.1) ) hZ (hw _ (List.mem_of_getElem? (i := 4) rfl)) (hw _ (List.mem_of_getElem? (i := 3) rfl)) (by decide) (by decide)) (g := (mkF m 188 #[iv p1, iv p2, iv p3, iv (4 : Int32), rv b2, iv x0, iv x1, iv x2, iv x3, rv b286, iv kk0, iv kk1, iv kk2, iv kk3, iv ct0, .unset, .unset, .unset, .unset, .unset, .unset, .unset] [(.int kk3), (.int kk2), (.int kk1), (.int kk0), (.int (4 : Int32)), (.int (1 : Int32))])) rfl (by rw [hml]; rfl) (argsL := [(.int (1 : Int32)), (.int (4 : Int32)), (.int kk0), (.int kk1), (.int kk2), (.int kk3)]) (rest := []) (lenOf pd_0_0 rfl) rfl (by show 2 * 0 + _ ≤ _; exact Nat.le_of_eq rfl) (hb hby at_188) (fun _ _ => ⟨rfl, e314, (by decide : 2 + 0 ≤ _), (by decide : 8 + 0 ≤ _)⟩)
  dsimp only [Pt.U, Pt.locs, Pt.cells, Pt.slots] at X316 l316 y316 z316 st316 hQ316
  subst y316 z316
  obtain ⟨rfl, N316q, e316⟩ := hQ316
  have N316 : Fr n0 L316 := by rw [l316]; exact Fr.app N314 N316q
  refine own_step st316 ?_
  clear N306 N314 N314q N316q X306 X314 e306 e314 st314 st316
  show own_G p.tables e below _ (T316.setTop (mkF m 191 #[iv p1, iv p2, iv p3, iv (4 : Int32), rv b2, iv x0, iv x1, iv x2, iv x3, rv b286, iv kk0, iv kk1, iv kk2, iv kk3, iv ct0, .unset, .unset, .unset, .unset, .unset, .unset, .unset] [(.int ((((own_f2 (if kk0 = (1 : Int32) then (1 : Int32) else (0 : Int32))) + (own_f2 (if kk1 = (1 : Int32) then (1 : Int32) else (0 : Int32)))) + (own_f2 (if kk2 = (1 : Int32) then (1 : Int32) else (0 : Int32)))) + (own_f2 (if kk3 = (1 : Int32) then (1 : Int32) else (0 : Int32)))))]))
  refine own_nm (((((own_f2 (if kk0 = (1 : Int32) then (1 : Int32) else (0 : Int32))) + (own_f2 (if kk1 = (1 : Int32) then (1 : Int32) else (0 : Int32)))) + (own_f2 (if kk2 = (1 : Int32) then (1 : Int32) else (0 : Int32)))) + (own_f2 (if kk3 = (1 : Int32) then (1 : Int32) else (0 : Int32)))) : Int32) (fun ct1 => T316.setTop (mkF m 191 #[iv p1, iv p2, iv p3, iv (4 : Int32), rv b2, iv x0, iv x1, iv x2, iv x3, rv b286, iv kk0, iv kk1, iv kk2, iv kk3, iv ct0, .unset, .unset, .unset, .unset, .unset, .unset, .unset] [(.int ct1)])) ?_
  intro ct1 hd_ct1
  show own_G p.tables e below _ (T316.setTop (mkF m 191 #[iv p1, iv p2, iv p3, iv (4 : Int32), rv b2, iv x0, iv x1, iv x2, iv x3, rv b286, iv kk0, iv kk1, iv kk2, iv kk3, iv ct0, .unset, .unset, .unset, .unset, .unset, .unset, .unset] [(.int ct1)]))
  refine own_step (fun t k => XS.istore X316.here hx rfl (hb hby at_191) rfl (l' := #[iv p1, iv p2, iv p3, iv (4 : Int32), rv b2, iv x0, iv x1, iv x2, iv x3, rv b286, iv kk0, iv kk1, iv kk2, iv kk3, iv ct0, iv ct1, .unset, .unset, .unset, .unset, .unset, .unset]) rfl k) ?_
  refine own_step (fun t k => XS.iconst X316.here hx rfl (hb hby at_193) k) ?_
  obtain ⟨T318, h318, k318, X318, e318, E318, A318, B318, st318⟩ := newPE X316 hx hZ (hw _ (List.mem_of_getElem? (i := 0) rfl)) e316 (g := (mkF m 194 #[iv p1, iv p2, iv p3, iv (4 : Int32), rv b2, iv x0, iv x1, iv x2, iv x3, rv b286, iv kk0, iv kk1, iv kk2, iv kk3, iv ct0, iv ct1, .unset, .unset, .unset, .unset, .unset, .unset] [(.int (4 : Int32))])) rfl (hb hby at_194) rfl (by decide) (cap := 4) (by decide) (by decide) (by decide) (by decide) (ad := "[I") (by decide)
  obtain ⟨b318, g318⟩ : ∃ z, z = h306.size := ⟨_, rfl⟩
  have ne319 : b2 ≠ b318 := Nat.ne_of_lt (Nat.lt_of_lt_of_le c308.lt (Nat.le_of_eq g318.symm))
  have ne320 : b286 ≠ b318 := Nat.ne_of_lt (Nat.lt_of_lt_of_le c307.lt (Nat.le_of_eq g318.symm))
  have sz318 : h0.size ≤ b318 := Nat.le_trans K306.1 (Nat.le_of_eq g318.symm)
  have ge318 : n0 ≤ b318 := Nat.le_trans Z0 sz318
  have c321 : own_Ari Z h318 b2 .int [kv0, kv1, kv2, kv3] := c308.ext E318
  have c322 : own_Ari Z h318 b286 .int [x0, x1, x2, x3] := c307.ext E318
  have K318 : Keep h0 h318 [] := K306.ext E318
  rw [← g318] at A318 B318 st318
  have c323 : own_Ari Z h318 b318 .int [(0 : Int32), (0 : Int32), (0 : Int32), (0 : Int32)] := own_Ari_new (ty := .int) A318 (by decide) rfl
  refine own_step st318 ?_
  refine own_step (fun t k => XS.astore X318.here hx rfl (hb hby at_196) rfl rfl (l' := #[iv p1, iv p2, iv p3, iv (4 : Int32), rv b2, iv x0, iv x1, iv x2, iv x3, rv b286, iv kk0, iv kk1, iv kk2, iv kk3, iv ct0, iv ct1, rv b318, .unset, .unset, .unset, .unset, .unset]) rfl k) ?_
  show own_G p.tables e below _ (T318.setTop (mkF m 198 #[iv p1, iv p2, iv p3, iv (4 : Int32), rv b2, iv x0, iv x1, iv x2, iv x3, rv b286, iv kk0, iv kk1, iv kk2, iv kk3, iv ct0, iv ct1, rv b318, .unset, .unset, .unset, .unset, .unset] []))
  refine own_step (fun t k => XS.aload X318.here hx rfl (hb hby at_198) rfl rfl k) ?_
  refine own_step (fun t k => XS.aload X318.here hx rfl (hb hby at_200) rfl rfl k) ?_
  refine own_step (fun t k => XS.aload X318.here hx rfl (hb hby at_202) rfl rfl k) ?_
  obtain ⟨_, _, ⟨T324, L324, k324, n324⟩, -, X324, ⟨Lc324, hQ324, l324, y324, z324⟩, st324⟩ := Jvm.LawKit.callS X318 hx (y := (⟨"com/example/stevedore/stevedore/MoveGraph", "grouped", "([I[I[I)[I"⟩ : MethodName)) hown (mvT hZ (hw _ (List.mem_of_getElem? (i := 8) rfl))) (mvT hZ (hw _ (List.mem_of_getElem? (i := 9) rfl))) (mvT hZ (hw _ (List.mem_of_getElem? (i := 10) rfl))) (mvT hZ (hw _ (List.mem_of_getElem? (i := 11) rfl))) (by decide) (backOf (W := 0) (rm3_n4 l Z a0 hw [] b286 b2 b318 x0 x1 x2 x3 kv0 kv1 kv2 kv3 kk0 kk1 kk2 kk3 h318 n0 (Nat.le_trans Z0 K318.1) c322 c321 c323 B318 (hx0 : own_4 x0) (hx1 : own_4 x1) (hx2 : own_4 x2) (hx3 : own_4 x3) (hd_kk0.symm : ([kv0, kv1, kv2, kv3].getD x0.toNatClampNeg 0) = kk0) (hd_kk1.symm : ([kv0, kv1, kv2, kv3].getD x1.toNatClampNeg 0) = kk1) (hd_kk2.symm : ([kv0, kv1, kv2, kv3].getD x2.toNatClampNeg 0) = kk2) (hd_kk3.symm : ([kv0, kv1, kv2, kv3].getD x3.toNatClampNeg 0) = kk3) (h30 : own_3 kk0) (h31 : own_3 kk1) (h32 : own_3 kk2) (h33 : own_3 kk3) ge318 ne320 ne319) hZ (hw _ (List.mem_of_getElem? (i := 11) rfl)) (hw _ (List.mem_of_getElem? (i := 10) rfl)) (by decide) (by decide)) (g := (mkF m 204 #[iv p1, iv p2, iv p3, iv (4 : Int32), rv b2, iv x0, iv x1, iv x2, iv x3, rv b286, iv kk0, iv kk1, iv kk2, iv kk3, iv ct0, iv ct1, rv b318, .unset, .unset, .unset, .unset, .unset] [(.ref b318), (.ref b2), (.ref b286)])) rfl (by rw [hml]; rfl) (argsL := [(.ref b286), (.ref b2), (.ref b318)]) (rest := []) (lenOf pd_0_1 rfl) rfl (by show 2 * 0 + _ ≤ _; exact Nat.le_of_eq rfl) (hb hby at_204) (fun _ _ => ⟨rfl, e318, (by decide : 3 + 2 ≤ _), (by decide : 12 + 8 ≤ _)⟩)
  dsimp only [Pt.U, Pt.locs, Pt.cells, Pt.slots] at X324 l324 y324 z324 st324 hQ324
  subst y324 z324
  obtain ⟨bx324_rb, rfl, N324q, K324q, w324_0, w324_1, sx324_0⟩ := hQ324
  have c325 : own_Ari Z T324.heap b2 .int [kv0, kv1, kv2, kv3] := c321.keep K324q (ninS ne319 nin0)
  have c326 : own_Ari Z T324.heap b286 .int [x0, x1, x2, x3] := c322.keep K324q (ninS ne320 nin0)
  have c327 : Exa Z T324.heap b318 "[I" := B318.keep K324q
  have sz324_0 : h0.size ≤ bx324_rb := Nat.le_trans K318.1 sx324_0
  have ge324_0 : n0 ≤ bx324_rb := Nat.le_trans Z0 sz324_0
  have ne329 : b2 ≠ bx324_rb := Nat.ne_of_lt (Nat.lt_of_lt_of_le c321.lt sx324_0)
  have ne330 : b286 ≠ bx324_rb := Nat.ne_of_lt (Nat.lt_of_lt_of_le c322.lt sx324_0)
  have ne331 : b318 ≠ bx324_rb := Nat.ne_of_lt (Nat.lt_of_lt_of_le B318.lt sx324_0)
  have K324 : Keep h0 T324.heap [] := K318.trans K324q (allS (Or.inr sz318) all0)
  have N324 : Fr n0 L324 := by rw [l324]; exact Fr.app N316 N324q
  refine own_step st324 ?_
  clear A318 B318 E318 K306 K318 K324q N316 N324q X316 X318 c307 c308 c321 c322 c323 e316 e318 g318 st318 st324 sx324_0
  show own_G p.tables e below _ (T324.setTop (mkF m 207 #[iv p1, iv p2, iv p3, iv (4 : Int32), rv b2, iv x0, iv x1, iv x2, iv x3, rv b286, iv kk0, iv kk1, iv kk2, iv kk3, iv ct0, iv ct1, rv b318, .unset, .unset, .unset, .unset, .unset] [(.ref bx324_rb)]))
  refine own_step (fun t k => XS.astore X324.here hx rfl (hb hby at_207) rfl rfl (l' := #[iv p1, iv p2, iv p3, iv (4 : Int32), rv b2, iv x0, iv x1, iv x2, iv x3, rv b286, iv kk0, iv kk1, iv kk2, iv kk3, iv ct0, iv ct1, rv b318, rv bx324_rb, .unset, .unset, .unset, .unset]) rfl k) ?_
  refine own_step (fun t k => XS.aload X324.here hx rfl (hb hby at_209) rfl rfl k) ?_
  refine own_step (own_lenI X324 hx hZ rfl w324_1 (g := (mkF m 211 #[iv p1, iv p2, iv p3, iv (4 : Int32), rv b2, iv x0, iv x1, iv x2, iv x3, rv b286, iv kk0, iv kk1, iv kk2, iv kk3, iv ct0, iv ct1, rv b318, rv bx324_rb, .unset, .unset, .unset, .unset] [(.ref bx324_rb)])) rfl rfl (hb hby at_211)) ?_
  show own_G p.tables e below _ (T324.setTop (mkF m 212 #[iv p1, iv p2, iv p3, iv (4 : Int32), rv b2, iv x0, iv x1, iv x2, iv x3, rv b286, iv kk0, iv kk1, iv kk2, iv kk3, iv ct0, iv ct1, rv b318, rv bx324_rb, .unset, .unset, .unset, .unset] [(.int ((((([(0 : Int32), (0 : Int32), (0 : Int32), (0 : Int32)].set ((own_s4 kk0 kk1 kk2 kk3).getD kk0.toNatClampNeg 0).toNatClampNeg x0).set ((own_inc (own_s4 kk0 kk1 kk2 kk3) kk0).getD kk1.toNatClampNeg 0).toNatClampNeg x1).set ((own_inc (own_inc (own_s4 kk0 kk1 kk2 kk3) kk0) kk1).getD kk2.toNatClampNeg 0).toNatClampNeg x2).set ((own_inc (own_inc (own_inc (own_s4 kk0 kk1 kk2 kk3) kk0) kk1) kk2).getD kk3.toNatClampNeg 0).toNatClampNeg x3).length.toInt32))]))
  rw [show ((((([(0 : Int32), (0 : Int32), (0 : Int32), (0 : Int32)].set ((own_s4 kk0 kk1 kk2 kk3).getD kk0.toNatClampNeg 0).toNatClampNeg x0).set ((own_inc (own_s4 kk0 kk1 kk2 kk3) kk0).getD kk1.toNatClampNeg 0).toNatClampNeg x1).set ((own_inc (own_inc (own_s4 kk0 kk1 kk2 kk3) kk0) kk1).getD kk2.toNatClampNeg 0).toNatClampNeg x2).set ((own_inc (own_inc (own_inc (own_s4 kk0 kk1 kk2 kk3) kk0) kk1) kk2).getD kk3.toNatClampNeg 0).toNatClampNeg x3).length.toInt32) = (4 : Int32) from by simp only [List.length_set]; rfl]
  show own_G p.tables e below _ (T324.setTop (mkF m 212 #[iv p1, iv p2, iv p3, iv (4 : Int32), rv b2, iv x0, iv x1, iv x2, iv x3, rv b286, iv kk0, iv kk1, iv kk2, iv kk3, iv ct0, iv ct1, rv b318, rv bx324_rb, .unset, .unset, .unset, .unset] [(.int (4 : Int32))]))
  refine own_step (fun t k => XS.iloadN X324.here hx rfl (hb hby at_212) rfl k) ?_
  have hk332 : (4 : Int32) = (4 : Int32) := rfl
  refine own_step (fun t k => XS.icmpYes X324.here hx rfl (pc0 := 213) (pc' := 218) rfl (hb hby at_213) rfl ((teq hk332).1) (by decide) (by decide) k) ?_
  show own_G p.tables e below _ (T324.setTop (mkF m 218 #[iv p1, iv p2, iv p3, iv (4 : Int32), rv b2, iv x0, iv x1, iv x2, iv x3, rv b286, iv kk0, iv kk1, iv kk2, iv kk3, iv ct0, iv ct1, rv b318, rv bx324_rb, .unset, .unset, .unset, .unset] []))
  refine own_step (fun t k => XS.aload X324.here hx rfl (hb hby at_218) rfl rfl k) ?_
  refine own_step (fun t k => XS.iconst X324.here hx rfl (hb hby at_220) k) ?_
  refine own_step (own_iaload X324 hx hZ rfl w324_0 (own_inb (by decide) (by rw [own_s4_len]; decide)) (g := (mkF m 221 #[iv p1, iv p2, iv p3, iv (4 : Int32), rv b2, iv x0, iv x1, iv x2, iv x3, rv b286, iv kk0, iv kk1, iv kk2, iv kk3, iv ct0, iv ct1, rv b318, rv bx324_rb, .unset, .unset, .unset, .unset] [(.int (0 : Int32)), (.ref b318)])) rfl rfl (hb hby at_221)) ?_
  have hk333 : ((own_s4 kk0 kk1 kk2 kk3).getD 0 0) = (0 : Int32) := own_a4 (kk0 := kk0) (kk1 := kk1) (kk2 := kk2) (kk3 := kk3) (ct0 := ct0) (ct1 := ct1) h30 h31 h32 h33 hd_ct0 hd_ct1
  refine own_step (fun t k => XS.ifNo X324.here hx rfl (hb hby at_222) rfl ((if0 _ _).trans (teq hk333).2) k) ?_
  show own_G p.tables e below _ (T324.setTop (mkF m 225 #[iv p1, iv p2, iv p3, iv (4 : Int32), rv b2, iv x0, iv x1, iv x2, iv x3, rv b286, iv kk0, iv kk1, iv kk2, iv kk3, iv ct0, iv ct1, rv b318, rv bx324_rb, .unset, .unset, .unset, .unset] []))
  refine own_step (fun t k => XS.aload X324.here hx rfl (hb hby at_225) rfl rfl k) ?_
  refine own_step (fun t k => XS.iconst X324.here hx rfl (hb hby at_227) k) ?_
  refine own_step (own_iaload X324 hx hZ rfl w324_0 (own_inb (by decide) (by rw [own_s4_len]; decide)) (g := (mkF m 228 #[iv p1, iv p2, iv p3, iv (4 : Int32), rv b2, iv x0, iv x1, iv x2, iv x3, rv b286, iv kk0, iv kk1, iv kk2, iv kk3, iv ct0, iv ct1, rv b318, rv bx324_rb, .unset, .unset, .unset, .unset] [(.int (1 : Int32)), (.ref b318)])) rfl rfl (hb hby at_228)) ?_
  refine own_step (fun t k => XS.iload X324.here hx rfl (hb hby at_229) rfl k) ?_
  show own_G p.tables e below _ (T324.setTop (mkF m 231 #[iv p1, iv p2, iv p3, iv (4 : Int32), rv b2, iv x0, iv x1, iv x2, iv x3, rv b286, iv kk0, iv kk1, iv kk2, iv kk3, iv ct0, iv ct1, rv b318, rv bx324_rb, .unset, .unset, .unset, .unset] [(.int ct0), (.int ((own_s4 kk0 kk1 kk2 kk3).getD 1 0))]))
  have hk334 : ((own_s4 kk0 kk1 kk2 kk3).getD 1 0) = ct0 := own_b4 (kk0 := kk0) (kk1 := kk1) (kk2 := kk2) (kk3 := kk3) (ct0 := ct0) (ct1 := ct1) h30 h31 h32 h33 hd_ct0 hd_ct1
  refine own_step (fun t k => XS.icmpNo X324.here hx rfl (hb hby at_231) rfl ((teq hk334).2) k) ?_
  show own_G p.tables e below _ (T324.setTop (mkF m 234 #[iv p1, iv p2, iv p3, iv (4 : Int32), rv b2, iv x0, iv x1, iv x2, iv x3, rv b286, iv kk0, iv kk1, iv kk2, iv kk3, iv ct0, iv ct1, rv b318, rv bx324_rb, .unset, .unset, .unset, .unset] []))
  refine own_step (fun t k => XS.aload X324.here hx rfl (hb hby at_234) rfl rfl k) ?_
  refine own_step (fun t k => XS.iconst X324.here hx rfl (hb hby at_236) k) ?_
  refine own_step (own_iaload X324 hx hZ rfl w324_0 (own_inb (by decide) (by rw [own_s4_len]; decide)) (g := (mkF m 237 #[iv p1, iv p2, iv p3, iv (4 : Int32), rv b2, iv x0, iv x1, iv x2, iv x3, rv b286, iv kk0, iv kk1, iv kk2, iv kk3, iv ct0, iv ct1, rv b318, rv bx324_rb, .unset, .unset, .unset, .unset] [(.int (2 : Int32)), (.ref b318)])) rfl rfl (hb hby at_237)) ?_
  refine own_step (fun t k => XS.iload X324.here hx rfl (hb hby at_238) rfl k) ?_
  show own_G p.tables e below _ (T324.setTop (mkF m 240 #[iv p1, iv p2, iv p3, iv (4 : Int32), rv b2, iv x0, iv x1, iv x2, iv x3, rv b286, iv kk0, iv kk1, iv kk2, iv kk3, iv ct0, iv ct1, rv b318, rv bx324_rb, .unset, .unset, .unset, .unset] [(.int ct0), (.int ((own_s4 kk0 kk1 kk2 kk3).getD 2 0))]))
  refine own_step (fun t k => XS.iload X324.here hx rfl (hb hby at_240) rfl k) ?_
  refine own_step (fun t k => XS.iadd X324.here hx rfl (hb hby at_242) rfl k) ?_
  have hk335 : ((own_s4 kk0 kk1 kk2 kk3).getD 2 0) = (ct0 + ct1) := own_c4 (kk0 := kk0) (kk1 := kk1) (kk2 := kk2) (kk3 := kk3) (ct0 := ct0) (ct1 := ct1) h30 h31 h32 h33 hd_ct0 hd_ct1
  refine own_step (fun t k => XS.icmpNo X324.here hx rfl (hb hby at_243) rfl ((teq hk335).2) k) ?_
  show own_G p.tables e below _ (T324.setTop (mkF m 246 #[iv p1, iv p2, iv p3, iv (4 : Int32), rv b2, iv x0, iv x1, iv x2, iv x3, rv b286, iv kk0, iv kk1, iv kk2, iv kk3, iv ct0, iv ct1, rv b318, rv bx324_rb, .unset, .unset, .unset, .unset] []))
  refine own_step (fun t k => XS.aload X324.here hx rfl (hb hby at_246) rfl rfl k) ?_
  refine own_step (fun t k => XS.iconst X324.here hx rfl (hb hby at_248) k) ?_
  refine own_step (own_iaload X324 hx hZ rfl w324_0 (own_inb (by decide) (by rw [own_s4_len]; decide)) (g := (mkF m 249 #[iv p1, iv p2, iv p3, iv (4 : Int32), rv b2, iv x0, iv x1, iv x2, iv x3, rv b286, iv kk0, iv kk1, iv kk2, iv kk3, iv ct0, iv ct1, rv b318, rv bx324_rb, .unset, .unset, .unset, .unset] [(.int (3 : Int32)), (.ref b318)])) rfl rfl (hb hby at_249)) ?_
  refine own_step (fun t k => XS.iloadN X324.here hx rfl (hb hby at_250) rfl k) ?_
  show own_G p.tables e below _ (T324.setTop (mkF m 251 #[iv p1, iv p2, iv p3, iv (4 : Int32), rv b2, iv x0, iv x1, iv x2, iv x3, rv b286, iv kk0, iv kk1, iv kk2, iv kk3, iv ct0, iv ct1, rv b318, rv bx324_rb, .unset, .unset, .unset, .unset] [(.int (4 : Int32)), (.int ((own_s4 kk0 kk1 kk2 kk3).getD 3 0))]))
  have hk336 : ((own_s4 kk0 kk1 kk2 kk3).getD 3 0) = (4 : Int32) := own_d4 (kk0 := kk0) (kk1 := kk1) (kk2 := kk2) (kk3 := kk3) (ct0 := ct0) (ct1 := ct1) h30 h31 h32 h33 hd_ct0 hd_ct1
  refine own_step (fun t k => XS.icmpYes X324.here hx rfl (pc0 := 251) (pc' := 256) rfl (hb hby at_251) rfl ((teq hk336).1) (by decide) (by decide) k) ?_
  show own_G p.tables e below _ (T324.setTop (mkF m 256 #[iv p1, iv p2, iv p3, iv (4 : Int32), rv b2, iv x0, iv x1, iv x2, iv x3, rv b286, iv kk0, iv kk1, iv kk2, iv kk3, iv ct0, iv ct1, rv b318, rv bx324_rb, .unset, .unset, .unset, .unset] []))
  refine own_step (fun t k => XS.iload X324.here hx rfl (hb hby at_256) rfl k) ?_
  refine own_step (fun t k => XS.iload X324.here hx rfl (hb hby at_258) rfl k) ?_
  refine own_step (fun t k => XS.iload X324.here hx rfl (hb hby at_260) rfl k) ?_
  refine own_step (fun t k => XS.iloadN X324.here hx rfl (hb hby at_262) rfl k) ?_
  show own_G p.tables e below _ (T324.setTop (mkF m 263 #[iv p1, iv p2, iv p3, iv (4 : Int32), rv b2, iv x0, iv x1, iv x2, iv x3, rv b286, iv kk0, iv kk1, iv kk2, iv kk3, iv ct0, iv ct1, rv b318, rv bx324_rb, .unset, .unset, .unset, .unset] [(.int (4 : Int32)), (.int ct1), (.int ct0), (.int kk0)]))
  obtain ⟨_, _, ⟨T337, L337, k337, n337⟩, -, X337, ⟨Lc337, hQ337, l337, y337, z337⟩, st337⟩ := Jvm.LawKit.callS X324 hx (y := (⟨"com/example/stevedore/stevedore/MoveGraphGroupedPinLaw", "se", "(IIII)I"⟩ : MethodName)) hown (mvT hZ (hw _ (List.mem_of_getElem? (i := 21) rfl))) (mvT hZ (hw _ (List.mem_of_getElem? (i := 22) rfl))) (mvT hZ (hw _ (List.mem_of_getElem? (i := 3) rfl))) (mvT hZ (hw _ (List.mem_of_getElem? (i := 23) rfl))) (by decide) (backOf (W := 0) (rm4 l Z a0 hw [] kk0 ct0 ct1 (4 : Int32) T324.heap n0 (Nat.le_trans Z0 K324.1) ) hZ (hw _ (List.mem_of_getElem? (i := 23) rfl)) (hw _ (List.mem_of_getElem? (i := 3) rfl)) (by decide) (by decide)) (g := (mkF m 263 #[iv p1, iv p2, iv p3, iv (4 : Int32), rv b2, iv x0, iv x1, iv x2, iv x3, rv b286, iv kk0, iv kk1, iv kk2, iv kk3, iv ct0, iv ct1, rv b318, rv bx324_rb, .unset, .unset, .unset, .unset] [(.int (4 : Int32)), (.int ct1), (.int ct0), (.int kk0)])) rfl (by rw [hml]; rfl) (argsL := [(.int kk0), (.int ct0), (.int ct1), (.int (4 : Int32))]) (rest := []) (lenOf pd_0_2 rfl) rfl (by show 2 * 0 + _ ≤ _; exact Nat.le_of_eq rfl) (hb hby at_263) (fun _ _ => ⟨rfl, rfl, (by decide : 5 + 0 ≤ _), (by decide : 20 + 0 ≤ _)⟩)
  dsimp only [Pt.U, Pt.locs, Pt.cells, Pt.slots] at X337 l337 y337 z337 st337 hQ337
  subst y337 z337
  obtain ⟨rfl, N337q, e337⟩ := hQ337
  have N337 : Fr n0 L337 := by rw [l337]; exact Fr.app N324 N337q
  refine own_step st337 ?_
  refine own_nm ((own_f4 kk0 ct0 ct1 (4 : Int32)) : Int32) (fun pp0 => T337.setTop (mkF m 266 #[iv p1, iv p2, iv p3, iv (4 : Int32), rv b2, iv x0, iv x1, iv x2, iv x3, rv b286, iv kk0, iv kk1, iv kk2, iv kk3, iv ct0, iv ct1, rv b318, rv bx324_rb, .unset, .unset, .unset, .unset] [(.int pp0)])) ?_
  intro pp0 hd_pp0
  show own_G p.tables e below _ (T337.setTop (mkF m 266 #[iv p1, iv p2, iv p3, iv (4 : Int32), rv b2, iv x0, iv x1, iv x2, iv x3, rv b286, iv kk0, iv kk1, iv kk2, iv kk3, iv ct0, iv ct1, rv b318, rv bx324_rb, .unset, .unset, .unset, .unset] [(.int pp0)]))
  refine own_step (fun t k => XS.istore X337.here hx rfl (hb hby at_266) rfl (l' := #[iv p1, iv p2, iv p3, iv (4 : Int32), rv b2, iv x0, iv x1, iv x2, iv x3, rv b286, iv kk0, iv kk1, iv kk2, iv kk3, iv ct0, iv ct1, rv b318, rv bx324_rb, iv pp0, .unset, .unset, .unset]) rfl k) ?_
  refine own_step (fun t k => XS.iload X337.here hx rfl (hb hby at_268) rfl k) ?_
  refine own_step (fun t k => XS.iload X337.here hx rfl (hb hby at_270) rfl k) ?_
  refine own_step (fun t k => XS.iload X337.here hx rfl (hb hby at_272) rfl k) ?_
  show own_G p.tables e below _ (T337.setTop (mkF m 274 #[iv p1, iv p2, iv p3, iv (4 : Int32), rv b2, iv x0, iv x1, iv x2, iv x3, rv b286, iv kk0, iv kk1, iv kk2, iv kk3, iv ct0, iv ct1, rv b318, rv bx324_rb, iv pp0, .unset, .unset, .unset] [(.int ct1), (.int ct0), (.int kk1)]))
  refine own_step (fun t k => XS.iloadN X337.here hx rfl (hb hby at_274) rfl k) ?_
  obtain ⟨_, _, ⟨T339, L339, k339, n339⟩, -, X339, ⟨Lc339, hQ339, l339, y339, z339⟩, st339⟩ := Jvm.LawKit.callS X337 hx (y := (⟨"com/example/stevedore/stevedore/MoveGraphGroupedPinLaw", "se", "(IIII)I"⟩ : MethodName)) hown (mvT hZ (hw _ (List.mem_of_getElem? (i := 21) rfl))) (mvT hZ (hw _ (List.mem_of_getElem? (i := 22) rfl))) (mvT hZ (hw _ (List.mem_of_getElem? (i := 3) rfl))) (mvT hZ (hw _ (List.mem_of_getElem? (i := 23) rfl))) (by decide) (backOf (W := 0) (rm4 l Z a0 hw [] kk1 ct0 ct1 (4 : Int32) T324.heap n0 (Nat.le_trans Z0 K324.1) ) hZ (hw _ (List.mem_of_getElem? (i := 23) rfl)) (hw _ (List.mem_of_getElem? (i := 3) rfl)) (by decide) (by decide)) (g := (mkF m 275 #[iv p1, iv p2, iv p3, iv (4 : Int32), rv b2, iv x0, iv x1, iv x2, iv x3, rv b286, iv kk0, iv kk1, iv kk2, iv kk3, iv ct0, iv ct1, rv b318, rv bx324_rb, iv pp0, .unset, .unset, .unset] [(.int (4 : Int32)), (.int ct1), (.int ct0), (.int kk1)])) rfl (by rw [hml]; rfl) (argsL := [(.int kk1), (.int ct0), (.int ct1), (.int (4 : Int32))]) (rest := []) (lenOf pd_0_2 rfl) rfl (by show 2 * 0 + _ ≤ _; exact Nat.le_of_eq rfl) (hb hby at_275) (fun _ _ => ⟨rfl, e337, (by decide : 5 + 0 ≤ _), (by decide : 20 + 0 ≤ _)⟩)
  dsimp only [Pt.U, Pt.locs, Pt.cells, Pt.slots] at X339 l339 y339 z339 st339 hQ339
  subst y339 z339
  obtain ⟨rfl, N339q, e339⟩ := hQ339
  have N339 : Fr n0 L339 := by rw [l339]; exact Fr.app N337 N339q
  refine own_step st339 ?_
  refine own_step (fun t k => XS.iload X339.here hx rfl (hb hby at_278) rfl k) ?_
  refine own_step (fun t k => XS.iload X339.here hx rfl (hb hby at_280) rfl k) ?_
  clear N324 N337 N337q N339q X324 X337 e337 hk332 hk333 hk334 hk335 hk336 st337 st339
  show own_G p.tables e below _ (T339.setTop (mkF m 282 #[iv p1, iv p2, iv p3, iv (4 : Int32), rv b2, iv x0, iv x1, iv x2, iv x3, rv b286, iv kk0, iv kk1, iv kk2, iv kk3, iv ct0, iv ct1, rv b318, rv bx324_rb, iv pp0, .unset, .unset, .unset] [(.int kk1), (.int kk0), (.int (own_f4 kk1 ct0 ct1 (4 : Int32)))]))
  refine own_imp (B := T339.setTop (mkF m 290 #[iv p1, iv p2, iv p3, iv (4 : Int32), rv b2, iv x0, iv x1, iv x2, iv x3, rv b286, iv kk0, iv kk1, iv kk2, iv kk3, iv ct0, iv ct1, rv b318, rv bx324_rb, iv pp0, .unset, .unset, .unset] [(.int (if kk0 = kk1 then (1 : Int32) else (0 : Int32))), (.int (own_f4 kk1 ct0 ct1 (4 : Int32)))])) (fun k0 => ?_) ?_
  · by_cases hc340 : kk0 = kk1
    · simp only [if_pos hc340] at k0
      refine own_step (fun t k => XS.icmpNo X339.here hx rfl (hb hby at_282) rfl ((teq hc340).2) k) ?_
      show own_G p.tables e below _ (T339.setTop (mkF m 285 #[iv p1, iv p2, iv p3, iv (4 : Int32), rv b2, iv x0, iv x1, iv x2, iv x3, rv b286, iv kk0, iv kk1, iv kk2, iv kk3, iv ct0, iv ct1, rv b318, rv bx324_rb, iv pp0, .unset, .unset, .unset] [(.int (own_f4 kk1 ct0 ct1 (4 : Int32)))]))
      refine own_step (fun t k => XS.iconst X339.here hx rfl (hb hby at_285) k) ?_
      refine own_step (fun t k => XS.goto X339.here hx rfl (pc0 := 286) (pc' := 290) rfl (hb hby at_286) (by decide) (by decide) k) ?_
      exact k0
    · simp only [if_neg hc340] at k0
      refine own_step (fun t k => XS.icmpYes X339.here hx rfl (pc0 := 282) (pc' := 289) rfl (hb hby at_282) rfl ((feq hc340).2) (by decide) (by decide) k) ?_
      show own_G p.tables e below _ (T339.setTop (mkF m 289 #[iv p1, iv p2, iv p3, iv (4 : Int32), rv b2, iv x0, iv x1, iv x2, iv x3, rv b286, iv kk0, iv kk1, iv kk2, iv kk3, iv ct0, iv ct1, rv b318, rv bx324_rb, iv pp0, .unset, .unset, .unset] [(.int (own_f4 kk1 ct0 ct1 (4 : Int32)))]))
      refine own_step (fun t k => XS.iconst X339.here hx rfl (hb hby at_289) k) ?_
      exact k0
  show own_G p.tables e below _ (T339.setTop (mkF m 290 #[iv p1, iv p2, iv p3, iv (4 : Int32), rv b2, iv x0, iv x1, iv x2, iv x3, rv b286, iv kk0, iv kk1, iv kk2, iv kk3, iv ct0, iv ct1, rv b318, rv bx324_rb, iv pp0, .unset, .unset, .unset] [(.int (if kk0 = kk1 then (1 : Int32) else (0 : Int32))), (.int (own_f4 kk1 ct0 ct1 (4 : Int32)))]))
  obtain ⟨_, _, ⟨T341, L341, k341, n341⟩, -, X341, ⟨Lc341, hQ341, l341, y341, z341⟩, st341⟩ := Jvm.LawKit.callS X339 hx (y := (⟨"com/example/stevedore/stevedore/MoveGraphGroupedPinLaw", "one", "(Z)I"⟩ : MethodName)) hown (mvT hZ (hw _ (List.mem_of_getElem? (i := 5) rfl))) (mvT hZ (hw _ (List.mem_of_getElem? (i := 6) rfl))) (mvT hZ (hw _ (List.mem_of_getElem? (i := 3) rfl))) (mvT hZ (hw _ (List.mem_of_getElem? (i := 7) rfl))) (by decide) (backOf (W := 1) (rm2 l Z a0 hw [] (if kk0 = kk1 then (1 : Int32) else (0 : Int32)) T324.heap n0 (Nat.le_trans Z0 K324.1) ) hZ (hw _ (List.mem_of_getElem? (i := 7) rfl)) (hw _ (List.mem_of_getElem? (i := 3) rfl)) (by decide) (by decide)) (g := (mkF m 290 #[iv p1, iv p2, iv p3, iv (4 : Int32), rv b2, iv x0, iv x1, iv x2, iv x3, rv b286, iv kk0, iv kk1, iv kk2, iv kk3, iv ct0, iv ct1, rv b318, rv bx324_rb, iv pp0, .unset, .unset, .unset] [(.int (if kk0 = kk1 then (1 : Int32) else (0 : Int32))), (.int (own_f4 kk1 ct0 ct1 (4 : Int32)))])) rfl (by rw [hml]; rfl) (argsL := [(.int (if kk0 = kk1 then (1 : Int32) else (0 : Int32)))]) (rest := [(.int (own_f4 kk1 ct0 ct1 (4 : Int32)))]) (lenOf pd_0_3 rfl) rfl (by show 2 * 0 + _ ≤ _; exact Nat.le_of_eq rfl) (hb hby at_290) (fun _ _ => ⟨rfl, e339, (by decide : 5 + 0 ≤ _), (by decide : 20 + 0 ≤ _)⟩)
  dsimp only [Pt.U, Pt.locs, Pt.cells, Pt.slots] at X341 l341 y341 z341 st341 hQ341
  subst y341 z341
  obtain ⟨rfl, N341q, e341⟩ := hQ341
  have N341 : Fr n0 L341 := by rw [l341]; exact Fr.app N339 N341q
  refine own_step st341 ?_
  refine own_step (fun t k => XS.iadd X341.here hx rfl (hb hby at_293) rfl k) ?_
  refine own_nm (((own_f4 kk1 ct0 ct1 (4 : Int32)) + (own_f2 (if kk0 = kk1 then (1 : Int32) else (0 : Int32)))) : Int32) (fun pp1 => T341.setTop (mkF m 294 #[iv p1, iv p2, iv p3, iv (4 : Int32), rv b2, iv x0, iv x1, iv x2, iv x3, rv b286, iv kk0, iv kk1, iv kk2, iv kk3, iv ct0, iv ct1, rv b318, rv bx324_rb, iv pp0, .unset, .unset, .unset] [(.int pp1)])) ?_
  intro pp1 hd_pp1
  show own_G p.tables e below _ (T341.setTop (mkF m 294 #[iv p1, iv p2, iv p3, iv (4 : Int32), rv b2, iv x0, iv x1, iv x2, iv x3, rv b286, iv kk0, iv kk1, iv kk2, iv kk3, iv ct0, iv ct1, rv b318, rv bx324_rb, iv pp0, .unset, .unset, .unset] [(.int pp1)]))
  refine own_step (fun t k => XS.istore X341.here hx rfl (hb hby at_294) rfl (l' := #[iv p1, iv p2, iv p3, iv (4 : Int32), rv b2, iv x0, iv x1, iv x2, iv x3, rv b286, iv kk0, iv kk1, iv kk2, iv kk3, iv ct0, iv ct1, rv b318, rv bx324_rb, iv pp0, iv pp1, .unset, .unset]) rfl k) ?_
  refine own_step (fun t k => XS.iload X341.here hx rfl (hb hby at_296) rfl k) ?_
  refine own_step (fun t k => XS.iload X341.here hx rfl (hb hby at_298) rfl k) ?_
  refine own_step (fun t k => XS.iload X341.here hx rfl (hb hby at_300) rfl k) ?_
  show own_G p.tables e below _ (T341.setTop (mkF m 302 #[iv p1, iv p2, iv p3, iv (4 : Int32), rv b2, iv x0, iv x1, iv x2, iv x3, rv b286, iv kk0, iv kk1, iv kk2, iv kk3, iv ct0, iv ct1, rv b318, rv bx324_rb, iv pp0, iv pp1, .unset, .unset] [(.int ct1), (.int ct0), (.int kk2)]))
  refine own_step (fun t k => XS.iloadN X341.here hx rfl (hb hby at_302) rfl k) ?_
  obtain ⟨_, _, ⟨T343, L343, k343, n343⟩, -, X343, ⟨Lc343, hQ343, l343, y343, z343⟩, st343⟩ := Jvm.LawKit.callS X341 hx (y := (⟨"com/example/stevedore/stevedore/MoveGraphGroupedPinLaw", "se", "(IIII)I"⟩ : MethodName)) hown (mvT hZ (hw _ (List.mem_of_getElem? (i := 21) rfl))) (mvT hZ (hw _ (List.mem_of_getElem? (i := 22) rfl))) (mvT hZ (hw _ (List.mem_of_getElem? (i := 3) rfl))) (mvT hZ (hw _ (List.mem_of_getElem? (i := 23) rfl))) (by decide) (backOf (W := 0) (rm4 l Z a0 hw [] kk2 ct0 ct1 (4 : Int32) T324.heap n0 (Nat.le_trans Z0 K324.1) ) hZ (hw _ (List.mem_of_getElem? (i := 23) rfl)) (hw _ (List.mem_of_getElem? (i := 3) rfl)) (by decide) (by decide)) (g := (mkF m 303 #[iv p1, iv p2, iv p3, iv (4 : Int32), rv b2, iv x0, iv x1, iv x2, iv x3, rv b286, iv kk0, iv kk1, iv kk2, iv kk3, iv ct0, iv ct1, rv b318, rv bx324_rb, iv pp0, iv pp1, .unset, .unset] [(.int (4 : Int32)), (.int ct1), (.int ct0), (.int kk2)])) rfl (by rw [hml]; rfl) (argsL := [(.int kk2), (.int ct0), (.int ct1), (.int (4 : Int32))]) (rest := []) (lenOf pd_0_2 rfl) rfl (by show 2 * 0 + _ ≤ _; exact Nat.le_of_eq rfl) (hb hby at_303) (fun _ _ => ⟨rfl, e341, (by decide : 5 + 0 ≤ _), (by decide : 20 + 0 ≤ _)⟩)
  dsimp only [Pt.U, Pt.locs, Pt.cells, Pt.slots] at X343 l343 y343 z343 st343 hQ343
  subst y343 z343
  obtain ⟨rfl, N343q, e343⟩ := hQ343
  have N343 : Fr n0 L343 := by rw [l343]; exact Fr.app N341 N343q
  refine own_step st343 ?_
  refine own_step (fun t k => XS.iload X343.here hx rfl (hb hby at_306) rfl k) ?_
  refine own_step (fun t k => XS.iload X343.here hx rfl (hb hby at_308) rfl k) ?_
  clear N339 N341 N341q N343q X339 X341 e339 e341 st341 st343
  show own_G p.tables e below _ (T343.setTop (mkF m 310 #[iv p1, iv p2, iv p3, iv (4 : Int32), rv b2, iv x0, iv x1, iv x2, iv x3, rv b286, iv kk0, iv kk1, iv kk2, iv kk3, iv ct0, iv ct1, rv b318, rv bx324_rb, iv pp0, iv pp1, .unset, .unset] [(.int kk2), (.int kk0), (.int (own_f4 kk2 ct0 ct1 (4 : Int32)))]))
  refine own_imp (B := T343.setTop (mkF m 318 #[iv p1, iv p2, iv p3, iv (4 : Int32), rv b2, iv x0, iv x1, iv x2, iv x3, rv b286, iv kk0, iv kk1, iv kk2, iv kk3, iv ct0, iv ct1, rv b318, rv bx324_rb, iv pp0, iv pp1, .unset, .unset] [(.int (if kk0 = kk2 then (1 : Int32) else (0 : Int32))), (.int (own_f4 kk2 ct0 ct1 (4 : Int32)))])) (fun k0 => ?_) ?_
  · by_cases hc344 : kk0 = kk2
    · simp only [if_pos hc344] at k0
      refine own_step (fun t k => XS.icmpNo X343.here hx rfl (hb hby at_310) rfl ((teq hc344).2) k) ?_
      show own_G p.tables e below _ (T343.setTop (mkF m 313 #[iv p1, iv p2, iv p3, iv (4 : Int32), rv b2, iv x0, iv x1, iv x2, iv x3, rv b286, iv kk0, iv kk1, iv kk2, iv kk3, iv ct0, iv ct1, rv b318, rv bx324_rb, iv pp0, iv pp1, .unset, .unset] [(.int (own_f4 kk2 ct0 ct1 (4 : Int32)))]))
      refine own_step (fun t k => XS.iconst X343.here hx rfl (hb hby at_313) k) ?_
      refine own_step (fun t k => XS.goto X343.here hx rfl (pc0 := 314) (pc' := 318) rfl (hb hby at_314) (by decide) (by decide) k) ?_
      exact k0
    · simp only [if_neg hc344] at k0
      refine own_step (fun t k => XS.icmpYes X343.here hx rfl (pc0 := 310) (pc' := 317) rfl (hb hby at_310) rfl ((feq hc344).2) (by decide) (by decide) k) ?_
      show own_G p.tables e below _ (T343.setTop (mkF m 317 #[iv p1, iv p2, iv p3, iv (4 : Int32), rv b2, iv x0, iv x1, iv x2, iv x3, rv b286, iv kk0, iv kk1, iv kk2, iv kk3, iv ct0, iv ct1, rv b318, rv bx324_rb, iv pp0, iv pp1, .unset, .unset] [(.int (own_f4 kk2 ct0 ct1 (4 : Int32)))]))
      refine own_step (fun t k => XS.iconst X343.here hx rfl (hb hby at_317) k) ?_
      exact k0
  show own_G p.tables e below _ (T343.setTop (mkF m 318 #[iv p1, iv p2, iv p3, iv (4 : Int32), rv b2, iv x0, iv x1, iv x2, iv x3, rv b286, iv kk0, iv kk1, iv kk2, iv kk3, iv ct0, iv ct1, rv b318, rv bx324_rb, iv pp0, iv pp1, .unset, .unset] [(.int (if kk0 = kk2 then (1 : Int32) else (0 : Int32))), (.int (own_f4 kk2 ct0 ct1 (4 : Int32)))]))
  obtain ⟨_, _, ⟨T345, L345, k345, n345⟩, -, X345, ⟨Lc345, hQ345, l345, y345, z345⟩, st345⟩ := Jvm.LawKit.callS X343 hx (y := (⟨"com/example/stevedore/stevedore/MoveGraphGroupedPinLaw", "one", "(Z)I"⟩ : MethodName)) hown (mvT hZ (hw _ (List.mem_of_getElem? (i := 5) rfl))) (mvT hZ (hw _ (List.mem_of_getElem? (i := 6) rfl))) (mvT hZ (hw _ (List.mem_of_getElem? (i := 3) rfl))) (mvT hZ (hw _ (List.mem_of_getElem? (i := 7) rfl))) (by decide) (backOf (W := 1) (rm2 l Z a0 hw [] (if kk0 = kk2 then (1 : Int32) else (0 : Int32)) T324.heap n0 (Nat.le_trans Z0 K324.1) ) hZ (hw _ (List.mem_of_getElem? (i := 7) rfl)) (hw _ (List.mem_of_getElem? (i := 3) rfl)) (by decide) (by decide)) (g := (mkF m 318 #[iv p1, iv p2, iv p3, iv (4 : Int32), rv b2, iv x0, iv x1, iv x2, iv x3, rv b286, iv kk0, iv kk1, iv kk2, iv kk3, iv ct0, iv ct1, rv b318, rv bx324_rb, iv pp0, iv pp1, .unset, .unset] [(.int (if kk0 = kk2 then (1 : Int32) else (0 : Int32))), (.int (own_f4 kk2 ct0 ct1 (4 : Int32)))])) rfl (by rw [hml]; rfl) (argsL := [(.int (if kk0 = kk2 then (1 : Int32) else (0 : Int32)))]) (rest := [(.int (own_f4 kk2 ct0 ct1 (4 : Int32)))]) (lenOf pd_0_3 rfl) rfl (by show 2 * 0 + _ ≤ _; exact Nat.le_of_eq rfl) (hb hby at_318) (fun _ _ => ⟨rfl, e343, (by decide : 5 + 0 ≤ _), (by decide : 20 + 0 ≤ _)⟩)
  dsimp only [Pt.U, Pt.locs, Pt.cells, Pt.slots] at X345 l345 y345 z345 st345 hQ345
  subst y345 z345
  obtain ⟨rfl, N345q, e345⟩ := hQ345
  have N345 : Fr n0 L345 := by rw [l345]; exact Fr.app N343 N345q
  refine own_step st345 ?_
  refine own_step (fun t k => XS.iadd X345.here hx rfl (hb hby at_321) rfl k) ?_
  refine own_step (fun t k => XS.iload X345.here hx rfl (hb hby at_322) rfl k) ?_
  refine own_step (fun t k => XS.iload X345.here hx rfl (hb hby at_324) rfl k) ?_
  show own_G p.tables e below _ (T345.setTop (mkF m 326 #[iv p1, iv p2, iv p3, iv (4 : Int32), rv b2, iv x0, iv x1, iv x2, iv x3, rv b286, iv kk0, iv kk1, iv kk2, iv kk3, iv ct0, iv ct1, rv b318, rv bx324_rb, iv pp0, iv pp1, .unset, .unset] [(.int kk2), (.int kk1), (.int ((own_f4 kk2 ct0 ct1 (4 : Int32)) + (own_f2 (if kk0 = kk2 then (1 : Int32) else (0 : Int32)))))]))
  refine own_imp (B := T345.setTop (mkF m 334 #[iv p1, iv p2, iv p3, iv (4 : Int32), rv b2, iv x0, iv x1, iv x2, iv x3, rv b286, iv kk0, iv kk1, iv kk2, iv kk3, iv ct0, iv ct1, rv b318, rv bx324_rb, iv pp0, iv pp1, .unset, .unset] [(.int (if kk1 = kk2 then (1 : Int32) else (0 : Int32))), (.int ((own_f4 kk2 ct0 ct1 (4 : Int32)) + (own_f2 (if kk0 = kk2 then (1 : Int32) else (0 : Int32)))))])) (fun k0 => ?_) ?_
  · by_cases hc346 : kk1 = kk2
    · simp only [if_pos hc346] at k0
      refine own_step (fun t k => XS.icmpNo X345.here hx rfl (hb hby at_326) rfl ((teq hc346).2) k) ?_
      show own_G p.tables e below _ (T345.setTop (mkF m 329 #[iv p1, iv p2, iv p3, iv (4 : Int32), rv b2, iv x0, iv x1, iv x2, iv x3, rv b286, iv kk0, iv kk1, iv kk2, iv kk3, iv ct0, iv ct1, rv b318, rv bx324_rb, iv pp0, iv pp1, .unset, .unset] [(.int ((own_f4 kk2 ct0 ct1 (4 : Int32)) + (own_f2 (if kk0 = kk2 then (1 : Int32) else (0 : Int32)))))]))
      refine own_step (fun t k => XS.iconst X345.here hx rfl (hb hby at_329) k) ?_
      refine own_step (fun t k => XS.goto X345.here hx rfl (pc0 := 330) (pc' := 334) rfl (hb hby at_330) (by decide) (by decide) k) ?_
      exact k0
    · simp only [if_neg hc346] at k0
      refine own_step (fun t k => XS.icmpYes X345.here hx rfl (pc0 := 326) (pc' := 333) rfl (hb hby at_326) rfl ((feq hc346).2) (by decide) (by decide) k) ?_
      show own_G p.tables e below _ (T345.setTop (mkF m 333 #[iv p1, iv p2, iv p3, iv (4 : Int32), rv b2, iv x0, iv x1, iv x2, iv x3, rv b286, iv kk0, iv kk1, iv kk2, iv kk3, iv ct0, iv ct1, rv b318, rv bx324_rb, iv pp0, iv pp1, .unset, .unset] [(.int ((own_f4 kk2 ct0 ct1 (4 : Int32)) + (own_f2 (if kk0 = kk2 then (1 : Int32) else (0 : Int32)))))]))
      refine own_step (fun t k => XS.iconst X345.here hx rfl (hb hby at_333) k) ?_
      exact k0
  show own_G p.tables e below _ (T345.setTop (mkF m 334 #[iv p1, iv p2, iv p3, iv (4 : Int32), rv b2, iv x0, iv x1, iv x2, iv x3, rv b286, iv kk0, iv kk1, iv kk2, iv kk3, iv ct0, iv ct1, rv b318, rv bx324_rb, iv pp0, iv pp1, .unset, .unset] [(.int (if kk1 = kk2 then (1 : Int32) else (0 : Int32))), (.int ((own_f4 kk2 ct0 ct1 (4 : Int32)) + (own_f2 (if kk0 = kk2 then (1 : Int32) else (0 : Int32)))))]))
  obtain ⟨_, _, ⟨T347, L347, k347, n347⟩, -, X347, ⟨Lc347, hQ347, l347, y347, z347⟩, st347⟩ := Jvm.LawKit.callS X345 hx (y := (⟨"com/example/stevedore/stevedore/MoveGraphGroupedPinLaw", "one", "(Z)I"⟩ : MethodName)) hown (mvT hZ (hw _ (List.mem_of_getElem? (i := 5) rfl))) (mvT hZ (hw _ (List.mem_of_getElem? (i := 6) rfl))) (mvT hZ (hw _ (List.mem_of_getElem? (i := 3) rfl))) (mvT hZ (hw _ (List.mem_of_getElem? (i := 7) rfl))) (by decide) (backOf (W := 1) (rm2 l Z a0 hw [] (if kk1 = kk2 then (1 : Int32) else (0 : Int32)) T324.heap n0 (Nat.le_trans Z0 K324.1) ) hZ (hw _ (List.mem_of_getElem? (i := 7) rfl)) (hw _ (List.mem_of_getElem? (i := 3) rfl)) (by decide) (by decide)) (g := (mkF m 334 #[iv p1, iv p2, iv p3, iv (4 : Int32), rv b2, iv x0, iv x1, iv x2, iv x3, rv b286, iv kk0, iv kk1, iv kk2, iv kk3, iv ct0, iv ct1, rv b318, rv bx324_rb, iv pp0, iv pp1, .unset, .unset] [(.int (if kk1 = kk2 then (1 : Int32) else (0 : Int32))), (.int ((own_f4 kk2 ct0 ct1 (4 : Int32)) + (own_f2 (if kk0 = kk2 then (1 : Int32) else (0 : Int32)))))])) rfl (by rw [hml]; rfl) (argsL := [(.int (if kk1 = kk2 then (1 : Int32) else (0 : Int32)))]) (rest := [(.int ((own_f4 kk2 ct0 ct1 (4 : Int32)) + (own_f2 (if kk0 = kk2 then (1 : Int32) else (0 : Int32)))))]) (lenOf pd_0_3 rfl) rfl (by show 2 * 0 + _ ≤ _; exact Nat.le_of_eq rfl) (hb hby at_334) (fun _ _ => ⟨rfl, e345, (by decide : 5 + 0 ≤ _), (by decide : 20 + 0 ≤ _)⟩)
  dsimp only [Pt.U, Pt.locs, Pt.cells, Pt.slots] at X347 l347 y347 z347 st347 hQ347
  subst y347 z347
  obtain ⟨rfl, N347q, e347⟩ := hQ347
  have N347 : Fr n0 L347 := by rw [l347]; exact Fr.app N345 N347q
  refine own_step st347 ?_
  refine own_step (fun t k => XS.iadd X347.here hx rfl (hb hby at_337) rfl k) ?_
  refine own_nm ((((own_f4 kk2 ct0 ct1 (4 : Int32)) + (own_f2 (if kk0 = kk2 then (1 : Int32) else (0 : Int32)))) + (own_f2 (if kk1 = kk2 then (1 : Int32) else (0 : Int32)))) : Int32) (fun pp2 => T347.setTop (mkF m 338 #[iv p1, iv p2, iv p3, iv (4 : Int32), rv b2, iv x0, iv x1, iv x2, iv x3, rv b286, iv kk0, iv kk1, iv kk2, iv kk3, iv ct0, iv ct1, rv b318, rv bx324_rb, iv pp0, iv pp1, .unset, .unset] [(.int pp2)])) ?_
  intro pp2 hd_pp2
  clear N343 N345 N345q N347q X343 X345 e343 e345 st345 st347
  show own_G p.tables e below _ (T347.setTop (mkF m 338 #[iv p1, iv p2, iv p3, iv (4 : Int32), rv b2, iv x0, iv x1, iv x2, iv x3, rv b286, iv kk0, iv kk1, iv kk2, iv kk3, iv ct0, iv ct1, rv b318, rv bx324_rb, iv pp0, iv pp1, .unset, .unset] [(.int pp2)]))
  refine own_step (fun t k => XS.istore X347.here hx rfl (hb hby at_338) rfl (l' := #[iv p1, iv p2, iv p3, iv (4 : Int32), rv b2, iv x0, iv x1, iv x2, iv x3, rv b286, iv kk0, iv kk1, iv kk2, iv kk3, iv ct0, iv ct1, rv b318, rv bx324_rb, iv pp0, iv pp1, iv pp2, .unset]) rfl k) ?_
  refine own_step (fun t k => XS.iload X347.here hx rfl (hb hby at_340) rfl k) ?_
  refine own_step (fun t k => XS.iload X347.here hx rfl (hb hby at_342) rfl k) ?_
  refine own_step (fun t k => XS.iload X347.here hx rfl (hb hby at_344) rfl k) ?_
  show own_G p.tables e below _ (T347.setTop (mkF m 346 #[iv p1, iv p2, iv p3, iv (4 : Int32), rv b2, iv x0, iv x1, iv x2, iv x3, rv b286, iv kk0, iv kk1, iv kk2, iv kk3, iv ct0, iv ct1, rv b318, rv bx324_rb, iv pp0, iv pp1, iv pp2, .unset] [(.int ct1), (.int ct0), (.int kk3)]))
  refine own_step (fun t k => XS.iloadN X347.here hx rfl (hb hby at_346) rfl k) ?_
  obtain ⟨_, _, ⟨T349, L349, k349, n349⟩, -, X349, ⟨Lc349, hQ349, l349, y349, z349⟩, st349⟩ := Jvm.LawKit.callS X347 hx (y := (⟨"com/example/stevedore/stevedore/MoveGraphGroupedPinLaw", "se", "(IIII)I"⟩ : MethodName)) hown (mvT hZ (hw _ (List.mem_of_getElem? (i := 21) rfl))) (mvT hZ (hw _ (List.mem_of_getElem? (i := 22) rfl))) (mvT hZ (hw _ (List.mem_of_getElem? (i := 3) rfl))) (mvT hZ (hw _ (List.mem_of_getElem? (i := 23) rfl))) (by decide) (backOf (W := 0) (rm4 l Z a0 hw [] kk3 ct0 ct1 (4 : Int32) T324.heap n0 (Nat.le_trans Z0 K324.1) ) hZ (hw _ (List.mem_of_getElem? (i := 23) rfl)) (hw _ (List.mem_of_getElem? (i := 3) rfl)) (by decide) (by decide)) (g := (mkF m 347 #[iv p1, iv p2, iv p3, iv (4 : Int32), rv b2, iv x0, iv x1, iv x2, iv x3, rv b286, iv kk0, iv kk1, iv kk2, iv kk3, iv ct0, iv ct1, rv b318, rv bx324_rb, iv pp0, iv pp1, iv pp2, .unset] [(.int (4 : Int32)), (.int ct1), (.int ct0), (.int kk3)])) rfl (by rw [hml]; rfl) (argsL := [(.int kk3), (.int ct0), (.int ct1), (.int (4 : Int32))]) (rest := []) (lenOf pd_0_2 rfl) rfl (by show 2 * 0 + _ ≤ _; exact Nat.le_of_eq rfl) (hb hby at_347) (fun _ _ => ⟨rfl, e347, (by decide : 5 + 0 ≤ _), (by decide : 20 + 0 ≤ _)⟩)
  dsimp only [Pt.U, Pt.locs, Pt.cells, Pt.slots] at X349 l349 y349 z349 st349 hQ349
  subst y349 z349
  obtain ⟨rfl, N349q, e349⟩ := hQ349
  have N349 : Fr n0 L349 := by rw [l349]; exact Fr.app N347 N349q
  refine own_step st349 ?_
  refine own_step (fun t k => XS.iload X349.here hx rfl (hb hby at_350) rfl k) ?_
  refine own_step (fun t k => XS.iload X349.here hx rfl (hb hby at_352) rfl k) ?_
  show own_G p.tables e below _ (T349.setTop (mkF m 354 #[iv p1, iv p2, iv p3, iv (4 : Int32), rv b2, iv x0, iv x1, iv x2, iv x3, rv b286, iv kk0, iv kk1, iv kk2, iv kk3, iv ct0, iv ct1, rv b318, rv bx324_rb, iv pp0, iv pp1, iv pp2, .unset] [(.int kk3), (.int kk0), (.int (own_f4 kk3 ct0 ct1 (4 : Int32)))]))
  refine own_imp (B := T349.setTop (mkF m 362 #[iv p1, iv p2, iv p3, iv (4 : Int32), rv b2, iv x0, iv x1, iv x2, iv x3, rv b286, iv kk0, iv kk1, iv kk2, iv kk3, iv ct0, iv ct1, rv b318, rv bx324_rb, iv pp0, iv pp1, iv pp2, .unset] [(.int (if kk0 = kk3 then (1 : Int32) else (0 : Int32))), (.int (own_f4 kk3 ct0 ct1 (4 : Int32)))])) (fun k0 => ?_) ?_
  · by_cases hc350 : kk0 = kk3
    · simp only [if_pos hc350] at k0
      refine own_step (fun t k => XS.icmpNo X349.here hx rfl (hb hby at_354) rfl ((teq hc350).2) k) ?_
      show own_G p.tables e below _ (T349.setTop (mkF m 357 #[iv p1, iv p2, iv p3, iv (4 : Int32), rv b2, iv x0, iv x1, iv x2, iv x3, rv b286, iv kk0, iv kk1, iv kk2, iv kk3, iv ct0, iv ct1, rv b318, rv bx324_rb, iv pp0, iv pp1, iv pp2, .unset] [(.int (own_f4 kk3 ct0 ct1 (4 : Int32)))]))
      refine own_step (fun t k => XS.iconst X349.here hx rfl (hb hby at_357) k) ?_
      refine own_step (fun t k => XS.goto X349.here hx rfl (pc0 := 358) (pc' := 362) rfl (hb hby at_358) (by decide) (by decide) k) ?_
      exact k0
    · simp only [if_neg hc350] at k0
      refine own_step (fun t k => XS.icmpYes X349.here hx rfl (pc0 := 354) (pc' := 361) rfl (hb hby at_354) rfl ((feq hc350).2) (by decide) (by decide) k) ?_
      show own_G p.tables e below _ (T349.setTop (mkF m 361 #[iv p1, iv p2, iv p3, iv (4 : Int32), rv b2, iv x0, iv x1, iv x2, iv x3, rv b286, iv kk0, iv kk1, iv kk2, iv kk3, iv ct0, iv ct1, rv b318, rv bx324_rb, iv pp0, iv pp1, iv pp2, .unset] [(.int (own_f4 kk3 ct0 ct1 (4 : Int32)))]))
      refine own_step (fun t k => XS.iconst X349.here hx rfl (hb hby at_361) k) ?_
      exact k0
  show own_G p.tables e below _ (T349.setTop (mkF m 362 #[iv p1, iv p2, iv p3, iv (4 : Int32), rv b2, iv x0, iv x1, iv x2, iv x3, rv b286, iv kk0, iv kk1, iv kk2, iv kk3, iv ct0, iv ct1, rv b318, rv bx324_rb, iv pp0, iv pp1, iv pp2, .unset] [(.int (if kk0 = kk3 then (1 : Int32) else (0 : Int32))), (.int (own_f4 kk3 ct0 ct1 (4 : Int32)))]))
  obtain ⟨_, _, ⟨T351, L351, k351, n351⟩, -, X351, ⟨Lc351, hQ351, l351, y351, z351⟩, st351⟩ := Jvm.LawKit.callS X349 hx (y := (⟨"com/example/stevedore/stevedore/MoveGraphGroupedPinLaw", "one", "(Z)I"⟩ : MethodName)) hown (mvT hZ (hw _ (List.mem_of_getElem? (i := 5) rfl))) (mvT hZ (hw _ (List.mem_of_getElem? (i := 6) rfl))) (mvT hZ (hw _ (List.mem_of_getElem? (i := 3) rfl))) (mvT hZ (hw _ (List.mem_of_getElem? (i := 7) rfl))) (by decide) (backOf (W := 1) (rm2 l Z a0 hw [] (if kk0 = kk3 then (1 : Int32) else (0 : Int32)) T324.heap n0 (Nat.le_trans Z0 K324.1) ) hZ (hw _ (List.mem_of_getElem? (i := 7) rfl)) (hw _ (List.mem_of_getElem? (i := 3) rfl)) (by decide) (by decide)) (g := (mkF m 362 #[iv p1, iv p2, iv p3, iv (4 : Int32), rv b2, iv x0, iv x1, iv x2, iv x3, rv b286, iv kk0, iv kk1, iv kk2, iv kk3, iv ct0, iv ct1, rv b318, rv bx324_rb, iv pp0, iv pp1, iv pp2, .unset] [(.int (if kk0 = kk3 then (1 : Int32) else (0 : Int32))), (.int (own_f4 kk3 ct0 ct1 (4 : Int32)))])) rfl (by rw [hml]; rfl) (argsL := [(.int (if kk0 = kk3 then (1 : Int32) else (0 : Int32)))]) (rest := [(.int (own_f4 kk3 ct0 ct1 (4 : Int32)))]) (lenOf pd_0_3 rfl) rfl (by show 2 * 0 + _ ≤ _; exact Nat.le_of_eq rfl) (hb hby at_362) (fun _ _ => ⟨rfl, e349, (by decide : 5 + 0 ≤ _), (by decide : 20 + 0 ≤ _)⟩)
  dsimp only [Pt.U, Pt.locs, Pt.cells, Pt.slots] at X351 l351 y351 z351 st351 hQ351
  subst y351 z351
  obtain ⟨rfl, N351q, e351⟩ := hQ351
  have N351 : Fr n0 L351 := by rw [l351]; exact Fr.app N349 N351q
  refine own_step st351 ?_
  refine own_step (fun t k => XS.iadd X351.here hx rfl (hb hby at_365) rfl k) ?_
  refine own_step (fun t k => XS.iload X351.here hx rfl (hb hby at_366) rfl k) ?_
  refine own_step (fun t k => XS.iload X351.here hx rfl (hb hby at_368) rfl k) ?_
  clear N347 N349 N349q N351q X347 X349 e347 e349 st349 st351
  show own_G p.tables e below _ (T351.setTop (mkF m 370 #[iv p1, iv p2, iv p3, iv (4 : Int32), rv b2, iv x0, iv x1, iv x2, iv x3, rv b286, iv kk0, iv kk1, iv kk2, iv kk3, iv ct0, iv ct1, rv b318, rv bx324_rb, iv pp0, iv pp1, iv pp2, .unset] [(.int kk3), (.int kk1), (.int ((own_f4 kk3 ct0 ct1 (4 : Int32)) + (own_f2 (if kk0 = kk3 then (1 : Int32) else (0 : Int32)))))]))
  refine own_imp (B := T351.setTop (mkF m 378 #[iv p1, iv p2, iv p3, iv (4 : Int32), rv b2, iv x0, iv x1, iv x2, iv x3, rv b286, iv kk0, iv kk1, iv kk2, iv kk3, iv ct0, iv ct1, rv b318, rv bx324_rb, iv pp0, iv pp1, iv pp2, .unset] [(.int (if kk1 = kk3 then (1 : Int32) else (0 : Int32))), (.int ((own_f4 kk3 ct0 ct1 (4 : Int32)) + (own_f2 (if kk0 = kk3 then (1 : Int32) else (0 : Int32)))))])) (fun k0 => ?_) ?_
  · by_cases hc352 : kk1 = kk3
    · simp only [if_pos hc352] at k0
      refine own_step (fun t k => XS.icmpNo X351.here hx rfl (hb hby at_370) rfl ((teq hc352).2) k) ?_
      show own_G p.tables e below _ (T351.setTop (mkF m 373 #[iv p1, iv p2, iv p3, iv (4 : Int32), rv b2, iv x0, iv x1, iv x2, iv x3, rv b286, iv kk0, iv kk1, iv kk2, iv kk3, iv ct0, iv ct1, rv b318, rv bx324_rb, iv pp0, iv pp1, iv pp2, .unset] [(.int ((own_f4 kk3 ct0 ct1 (4 : Int32)) + (own_f2 (if kk0 = kk3 then (1 : Int32) else (0 : Int32)))))]))
      refine own_step (fun t k => XS.iconst X351.here hx rfl (hb hby at_373) k) ?_
      refine own_step (fun t k => XS.goto X351.here hx rfl (pc0 := 374) (pc' := 378) rfl (hb hby at_374) (by decide) (by decide) k) ?_
      exact k0
    · simp only [if_neg hc352] at k0
      refine own_step (fun t k => XS.icmpYes X351.here hx rfl (pc0 := 370) (pc' := 377) rfl (hb hby at_370) rfl ((feq hc352).2) (by decide) (by decide) k) ?_
      show own_G p.tables e below _ (T351.setTop (mkF m 377 #[iv p1, iv p2, iv p3, iv (4 : Int32), rv b2, iv x0, iv x1, iv x2, iv x3, rv b286, iv kk0, iv kk1, iv kk2, iv kk3, iv ct0, iv ct1, rv b318, rv bx324_rb, iv pp0, iv pp1, iv pp2, .unset] [(.int ((own_f4 kk3 ct0 ct1 (4 : Int32)) + (own_f2 (if kk0 = kk3 then (1 : Int32) else (0 : Int32)))))]))
      refine own_step (fun t k => XS.iconst X351.here hx rfl (hb hby at_377) k) ?_
      exact k0
  show own_G p.tables e below _ (T351.setTop (mkF m 378 #[iv p1, iv p2, iv p3, iv (4 : Int32), rv b2, iv x0, iv x1, iv x2, iv x3, rv b286, iv kk0, iv kk1, iv kk2, iv kk3, iv ct0, iv ct1, rv b318, rv bx324_rb, iv pp0, iv pp1, iv pp2, .unset] [(.int (if kk1 = kk3 then (1 : Int32) else (0 : Int32))), (.int ((own_f4 kk3 ct0 ct1 (4 : Int32)) + (own_f2 (if kk0 = kk3 then (1 : Int32) else (0 : Int32)))))]))
  obtain ⟨_, _, ⟨T353, L353, k353, n353⟩, -, X353, ⟨Lc353, hQ353, l353, y353, z353⟩, st353⟩ := Jvm.LawKit.callS X351 hx (y := (⟨"com/example/stevedore/stevedore/MoveGraphGroupedPinLaw", "one", "(Z)I"⟩ : MethodName)) hown (mvT hZ (hw _ (List.mem_of_getElem? (i := 5) rfl))) (mvT hZ (hw _ (List.mem_of_getElem? (i := 6) rfl))) (mvT hZ (hw _ (List.mem_of_getElem? (i := 3) rfl))) (mvT hZ (hw _ (List.mem_of_getElem? (i := 7) rfl))) (by decide) (backOf (W := 1) (rm2 l Z a0 hw [] (if kk1 = kk3 then (1 : Int32) else (0 : Int32)) T324.heap n0 (Nat.le_trans Z0 K324.1) ) hZ (hw _ (List.mem_of_getElem? (i := 7) rfl)) (hw _ (List.mem_of_getElem? (i := 3) rfl)) (by decide) (by decide)) (g := (mkF m 378 #[iv p1, iv p2, iv p3, iv (4 : Int32), rv b2, iv x0, iv x1, iv x2, iv x3, rv b286, iv kk0, iv kk1, iv kk2, iv kk3, iv ct0, iv ct1, rv b318, rv bx324_rb, iv pp0, iv pp1, iv pp2, .unset] [(.int (if kk1 = kk3 then (1 : Int32) else (0 : Int32))), (.int ((own_f4 kk3 ct0 ct1 (4 : Int32)) + (own_f2 (if kk0 = kk3 then (1 : Int32) else (0 : Int32)))))])) rfl (by rw [hml]; rfl) (argsL := [(.int (if kk1 = kk3 then (1 : Int32) else (0 : Int32)))]) (rest := [(.int ((own_f4 kk3 ct0 ct1 (4 : Int32)) + (own_f2 (if kk0 = kk3 then (1 : Int32) else (0 : Int32)))))]) (lenOf pd_0_3 rfl) rfl (by show 2 * 0 + _ ≤ _; exact Nat.le_of_eq rfl) (hb hby at_378) (fun _ _ => ⟨rfl, e351, (by decide : 5 + 0 ≤ _), (by decide : 20 + 0 ≤ _)⟩)
  dsimp only [Pt.U, Pt.locs, Pt.cells, Pt.slots] at X353 l353 y353 z353 st353 hQ353
  subst y353 z353
  obtain ⟨rfl, N353q, e353⟩ := hQ353
  have N353 : Fr n0 L353 := by rw [l353]; exact Fr.app N351 N353q
  refine own_step st353 ?_
  refine own_step (fun t k => XS.iadd X353.here hx rfl (hb hby at_381) rfl k) ?_
  refine own_step (fun t k => XS.iload X353.here hx rfl (hb hby at_382) rfl k) ?_
  refine own_step (fun t k => XS.iload X353.here hx rfl (hb hby at_384) rfl k) ?_
  show own_G p.tables e below _ (T353.setTop (mkF m 386 #[iv p1, iv p2, iv p3, iv (4 : Int32), rv b2, iv x0, iv x1, iv x2, iv x3, rv b286, iv kk0, iv kk1, iv kk2, iv kk3, iv ct0, iv ct1, rv b318, rv bx324_rb, iv pp0, iv pp1, iv pp2, .unset] [(.int kk3), (.int kk2), (.int (((own_f4 kk3 ct0 ct1 (4 : Int32)) + (own_f2 (if kk0 = kk3 then (1 : Int32) else (0 : Int32)))) + (own_f2 (if kk1 = kk3 then (1 : Int32) else (0 : Int32)))))]))
  refine own_imp (B := T353.setTop (mkF m 394 #[iv p1, iv p2, iv p3, iv (4 : Int32), rv b2, iv x0, iv x1, iv x2, iv x3, rv b286, iv kk0, iv kk1, iv kk2, iv kk3, iv ct0, iv ct1, rv b318, rv bx324_rb, iv pp0, iv pp1, iv pp2, .unset] [(.int (if kk2 = kk3 then (1 : Int32) else (0 : Int32))), (.int (((own_f4 kk3 ct0 ct1 (4 : Int32)) + (own_f2 (if kk0 = kk3 then (1 : Int32) else (0 : Int32)))) + (own_f2 (if kk1 = kk3 then (1 : Int32) else (0 : Int32)))))])) (fun k0 => ?_) ?_
  · by_cases hc354 : kk2 = kk3
    · simp only [if_pos hc354] at k0
      refine own_step (fun t k => XS.icmpNo X353.here hx rfl (hb hby at_386) rfl ((teq hc354).2) k) ?_
      show own_G p.tables e below _ (T353.setTop (mkF m 389 #[iv p1, iv p2, iv p3, iv (4 : Int32), rv b2, iv x0, iv x1, iv x2, iv x3, rv b286, iv kk0, iv kk1, iv kk2, iv kk3, iv ct0, iv ct1, rv b318, rv bx324_rb, iv pp0, iv pp1, iv pp2, .unset] [(.int (((own_f4 kk3 ct0 ct1 (4 : Int32)) + (own_f2 (if kk0 = kk3 then (1 : Int32) else (0 : Int32)))) + (own_f2 (if kk1 = kk3 then (1 : Int32) else (0 : Int32)))))]))
      refine own_step (fun t k => XS.iconst X353.here hx rfl (hb hby at_389) k) ?_
      refine own_step (fun t k => XS.goto X353.here hx rfl (pc0 := 390) (pc' := 394) rfl (hb hby at_390) (by decide) (by decide) k) ?_
      exact k0
    · simp only [if_neg hc354] at k0
      refine own_step (fun t k => XS.icmpYes X353.here hx rfl (pc0 := 386) (pc' := 393) rfl (hb hby at_386) rfl ((feq hc354).2) (by decide) (by decide) k) ?_
      show own_G p.tables e below _ (T353.setTop (mkF m 393 #[iv p1, iv p2, iv p3, iv (4 : Int32), rv b2, iv x0, iv x1, iv x2, iv x3, rv b286, iv kk0, iv kk1, iv kk2, iv kk3, iv ct0, iv ct1, rv b318, rv bx324_rb, iv pp0, iv pp1, iv pp2, .unset] [(.int (((own_f4 kk3 ct0 ct1 (4 : Int32)) + (own_f2 (if kk0 = kk3 then (1 : Int32) else (0 : Int32)))) + (own_f2 (if kk1 = kk3 then (1 : Int32) else (0 : Int32)))))]))
      refine own_step (fun t k => XS.iconst X353.here hx rfl (hb hby at_393) k) ?_
      exact k0
  show own_G p.tables e below _ (T353.setTop (mkF m 394 #[iv p1, iv p2, iv p3, iv (4 : Int32), rv b2, iv x0, iv x1, iv x2, iv x3, rv b286, iv kk0, iv kk1, iv kk2, iv kk3, iv ct0, iv ct1, rv b318, rv bx324_rb, iv pp0, iv pp1, iv pp2, .unset] [(.int (if kk2 = kk3 then (1 : Int32) else (0 : Int32))), (.int (((own_f4 kk3 ct0 ct1 (4 : Int32)) + (own_f2 (if kk0 = kk3 then (1 : Int32) else (0 : Int32)))) + (own_f2 (if kk1 = kk3 then (1 : Int32) else (0 : Int32)))))]))
  obtain ⟨_, _, ⟨T355, L355, k355, n355⟩, -, X355, ⟨Lc355, hQ355, l355, y355, z355⟩, st355⟩ := Jvm.LawKit.callS X353 hx (y := (⟨"com/example/stevedore/stevedore/MoveGraphGroupedPinLaw", "one", "(Z)I"⟩ : MethodName)) hown (mvT hZ (hw _ (List.mem_of_getElem? (i := 5) rfl))) (mvT hZ (hw _ (List.mem_of_getElem? (i := 6) rfl))) (mvT hZ (hw _ (List.mem_of_getElem? (i := 3) rfl))) (mvT hZ (hw _ (List.mem_of_getElem? (i := 7) rfl))) (by decide) (backOf (W := 1) (rm2 l Z a0 hw [] (if kk2 = kk3 then (1 : Int32) else (0 : Int32)) T324.heap n0 (Nat.le_trans Z0 K324.1) ) hZ (hw _ (List.mem_of_getElem? (i := 7) rfl)) (hw _ (List.mem_of_getElem? (i := 3) rfl)) (by decide) (by decide)) (g := (mkF m 394 #[iv p1, iv p2, iv p3, iv (4 : Int32), rv b2, iv x0, iv x1, iv x2, iv x3, rv b286, iv kk0, iv kk1, iv kk2, iv kk3, iv ct0, iv ct1, rv b318, rv bx324_rb, iv pp0, iv pp1, iv pp2, .unset] [(.int (if kk2 = kk3 then (1 : Int32) else (0 : Int32))), (.int (((own_f4 kk3 ct0 ct1 (4 : Int32)) + (own_f2 (if kk0 = kk3 then (1 : Int32) else (0 : Int32)))) + (own_f2 (if kk1 = kk3 then (1 : Int32) else (0 : Int32)))))])) rfl (by rw [hml]; rfl) (argsL := [(.int (if kk2 = kk3 then (1 : Int32) else (0 : Int32)))]) (rest := [(.int (((own_f4 kk3 ct0 ct1 (4 : Int32)) + (own_f2 (if kk0 = kk3 then (1 : Int32) else (0 : Int32)))) + (own_f2 (if kk1 = kk3 then (1 : Int32) else (0 : Int32)))))]) (lenOf pd_0_3 rfl) rfl (by show 2 * 0 + _ ≤ _; exact Nat.le_of_eq rfl) (hb hby at_394) (fun _ _ => ⟨rfl, e353, (by decide : 5 + 0 ≤ _), (by decide : 20 + 0 ≤ _)⟩)
  dsimp only [Pt.U, Pt.locs, Pt.cells, Pt.slots] at X355 l355 y355 z355 st355 hQ355
  subst y355 z355
  obtain ⟨rfl, N355q, e355⟩ := hQ355
  have N355 : Fr n0 L355 := by rw [l355]; exact Fr.app N353 N355q
  refine own_step st355 ?_
  refine own_step (fun t k => XS.iadd X355.here hx rfl (hb hby at_397) rfl k) ?_
  refine own_nm (((((own_f4 kk3 ct0 ct1 (4 : Int32)) + (own_f2 (if kk0 = kk3 then (1 : Int32) else (0 : Int32)))) + (own_f2 (if kk1 = kk3 then (1 : Int32) else (0 : Int32)))) + (own_f2 (if kk2 = kk3 then (1 : Int32) else (0 : Int32)))) : Int32) (fun pp3 => T355.setTop (mkF m 398 #[iv p1, iv p2, iv p3, iv (4 : Int32), rv b2, iv x0, iv x1, iv x2, iv x3, rv b286, iv kk0, iv kk1, iv kk2, iv kk3, iv ct0, iv ct1, rv b318, rv bx324_rb, iv pp0, iv pp1, iv pp2, .unset] [(.int pp3)])) ?_
  intro pp3 hd_pp3
  clear N351 N353 N353q N355q X351 X353 e351 e353 st353 st355
  show own_G p.tables e below _ (T355.setTop (mkF m 398 #[iv p1, iv p2, iv p3, iv (4 : Int32), rv b2, iv x0, iv x1, iv x2, iv x3, rv b286, iv kk0, iv kk1, iv kk2, iv kk3, iv ct0, iv ct1, rv b318, rv bx324_rb, iv pp0, iv pp1, iv pp2, .unset] [(.int pp3)]))
  refine own_step (fun t k => XS.istore X355.here hx rfl (hb hby at_398) rfl (l' := #[iv p1, iv p2, iv p3, iv (4 : Int32), rv b2, iv x0, iv x1, iv x2, iv x3, rv b286, iv kk0, iv kk1, iv kk2, iv kk3, iv ct0, iv ct1, rv b318, rv bx324_rb, iv pp0, iv pp1, iv pp2, iv pp3]) rfl k) ?_
  refine own_step (fun t k => XS.iloadN X355.here hx rfl (hb hby at_400) rfl k) ?_
  have hk357 : (0 : Int32) < (4 : Int32) := (by decide)
  refine own_step (fun t k => XS.ifNo X355.here hx rfl (hb hby at_401) rfl ((if0 _ _).trans (tlt hk357).2.2.2) k) ?_
  show own_G p.tables e below _ (T355.setTop (mkF m 404 #[iv p1, iv p2, iv p3, iv (4 : Int32), rv b2, iv x0, iv x1, iv x2, iv x3, rv b286, iv kk0, iv kk1, iv kk2, iv kk3, iv ct0, iv ct1, rv b318, rv bx324_rb, iv pp0, iv pp1, iv pp2, iv pp3] []))
  refine own_step (fun t k => XS.aload X355.here hx rfl (hb hby at_404) rfl rfl k) ?_
  refine own_step (fun t k => XS.iload X355.here hx rfl (hb hby at_406) rfl k) ?_
  refine own_step (own_iaload X355 hx hZ e355 w324_1 (own_setL (by simp only [List.length_set]; rfl) (own_pb4_0 (kk0 := kk0) (kk1 := kk1) (kk2 := kk2) (kk3 := kk3) h30 h31 h32 h33 hd_ct0 hd_ct1 hd_pp0)) (g := (mkF m 408 #[iv p1, iv p2, iv p3, iv (4 : Int32), rv b2, iv x0, iv x1, iv x2, iv x3, rv b286, iv kk0, iv kk1, iv kk2, iv kk3, iv ct0, iv ct1, rv b318, rv bx324_rb, iv pp0, iv pp1, iv pp2, iv pp3] [(.int pp0), (.ref bx324_rb)])) rfl rfl (hb hby at_408)) ?_
  refine own_step (fun t k => XS.iload X355.here hx rfl (hb hby at_409) rfl k) ?_
  show own_G p.tables e below _ (T355.setTop (mkF m 411 #[iv p1, iv p2, iv p3, iv (4 : Int32), rv b2, iv x0, iv x1, iv x2, iv x3, rv b286, iv kk0, iv kk1, iv kk2, iv kk3, iv ct0, iv ct1, rv b318, rv bx324_rb, iv pp0, iv pp1, iv pp2, iv pp3] [(.int x0), (.int ((((([(0 : Int32), (0 : Int32), (0 : Int32), (0 : Int32)].set ((own_s4 kk0 kk1 kk2 kk3).getD kk0.toNatClampNeg 0).toNatClampNeg x0).set ((own_inc (own_s4 kk0 kk1 kk2 kk3) kk0).getD kk1.toNatClampNeg 0).toNatClampNeg x1).set ((own_inc (own_inc (own_s4 kk0 kk1 kk2 kk3) kk0) kk1).getD kk2.toNatClampNeg 0).toNatClampNeg x2).set ((own_inc (own_inc (own_inc (own_s4 kk0 kk1 kk2 kk3) kk0) kk1) kk2).getD kk3.toNatClampNeg 0).toNatClampNeg x3).getD pp0.toNatClampNeg 0))]))
  have hk358 : ((((([(0 : Int32), (0 : Int32), (0 : Int32), (0 : Int32)].set ((own_s4 kk0 kk1 kk2 kk3).getD kk0.toNatClampNeg 0).toNatClampNeg x0).set ((own_inc (own_s4 kk0 kk1 kk2 kk3) kk0).getD kk1.toNatClampNeg 0).toNatClampNeg x1).set ((own_inc (own_inc (own_s4 kk0 kk1 kk2 kk3) kk0) kk1).getD kk2.toNatClampNeg 0).toNatClampNeg x2).set ((own_inc (own_inc (own_inc (own_s4 kk0 kk1 kk2 kk3) kk0) kk1) kk2).getD kk3.toNatClampNeg 0).toNatClampNeg x3).getD pp0.toNatClampNeg 0) = x0 := own_g4_0 (kk0 := kk0) (kk1 := kk1) (kk2 := kk2) (kk3 := kk3) (x0 := x0) (x1 := x1) (x2 := x2) (x3 := x3) h30 h31 h32 h33 hd_ct0 hd_ct1 hd_pp0
  refine own_step (fun t k => XS.icmpYes X355.here hx rfl (pc0 := 411) (pc' := 416) rfl (hb hby at_411) rfl ((teq hk358).1) (by decide) (by decide) k) ?_
  show own_G p.tables e below _ (T355.setTop (mkF m 416 #[iv p1, iv p2, iv p3, iv (4 : Int32), rv b2, iv x0, iv x1, iv x2, iv x3, rv b286, iv kk0, iv kk1, iv kk2, iv kk3, iv ct0, iv ct1, rv b318, rv bx324_rb, iv pp0, iv pp1, iv pp2, iv pp3] []))
  refine own_step (fun t k => XS.iloadN X355.here hx rfl (hb hby at_416) rfl k) ?_
  refine own_step (fun t k => XS.iconst X355.here hx rfl (hb hby at_417) k) ?_
  have hk359 : (1 : Int32) < (4 : Int32) := (by decide)
  refine own_step (fun t k => XS.icmpNo X355.here hx rfl (hb hby at_418) rfl ((tlt hk359).2.2.2) k) ?_
  show own_G p.tables e below _ (T355.setTop (mkF m 421 #[iv p1, iv p2, iv p3, iv (4 : Int32), rv b2, iv x0, iv x1, iv x2, iv x3, rv b286, iv kk0, iv kk1, iv kk2, iv kk3, iv ct0, iv ct1, rv b318, rv bx324_rb, iv pp0, iv pp1, iv pp2, iv pp3] []))
  refine own_step (fun t k => XS.aload X355.here hx rfl (hb hby at_421) rfl rfl k) ?_
  refine own_step (fun t k => XS.iload X355.here hx rfl (hb hby at_423) rfl k) ?_
  refine own_step (own_iaload X355 hx hZ e355 w324_1 (own_setL (by simp only [List.length_set]; rfl) (own_pb4_1 (kk0 := kk0) (kk1 := kk1) (kk2 := kk2) (kk3 := kk3) h30 h31 h32 h33 hd_ct0 hd_ct1 hd_pp1)) (g := (mkF m 425 #[iv p1, iv p2, iv p3, iv (4 : Int32), rv b2, iv x0, iv x1, iv x2, iv x3, rv b286, iv kk0, iv kk1, iv kk2, iv kk3, iv ct0, iv ct1, rv b318, rv bx324_rb, iv pp0, iv pp1, iv pp2, iv pp3] [(.int pp1), (.ref bx324_rb)])) rfl rfl (hb hby at_425)) ?_
  refine own_step (fun t k => XS.iload X355.here hx rfl (hb hby at_426) rfl k) ?_
  show own_G p.tables e below _ (T355.setTop (mkF m 428 #[iv p1, iv p2, iv p3, iv (4 : Int32), rv b2, iv x0, iv x1, iv x2, iv x3, rv b286, iv kk0, iv kk1, iv kk2, iv kk3, iv ct0, iv ct1, rv b318, rv bx324_rb, iv pp0, iv pp1, iv pp2, iv pp3] [(.int x1), (.int ((((([(0 : Int32), (0 : Int32), (0 : Int32), (0 : Int32)].set ((own_s4 kk0 kk1 kk2 kk3).getD kk0.toNatClampNeg 0).toNatClampNeg x0).set ((own_inc (own_s4 kk0 kk1 kk2 kk3) kk0).getD kk1.toNatClampNeg 0).toNatClampNeg x1).set ((own_inc (own_inc (own_s4 kk0 kk1 kk2 kk3) kk0) kk1).getD kk2.toNatClampNeg 0).toNatClampNeg x2).set ((own_inc (own_inc (own_inc (own_s4 kk0 kk1 kk2 kk3) kk0) kk1) kk2).getD kk3.toNatClampNeg 0).toNatClampNeg x3).getD pp1.toNatClampNeg 0))]))
  have hk360 : ((((([(0 : Int32), (0 : Int32), (0 : Int32), (0 : Int32)].set ((own_s4 kk0 kk1 kk2 kk3).getD kk0.toNatClampNeg 0).toNatClampNeg x0).set ((own_inc (own_s4 kk0 kk1 kk2 kk3) kk0).getD kk1.toNatClampNeg 0).toNatClampNeg x1).set ((own_inc (own_inc (own_s4 kk0 kk1 kk2 kk3) kk0) kk1).getD kk2.toNatClampNeg 0).toNatClampNeg x2).set ((own_inc (own_inc (own_inc (own_s4 kk0 kk1 kk2 kk3) kk0) kk1) kk2).getD kk3.toNatClampNeg 0).toNatClampNeg x3).getD pp1.toNatClampNeg 0) = x1 := own_g4_1 (kk0 := kk0) (kk1 := kk1) (kk2 := kk2) (kk3 := kk3) (x0 := x0) (x1 := x1) (x2 := x2) (x3 := x3) h30 h31 h32 h33 hd_ct0 hd_ct1 hd_pp1
  refine own_step (fun t k => XS.icmpYes X355.here hx rfl (pc0 := 428) (pc' := 433) rfl (hb hby at_428) rfl ((teq hk360).1) (by decide) (by decide) k) ?_
  show own_G p.tables e below _ (T355.setTop (mkF m 433 #[iv p1, iv p2, iv p3, iv (4 : Int32), rv b2, iv x0, iv x1, iv x2, iv x3, rv b286, iv kk0, iv kk1, iv kk2, iv kk3, iv ct0, iv ct1, rv b318, rv bx324_rb, iv pp0, iv pp1, iv pp2, iv pp3] []))
  refine own_step (fun t k => XS.iloadN X355.here hx rfl (hb hby at_433) rfl k) ?_
  refine own_step (fun t k => XS.iconst X355.here hx rfl (hb hby at_434) k) ?_
  have hk361 : (2 : Int32) < (4 : Int32) := (by decide)
  refine own_step (fun t k => XS.icmpNo X355.here hx rfl (hb hby at_435) rfl ((tlt hk361).2.2.2) k) ?_
  show own_G p.tables e below _ (T355.setTop (mkF m 438 #[iv p1, iv p2, iv p3, iv (4 : Int32), rv b2, iv x0, iv x1, iv x2, iv x3, rv b286, iv kk0, iv kk1, iv kk2, iv kk3, iv ct0, iv ct1, rv b318, rv bx324_rb, iv pp0, iv pp1, iv pp2, iv pp3] []))
  refine own_step (fun t k => XS.aload X355.here hx rfl (hb hby at_438) rfl rfl k) ?_
  refine own_step (fun t k => XS.iload X355.here hx rfl (hb hby at_440) rfl k) ?_
  refine own_step (own_iaload X355 hx hZ e355 w324_1 (own_setL (by simp only [List.length_set]; rfl) (own_pb4_2 (kk0 := kk0) (kk1 := kk1) (kk2 := kk2) (kk3 := kk3) h30 h31 h32 h33 hd_ct0 hd_ct1 hd_pp2)) (g := (mkF m 442 #[iv p1, iv p2, iv p3, iv (4 : Int32), rv b2, iv x0, iv x1, iv x2, iv x3, rv b286, iv kk0, iv kk1, iv kk2, iv kk3, iv ct0, iv ct1, rv b318, rv bx324_rb, iv pp0, iv pp1, iv pp2, iv pp3] [(.int pp2), (.ref bx324_rb)])) rfl rfl (hb hby at_442)) ?_
  refine own_step (fun t k => XS.iload X355.here hx rfl (hb hby at_443) rfl k) ?_
  show own_G p.tables e below _ (T355.setTop (mkF m 445 #[iv p1, iv p2, iv p3, iv (4 : Int32), rv b2, iv x0, iv x1, iv x2, iv x3, rv b286, iv kk0, iv kk1, iv kk2, iv kk3, iv ct0, iv ct1, rv b318, rv bx324_rb, iv pp0, iv pp1, iv pp2, iv pp3] [(.int x2), (.int ((((([(0 : Int32), (0 : Int32), (0 : Int32), (0 : Int32)].set ((own_s4 kk0 kk1 kk2 kk3).getD kk0.toNatClampNeg 0).toNatClampNeg x0).set ((own_inc (own_s4 kk0 kk1 kk2 kk3) kk0).getD kk1.toNatClampNeg 0).toNatClampNeg x1).set ((own_inc (own_inc (own_s4 kk0 kk1 kk2 kk3) kk0) kk1).getD kk2.toNatClampNeg 0).toNatClampNeg x2).set ((own_inc (own_inc (own_inc (own_s4 kk0 kk1 kk2 kk3) kk0) kk1) kk2).getD kk3.toNatClampNeg 0).toNatClampNeg x3).getD pp2.toNatClampNeg 0))]))
  have hk362 : ((((([(0 : Int32), (0 : Int32), (0 : Int32), (0 : Int32)].set ((own_s4 kk0 kk1 kk2 kk3).getD kk0.toNatClampNeg 0).toNatClampNeg x0).set ((own_inc (own_s4 kk0 kk1 kk2 kk3) kk0).getD kk1.toNatClampNeg 0).toNatClampNeg x1).set ((own_inc (own_inc (own_s4 kk0 kk1 kk2 kk3) kk0) kk1).getD kk2.toNatClampNeg 0).toNatClampNeg x2).set ((own_inc (own_inc (own_inc (own_s4 kk0 kk1 kk2 kk3) kk0) kk1) kk2).getD kk3.toNatClampNeg 0).toNatClampNeg x3).getD pp2.toNatClampNeg 0) = x2 := own_g4_2 (kk0 := kk0) (kk1 := kk1) (kk2 := kk2) (kk3 := kk3) (x0 := x0) (x1 := x1) (x2 := x2) (x3 := x3) h30 h31 h32 h33 hd_ct0 hd_ct1 hd_pp2
  refine own_step (fun t k => XS.icmpYes X355.here hx rfl (pc0 := 445) (pc' := 450) rfl (hb hby at_445) rfl ((teq hk362).1) (by decide) (by decide) k) ?_
  show own_G p.tables e below _ (T355.setTop (mkF m 450 #[iv p1, iv p2, iv p3, iv (4 : Int32), rv b2, iv x0, iv x1, iv x2, iv x3, rv b286, iv kk0, iv kk1, iv kk2, iv kk3, iv ct0, iv ct1, rv b318, rv bx324_rb, iv pp0, iv pp1, iv pp2, iv pp3] []))
  refine own_step (fun t k => XS.iloadN X355.here hx rfl (hb hby at_450) rfl k) ?_
  refine own_step (fun t k => XS.iconst X355.here hx rfl (hb hby at_451) k) ?_
  have hk363 : (3 : Int32) < (4 : Int32) := (by decide)
  refine own_step (fun t k => XS.icmpNo X355.here hx rfl (hb hby at_452) rfl ((tlt hk363).2.2.2) k) ?_
  show own_G p.tables e below _ (T355.setTop (mkF m 455 #[iv p1, iv p2, iv p3, iv (4 : Int32), rv b2, iv x0, iv x1, iv x2, iv x3, rv b286, iv kk0, iv kk1, iv kk2, iv kk3, iv ct0, iv ct1, rv b318, rv bx324_rb, iv pp0, iv pp1, iv pp2, iv pp3] []))
  refine own_step (fun t k => XS.aload X355.here hx rfl (hb hby at_455) rfl rfl k) ?_
  refine own_step (fun t k => XS.iload X355.here hx rfl (hb hby at_457) rfl k) ?_
  refine own_step (own_iaload X355 hx hZ e355 w324_1 (own_setL (by simp only [List.length_set]; rfl) (own_pb4_3 (kk0 := kk0) (kk1 := kk1) (kk2 := kk2) (kk3 := kk3) h30 h31 h32 h33 hd_ct0 hd_ct1 hd_pp3)) (g := (mkF m 459 #[iv p1, iv p2, iv p3, iv (4 : Int32), rv b2, iv x0, iv x1, iv x2, iv x3, rv b286, iv kk0, iv kk1, iv kk2, iv kk3, iv ct0, iv ct1, rv b318, rv bx324_rb, iv pp0, iv pp1, iv pp2, iv pp3] [(.int pp3), (.ref bx324_rb)])) rfl rfl (hb hby at_459)) ?_
  refine own_step (fun t k => XS.iload X355.here hx rfl (hb hby at_460) rfl k) ?_
  show own_G p.tables e below _ (T355.setTop (mkF m 462 #[iv p1, iv p2, iv p3, iv (4 : Int32), rv b2, iv x0, iv x1, iv x2, iv x3, rv b286, iv kk0, iv kk1, iv kk2, iv kk3, iv ct0, iv ct1, rv b318, rv bx324_rb, iv pp0, iv pp1, iv pp2, iv pp3] [(.int x3), (.int ((((([(0 : Int32), (0 : Int32), (0 : Int32), (0 : Int32)].set ((own_s4 kk0 kk1 kk2 kk3).getD kk0.toNatClampNeg 0).toNatClampNeg x0).set ((own_inc (own_s4 kk0 kk1 kk2 kk3) kk0).getD kk1.toNatClampNeg 0).toNatClampNeg x1).set ((own_inc (own_inc (own_s4 kk0 kk1 kk2 kk3) kk0) kk1).getD kk2.toNatClampNeg 0).toNatClampNeg x2).set ((own_inc (own_inc (own_inc (own_s4 kk0 kk1 kk2 kk3) kk0) kk1) kk2).getD kk3.toNatClampNeg 0).toNatClampNeg x3).getD pp3.toNatClampNeg 0))]))
  have hk364 : ((((([(0 : Int32), (0 : Int32), (0 : Int32), (0 : Int32)].set ((own_s4 kk0 kk1 kk2 kk3).getD kk0.toNatClampNeg 0).toNatClampNeg x0).set ((own_inc (own_s4 kk0 kk1 kk2 kk3) kk0).getD kk1.toNatClampNeg 0).toNatClampNeg x1).set ((own_inc (own_inc (own_s4 kk0 kk1 kk2 kk3) kk0) kk1).getD kk2.toNatClampNeg 0).toNatClampNeg x2).set ((own_inc (own_inc (own_inc (own_s4 kk0 kk1 kk2 kk3) kk0) kk1) kk2).getD kk3.toNatClampNeg 0).toNatClampNeg x3).getD pp3.toNatClampNeg 0) = x3 := own_g4_3 (kk0 := kk0) (kk1 := kk1) (kk2 := kk2) (kk3 := kk3) (x0 := x0) (x1 := x1) (x2 := x2) (x3 := x3) h30 h31 h32 h33 hd_ct0 hd_ct1 hd_pp3
  refine own_step (fun t k => XS.icmpYes X355.here hx rfl (pc0 := 462) (pc' := 467) rfl (hb hby at_462) rfl ((teq hk364).1) (by decide) (by decide) k) ?_
  show own_G p.tables e below _ (T355.setTop (mkF m 467 #[iv p1, iv p2, iv p3, iv (4 : Int32), rv b2, iv x0, iv x1, iv x2, iv x3, rv b286, iv kk0, iv kk1, iv kk2, iv kk3, iv ct0, iv ct1, rv b318, rv bx324_rb, iv pp0, iv pp1, iv pp2, iv pp3] []))
  refine own_step (fun t k => XS.iconst X355.here hx rfl (hb hby at_467) k) ?_
  obtain ⟨fs, hr, hrun, hended, hW, hsame⟩ := X355.leave (v := some (.int (1 : Int32))) (fun h => by rw [hret] at h; cases h) hlocks
  refine own_done (retN X355 hx (t := .boolean) hret (by simp) (hb hby at_468) hr) hrun hended (hP _ _ ⟨_, _, rfl, ?_, ⟨_, rfl⟩, hW, hsame.mono (by decide) (by decide)⟩)
  show Q0 Z p1 p2 p3 h0 n0 _ T355.heap _
  rw [e355]
  exact ⟨rfl, N355⟩
set_option maxRecDepth 65536 in
set_option maxHeartbeats 40000000 in
theorem rm0 (l : Launch) (Z : State) (a0 : Array Value) (hw : ∀ d ∈ tables_1, d.before a0 Z = true) (ws : List Jvm.Cond) (p1 : Int32) (p2 : Int32) (p3 : Int32) (h0 : Heap) (n0 : Nat) (Z0 : n0 ≤ h0.size) :
    MetFree l x (head1 (Jvm.Cond.code x code maxLocals ret :: ws) room_1) (fun a U => a = #[(.int p1), (.int p2), (.int p3)] ∧ Z.Warmed39 U.vm ∧ U.heap = h0) (fun _ _ _ _ _ => True) (fun _ U o U' => ∃ v L, o = .returned v ∧ Q0 Z p1 p2 p3 h0 n0 v U'.heap L ∧ FrameEnd U o U' L room_1.cells room_1.slots) := by
  refine MetFree.of_bodySF (plainFor_of_name pn_0) hisR ?_
  intro p e s m args below meth c s₁ Bd hml0 hP hK
  obtain ⟨rfl, hZ, hh⟩ := hP
  have hx := Bd.exec
  have hby := Bd.bytes
  have hml : c.maxLocals = 22 := hml0
  have hown : s.vm.findClass "com/example/stevedore/stevedore/MoveGraphGroupedPinLaw" = some m.cls := findClass_of_methodNamed Bd.named
  have hnm := (name_of_methodNamed Bd.named Bd.method).1
  have X0 : Stand p l e room_1 s m #[(.int p1), (.int p2), (.int p3)] below meth c s₁ [] 0 0 := Stand.of_body Bd
  have e0 : s₁.heap = h0 := by rw [← hh, Bd.state]; rfl
  have N0 := Fr.nil n0
  refine own_start (fun t k => castTop (ef_0 m p1 p2 p3) k) ?_
  show own_G p.tables e below _ (s₁.setTop (mkF m 0 #[iv p1, iv p2, iv p3, .unset, .unset, .unset, .unset, .unset, .unset, .unset, .unset, .unset, .unset, .unset, .unset, .unset, .unset, .unset, .unset, .unset, .unset, .unset] []))
  refine own_step (fun t k => XS.iloadN X0.here hx rfl (hb hby at_0) rfl k) ?_
  refine own_step (fun t k => XS.bipush X0.here hx rfl (hb hby at_1) k) ?_
  refine own_step (fun t k => XS.iand X0.here hx rfl (hb hby at_3) rfl k) ?_
  refine own_step (fun t k => XS.iconst X0.here hx rfl (hb hby at_4) k) ?_
  show own_G p.tables e below _ (s₁.setTop (mkF m 5 #[iv p1, iv p2, iv p3, .unset, .unset, .unset, .unset, .unset, .unset, .unset, .unset, .unset, .unset, .unset, .unset, .unset, .unset, .unset, .unset, .unset, .unset, .unset] [(.int (5 : Int32)), (.int (p1 &&& (7 : Int32)))]))
  refine own_step (fun t k => XS.irem X0.here hx rfl (hb hby at_5) rfl (by decide) k) ?_
  refine own_nm (((p1 &&& (7 : Int32)) - ((p1 &&& (7 : Int32)) / (5 : Int32)) * (5 : Int32)) : Int32) (fun n => s₁.setTop (mkF m 6 #[iv p1, iv p2, iv p3, .unset, .unset, .unset, .unset, .unset, .unset, .unset, .unset, .unset, .unset, .unset, .unset, .unset, .unset, .unset, .unset, .unset, .unset, .unset] [(.int n)])) ?_
  intro n hd_n
  show own_G p.tables e below _ (s₁.setTop (mkF m 6 #[iv p1, iv p2, iv p3, .unset, .unset, .unset, .unset, .unset, .unset, .unset, .unset, .unset, .unset, .unset, .unset, .unset, .unset, .unset, .unset, .unset, .unset, .unset] [(.int n)]))
  refine own_step (fun t k => XS.istoreN X0.here hx rfl (hb hby at_6) rfl (l' := #[iv p1, iv p2, iv p3, iv n, .unset, .unset, .unset, .unset, .unset, .unset, .unset, .unset, .unset, .unset, .unset, .unset, .unset, .unset, .unset, .unset, .unset, .unset]) rfl k) ?_
  refine own_step (fun t k => XS.iconst X0.here hx rfl (hb hby at_7) k) ?_
  obtain ⟨T2, h2, k2, X2, e2, E2, A2, st2⟩ := newP X0 hx hZ (hw _ (List.mem_of_getElem? (i := 0) rfl)) e0 (g := (mkF m 8 #[iv p1, iv p2, iv p3, iv n, .unset, .unset, .unset, .unset, .unset, .unset, .unset, .unset, .unset, .unset, .unset, .unset, .unset, .unset, .unset, .unset, .unset, .unset] [(.int (4 : Int32))])) rfl (hb hby at_8) rfl (by decide) (cap := 4) (by decide) (by decide) (by decide) (by decide)
  obtain ⟨b2, g2⟩ : ∃ z, z = h0.size := ⟨_, rfl⟩
  have sz2 : h0.size ≤ b2 := Nat.le_trans (Keep.refl h0 []).1 (Nat.le_of_eq g2.symm)
  have ge2 : n0 ≤ b2 := Nat.le_trans Z0 sz2
  have K2 : Keep h0 h2 [] := (Keep.refl h0 []).ext E2
  rw [← g2] at A2 st2
  have c3 : own_Ari Z h2 b2 .int [(0 : Int32), (0 : Int32), (0 : Int32), (0 : Int32)] := own_Ari_new (ty := .int) A2 (by decide) rfl
  refine own_step st2 ?_
  refine own_step (fun t k => XS.astore X2.here hx rfl (hb hby at_10) rfl rfl (l' := #[iv p1, iv p2, iv p3, iv n, rv b2, .unset, .unset, .unset, .unset, .unset, .unset, .unset, .unset, .unset, .unset, .unset, .unset, .unset, .unset, .unset, .unset, .unset]) rfl k) ?_
  show own_G p.tables e below _ (T2.setTop (mkF m 12 #[iv p1, iv p2, iv p3, iv n, rv b2, .unset, .unset, .unset, .unset, .unset, .unset, .unset, .unset, .unset, .unset, .unset, .unset, .unset, .unset, .unset, .unset, .unset] []))
  refine own_step (fun t k => XS.aload X2.here hx rfl (hb hby at_12) rfl rfl k) ?_
  refine own_step (fun t k => XS.iconst X2.here hx rfl (hb hby at_14) k) ?_
  refine own_step (fun t k => XS.iloadN X2.here hx rfl (hb hby at_15) rfl k) ?_
  refine own_step (fun t k => XS.bipush X2.here hx rfl (hb hby at_16) k) ?_
  show own_G p.tables e below _ (T2.setTop (mkF m 18 #[iv p1, iv p2, iv p3, iv n, rv b2, .unset, .unset, .unset, .unset, .unset, .unset, .unset, .unset, .unset, .unset, .unset, .unset, .unset, .unset, .unset, .unset, .unset] [(.int (15 : Int32)), (.int p3), (.int (0 : Int32)), (.ref b2)]))
  refine own_step (fun t k => XS.iand X2.here hx rfl (hb hby at_18) rfl k) ?_
  refine own_step (fun t k => XS.iconst X2.here hx rfl (hb hby at_19) k) ?_
  refine own_step (fun t k => XS.irem X2.here hx rfl (hb hby at_20) rfl (by decide) k) ?_
  refine own_nm (((p3 &&& (15 : Int32)) - ((p3 &&& (15 : Int32)) / (3 : Int32)) * (3 : Int32)) : Int32) (fun kv0 => T2.setTop (mkF m 21 #[iv p1, iv p2, iv p3, iv n, rv b2, .unset, .unset, .unset, .unset, .unset, .unset, .unset, .unset, .unset, .unset, .unset, .unset, .unset, .unset, .unset, .unset, .unset] [(.int kv0), (.int (0 : Int32)), (.ref b2)])) ?_
  intro kv0 hd_kv0
  show own_G p.tables e below _ (T2.setTop (mkF m 21 #[iv p1, iv p2, iv p3, iv n, rv b2, .unset, .unset, .unset, .unset, .unset, .unset, .unset, .unset, .unset, .unset, .unset, .unset, .unset, .unset, .unset, .unset, .unset] [(.int kv0), (.int (0 : Int32)), (.ref b2)]))
  obtain ⟨T4, h4, X4, e4, W4, c4, st4⟩ := own_iastore X2 hx hZ e2 c3 (own_inb (by decide) (Nat.le_of_ble_eq_true rfl)) (g := (mkF m 21 #[iv p1, iv p2, iv p3, iv n, rv b2, .unset, .unset, .unset, .unset, .unset, .unset, .unset, .unset, .unset, .unset, .unset, .unset, .unset, .unset, .unset, .unset, .unset] [(.int kv0), (.int (0 : Int32)), (.ref b2)])) rfl rfl (hb hby at_21)
  have N4 := Fr.snoc X4 N0 ge2
  have c5 : own_Ari Z h4 b2 .int [kv0, (0 : Int32), (0 : Int32), (0 : Int32)] := c4
  have K4 : Keep h0 h4 [] := K2.wr W4 (Or.inr sz2)
  refine own_step st4 ?_
  refine own_step (fun t k => XS.aload X4.here hx rfl (hb hby at_22) rfl rfl k) ?_
  refine own_step (fun t k => XS.iconst X4.here hx rfl (hb hby at_24) k) ?_
  refine own_step (fun t k => XS.iloadN X4.here hx rfl (hb hby at_25) rfl k) ?_
  clear A2 E2 K2 W4 X2 c3 c4 e2 g2 st2 st4
  show own_G p.tables e below _ (T4.setTop (mkF m 26 #[iv p1, iv p2, iv p3, iv n, rv b2, .unset, .unset, .unset, .unset, .unset, .unset, .unset, .unset, .unset, .unset, .unset, .unset, .unset, .unset, .unset, .unset, .unset] [(.int p3), (.int (1 : Int32)), (.ref b2)]))
  refine own_step (fun t k => XS.iconst X4.here hx rfl (hb hby at_26) k) ?_
  refine own_step (fun t k => XS.iushr X4.here hx rfl (hb hby at_27) rfl k) ?_
  refine own_step (fun t k => XS.bipush X4.here hx rfl (hb hby at_28) k) ?_
  refine own_step (fun t k => XS.iand X4.here hx rfl (hb hby at_30) rfl k) ?_
  show own_G p.tables e below _ (T4.setTop (mkF m 31 #[iv p1, iv p2, iv p3, iv n, rv b2, .unset, .unset, .unset, .unset, .unset, .unset, .unset, .unset, .unset, .unset, .unset, .unset, .unset, .unset, .unset, .unset, .unset] [(.int (((p3.toUInt32 >>> ((4 : Int32) &&& 31).toUInt32).toInt32) &&& (15 : Int32))), (.int (1 : Int32)), (.ref b2)]))
  refine own_step (fun t k => XS.iconst X4.here hx rfl (hb hby at_31) k) ?_
  refine own_step (fun t k => XS.irem X4.here hx rfl (hb hby at_32) rfl (by decide) k) ?_
  refine own_nm (((((p3.toUInt32 >>> ((4 : Int32) &&& 31).toUInt32).toInt32) &&& (15 : Int32)) - ((((p3.toUInt32 >>> ((4 : Int32) &&& 31).toUInt32).toInt32) &&& (15 : Int32)) / (3 : Int32)) * (3 : Int32)) : Int32) (fun kv1 => T4.setTop (mkF m 33 #[iv p1, iv p2, iv p3, iv n, rv b2, .unset, .unset, .unset, .unset, .unset, .unset, .unset, .unset, .unset, .unset, .unset, .unset, .unset, .unset, .unset, .unset, .unset] [(.int kv1), (.int (1 : Int32)), (.ref b2)])) ?_
  intro kv1 hd_kv1
  show own_G p.tables e below _ (T4.setTop (mkF m 33 #[iv p1, iv p2, iv p3, iv n, rv b2, .unset, .unset, .unset, .unset, .unset, .unset, .unset, .unset, .unset, .unset, .unset, .unset, .unset, .unset, .unset, .unset, .unset] [(.int kv1), (.int (1 : Int32)), (.ref b2)]))
  obtain ⟨T7, h7, X7, e7, W7, c7, st7⟩ := own_iastore X4 hx hZ e4 c5 (own_inb (by decide) (Nat.le_of_ble_eq_true rfl)) (g := (mkF m 33 #[iv p1, iv p2, iv p3, iv n, rv b2, .unset, .unset, .unset, .unset, .unset, .unset, .unset, .unset, .unset, .unset, .unset, .unset, .unset, .unset, .unset, .unset, .unset] [(.int kv1), (.int (1 : Int32)), (.ref b2)])) rfl rfl (hb hby at_33)
  have N7 := Fr.snoc X7 N4 ge2
  have c8 : own_Ari Z h7 b2 .int [kv0, kv1, (0 : Int32), (0 : Int32)] := c7
  have K7 : Keep h0 h7 [] := K4.wr W7 (Or.inr sz2)
  refine own_step st7 ?_
  refine own_step (fun t k => XS.aload X7.here hx rfl (hb hby at_34) rfl rfl k) ?_
  refine own_step (fun t k => XS.iconst X7.here hx rfl (hb hby at_36) k) ?_
  refine own_step (fun t k => XS.iloadN X7.here hx rfl (hb hby at_37) rfl k) ?_
  show own_G p.tables e below _ (T7.setTop (mkF m 38 #[iv p1, iv p2, iv p3, iv n, rv b2, .unset, .unset, .unset, .unset, .unset, .unset, .unset, .unset, .unset, .unset, .unset, .unset, .unset, .unset, .unset, .unset, .unset] [(.int p3), (.int (2 : Int32)), (.ref b2)]))
  refine own_step (fun t k => XS.bipush X7.here hx rfl (hb hby at_38) k) ?_
  refine own_step (fun t k => XS.iushr X7.here hx rfl (hb hby at_40) rfl k) ?_
  refine own_step (fun t k => XS.bipush X7.here hx rfl (hb hby at_41) k) ?_
  refine own_step (fun t k => XS.iand X7.here hx rfl (hb hby at_43) rfl k) ?_
  show own_G p.tables e below _ (T7.setTop (mkF m 44 #[iv p1, iv p2, iv p3, iv n, rv b2, .unset, .unset, .unset, .unset, .unset, .unset, .unset, .unset, .unset, .unset, .unset, .unset, .unset, .unset, .unset, .unset, .unset] [(.int (((p3.toUInt32 >>> ((8 : Int32) &&& 31).toUInt32).toInt32) &&& (15 : Int32))), (.int (2 : Int32)), (.ref b2)]))
  refine own_step (fun t k => XS.iconst X7.here hx rfl (hb hby at_44) k) ?_
  refine own_step (fun t k => XS.irem X7.here hx rfl (hb hby at_45) rfl (by decide) k) ?_
  refine own_nm (((((p3.toUInt32 >>> ((8 : Int32) &&& 31).toUInt32).toInt32) &&& (15 : Int32)) - ((((p3.toUInt32 >>> ((8 : Int32) &&& 31).toUInt32).toInt32) &&& (15 : Int32)) / (3 : Int32)) * (3 : Int32)) : Int32) (fun kv2 => T7.setTop (mkF m 46 #[iv p1, iv p2, iv p3, iv n, rv b2, .unset, .unset, .unset, .unset, .unset, .unset, .unset, .unset, .unset, .unset, .unset, .unset, .unset, .unset, .unset, .unset, .unset] [(.int kv2), (.int (2 : Int32)), (.ref b2)])) ?_
  intro kv2 hd_kv2
  show own_G p.tables e below _ (T7.setTop (mkF m 46 #[iv p1, iv p2, iv p3, iv n, rv b2, .unset, .unset, .unset, .unset, .unset, .unset, .unset, .unset, .unset, .unset, .unset, .unset, .unset, .unset, .unset, .unset, .unset] [(.int kv2), (.int (2 : Int32)), (.ref b2)]))
  obtain ⟨T10, h10, X10, e10, W10, c10, st10⟩ := own_iastore X7 hx hZ e7 c8 (own_inb (by decide) (Nat.le_of_ble_eq_true rfl)) (g := (mkF m 46 #[iv p1, iv p2, iv p3, iv n, rv b2, .unset, .unset, .unset, .unset, .unset, .unset, .unset, .unset, .unset, .unset, .unset, .unset, .unset, .unset, .unset, .unset, .unset] [(.int kv2), (.int (2 : Int32)), (.ref b2)])) rfl rfl (hb hby at_46)
  have N10 := Fr.snoc X10 N7 ge2
  have c11 : own_Ari Z h10 b2 .int [kv0, kv1, kv2, (0 : Int32)] := c10
  have K10 : Keep h0 h10 [] := K7.wr W10 (Or.inr sz2)
  refine own_step st10 ?_
  refine own_step (fun t k => XS.aload X10.here hx rfl (hb hby at_47) rfl rfl k) ?_
  refine own_step (fun t k => XS.iconst X10.here hx rfl (hb hby at_49) k) ?_
  refine own_step (fun t k => XS.iloadN X10.here hx rfl (hb hby at_50) rfl k) ?_
  clear K4 K7 N4 N7 W10 W7 X4 X7 c10 c5 c7 c8 e4 e7 st10 st7
  show own_G p.tables e below _ (T10.setTop (mkF m 51 #[iv p1, iv p2, iv p3, iv n, rv b2, .unset, .unset, .unset, .unset, .unset, .unset, .unset, .unset, .unset, .unset, .unset, .unset, .unset, .unset, .unset, .unset, .unset] [(.int p3), (.int (3 : Int32)), (.ref b2)]))
  refine own_step (fun t k => XS.bipush X10.here hx rfl (hb hby at_51) k) ?_
  refine own_step (fun t k => XS.iushr X10.here hx rfl (hb hby at_53) rfl k) ?_
  refine own_step (fun t k => XS.bipush X10.here hx rfl (hb hby at_54) k) ?_
  refine own_step (fun t k => XS.iand X10.here hx rfl (hb hby at_56) rfl k) ?_
  show own_G p.tables e below _ (T10.setTop (mkF m 57 #[iv p1, iv p2, iv p3, iv n, rv b2, .unset, .unset, .unset, .unset, .unset, .unset, .unset, .unset, .unset, .unset, .unset, .unset, .unset, .unset, .unset, .unset, .unset] [(.int (((p3.toUInt32 >>> ((12 : Int32) &&& 31).toUInt32).toInt32) &&& (15 : Int32))), (.int (3 : Int32)), (.ref b2)]))
  refine own_step (fun t k => XS.iconst X10.here hx rfl (hb hby at_57) k) ?_
  refine own_step (fun t k => XS.irem X10.here hx rfl (hb hby at_58) rfl (by decide) k) ?_
  refine own_nm (((((p3.toUInt32 >>> ((12 : Int32) &&& 31).toUInt32).toInt32) &&& (15 : Int32)) - ((((p3.toUInt32 >>> ((12 : Int32) &&& 31).toUInt32).toInt32) &&& (15 : Int32)) / (3 : Int32)) * (3 : Int32)) : Int32) (fun kv3 => T10.setTop (mkF m 59 #[iv p1, iv p2, iv p3, iv n, rv b2, .unset, .unset, .unset, .unset, .unset, .unset, .unset, .unset, .unset, .unset, .unset, .unset, .unset, .unset, .unset, .unset, .unset] [(.int kv3), (.int (3 : Int32)), (.ref b2)])) ?_
  intro kv3 hd_kv3
  show own_G p.tables e below _ (T10.setTop (mkF m 59 #[iv p1, iv p2, iv p3, iv n, rv b2, .unset, .unset, .unset, .unset, .unset, .unset, .unset, .unset, .unset, .unset, .unset, .unset, .unset, .unset, .unset, .unset, .unset] [(.int kv3), (.int (3 : Int32)), (.ref b2)]))
  obtain ⟨T13, h13, X13, e13, W13, c13, st13⟩ := own_iastore X10 hx hZ e10 c11 (own_inb (by decide) (Nat.le_of_ble_eq_true rfl)) (g := (mkF m 59 #[iv p1, iv p2, iv p3, iv n, rv b2, .unset, .unset, .unset, .unset, .unset, .unset, .unset, .unset, .unset, .unset, .unset, .unset, .unset, .unset, .unset, .unset, .unset] [(.int kv3), (.int (3 : Int32)), (.ref b2)])) rfl rfl (hb hby at_59)
  have N13 := Fr.snoc X13 N10 ge2
  have c14 : own_Ari Z h13 b2 .int [kv0, kv1, kv2, kv3] := c13
  have K13 : Keep h0 h13 [] := K10.wr W13 (Or.inr sz2)
  refine own_step st13 ?_
  have hv0 : own_3 kv0 := by rw [hd_kv0]; exact own_key _
  have hv1 : own_3 kv1 := by rw [hd_kv1]; exact own_key _
  have hv2 : own_3 kv2 := by rw [hd_kv2]; exact own_key _
  have hv3 : own_3 kv3 := by rw [hd_kv3]; exact own_key _
  refine own_step (fun t k => XS.iloadN X13.here hx rfl (hb hby at_60) rfl k) ?_
  refine own_step (fun t k => XS.iconst X13.here hx rfl (hb hby at_61) k) ?_
  refine own_step (fun t k => XS.iand X13.here hx rfl (hb hby at_62) rfl k) ?_
  show own_G p.tables e below _ (T13.setTop (mkF m 63 #[iv p1, iv p2, iv p3, iv n, rv b2, .unset, .unset, .unset, .unset, .unset, .unset, .unset, .unset, .unset, .unset, .unset, .unset, .unset, .unset, .unset, .unset, .unset] [(.int (p2 &&& (3 : Int32)))]))
  refine own_nm ((p2 &&& (3 : Int32)) : Int32) (fun x0 => T13.setTop (mkF m 63 #[iv p1, iv p2, iv p3, iv n, rv b2, .unset, .unset, .unset, .unset, .unset, .unset, .unset, .unset, .unset, .unset, .unset, .unset, .unset, .unset, .unset, .unset, .unset] [(.int x0)])) ?_
  intro x0 hd_x0
  show own_G p.tables e below _ (T13.setTop (mkF m 63 #[iv p1, iv p2, iv p3, iv n, rv b2, .unset, .unset, .unset, .unset, .unset, .unset, .unset, .unset, .unset, .unset, .unset, .unset, .unset, .unset, .unset, .unset, .unset] [(.int x0)]))
  refine own_step (fun t k => XS.istore X13.here hx rfl (hb hby at_63) rfl (l' := #[iv p1, iv p2, iv p3, iv n, rv b2, iv x0, .unset, .unset, .unset, .unset, .unset, .unset, .unset, .unset, .unset, .unset, .unset, .unset, .unset, .unset, .unset, .unset]) rfl k) ?_
  refine own_step (fun t k => XS.iloadN X13.here hx rfl (hb hby at_65) rfl k) ?_
  refine own_step (fun t k => XS.iconst X13.here hx rfl (hb hby at_66) k) ?_
  refine own_step (fun t k => XS.iushr X13.here hx rfl (hb hby at_67) rfl k) ?_
  show own_G p.tables e below _ (T13.setTop (mkF m 68 #[iv p1, iv p2, iv p3, iv n, rv b2, iv x0, .unset, .unset, .unset, .unset, .unset, .unset, .unset, .unset, .unset, .unset, .unset, .unset, .unset, .unset, .unset, .unset] [(.int ((p2.toUInt32 >>> ((2 : Int32) &&& 31).toUInt32).toInt32))]))
  refine own_step (fun t k => XS.iconst X13.here hx rfl (hb hby at_68) k) ?_
  refine own_step (fun t k => XS.iand X13.here hx rfl (hb hby at_69) rfl k) ?_
  refine own_nm ((((p2.toUInt32 >>> ((2 : Int32) &&& 31).toUInt32).toInt32) &&& (3 : Int32)) : Int32) (fun x1 => T13.setTop (mkF m 70 #[iv p1, iv p2, iv p3, iv n, rv b2, iv x0, .unset, .unset, .unset, .unset, .unset, .unset, .unset, .unset, .unset, .unset, .unset, .unset, .unset, .unset, .unset, .unset] [(.int x1)])) ?_
  intro x1 hd_x1
  show own_G p.tables e below _ (T13.setTop (mkF m 70 #[iv p1, iv p2, iv p3, iv n, rv b2, iv x0, .unset, .unset, .unset, .unset, .unset, .unset, .unset, .unset, .unset, .unset, .unset, .unset, .unset, .unset, .unset, .unset] [(.int x1)]))
  refine own_step (fun t k => XS.istore X13.here hx rfl (hb hby at_70) rfl (l' := #[iv p1, iv p2, iv p3, iv n, rv b2, iv x0, iv x1, .unset, .unset, .unset, .unset, .unset, .unset, .unset, .unset, .unset, .unset, .unset, .unset, .unset, .unset, .unset]) rfl k) ?_
  refine own_step (fun t k => XS.iloadN X13.here hx rfl (hb hby at_72) rfl k) ?_
  refine own_step (fun t k => XS.iconst X13.here hx rfl (hb hby at_73) k) ?_
  refine own_step (fun t k => XS.iushr X13.here hx rfl (hb hby at_74) rfl k) ?_
  show own_G p.tables e below _ (T13.setTop (mkF m 75 #[iv p1, iv p2, iv p3, iv n, rv b2, iv x0, iv x1, .unset, .unset, .unset, .unset, .unset, .unset, .unset, .unset, .unset, .unset, .unset, .unset, .unset, .unset, .unset] [(.int ((p2.toUInt32 >>> ((4 : Int32) &&& 31).toUInt32).toInt32))]))
  refine own_step (fun t k => XS.iconst X13.here hx rfl (hb hby at_75) k) ?_
  refine own_step (fun t k => XS.iand X13.here hx rfl (hb hby at_76) rfl k) ?_
  refine own_nm ((((p2.toUInt32 >>> ((4 : Int32) &&& 31).toUInt32).toInt32) &&& (3 : Int32)) : Int32) (fun x2 => T13.setTop (mkF m 77 #[iv p1, iv p2, iv p3, iv n, rv b2, iv x0, iv x1, .unset, .unset, .unset, .unset, .unset, .unset, .unset, .unset, .unset, .unset, .unset, .unset, .unset, .unset, .unset] [(.int x2)])) ?_
  intro x2 hd_x2
  show own_G p.tables e below _ (T13.setTop (mkF m 77 #[iv p1, iv p2, iv p3, iv n, rv b2, iv x0, iv x1, .unset, .unset, .unset, .unset, .unset, .unset, .unset, .unset, .unset, .unset, .unset, .unset, .unset, .unset, .unset] [(.int x2)]))
  refine own_step (fun t k => XS.istore X13.here hx rfl (hb hby at_77) rfl (l' := #[iv p1, iv p2, iv p3, iv n, rv b2, iv x0, iv x1, iv x2, .unset, .unset, .unset, .unset, .unset, .unset, .unset, .unset, .unset, .unset, .unset, .unset, .unset, .unset]) rfl k) ?_
  refine own_step (fun t k => XS.iloadN X13.here hx rfl (hb hby at_79) rfl k) ?_
  refine own_step (fun t k => XS.bipush X13.here hx rfl (hb hby at_80) k) ?_
  refine own_step (fun t k => XS.iushr X13.here hx rfl (hb hby at_82) rfl k) ?_
  show own_G p.tables e below _ (T13.setTop (mkF m 83 #[iv p1, iv p2, iv p3, iv n, rv b2, iv x0, iv x1, iv x2, .unset, .unset, .unset, .unset, .unset, .unset, .unset, .unset, .unset, .unset, .unset, .unset, .unset, .unset] [(.int ((p2.toUInt32 >>> ((6 : Int32) &&& 31).toUInt32).toInt32))]))
  refine own_step (fun t k => XS.iconst X13.here hx rfl (hb hby at_83) k) ?_
  refine own_step (fun t k => XS.iand X13.here hx rfl (hb hby at_84) rfl k) ?_
  refine own_nm ((((p2.toUInt32 >>> ((6 : Int32) &&& 31).toUInt32).toInt32) &&& (3 : Int32)) : Int32) (fun x3 => T13.setTop (mkF m 85 #[iv p1, iv p2, iv p3, iv n, rv b2, iv x0, iv x1, iv x2, .unset, .unset, .unset, .unset, .unset, .unset, .unset, .unset, .unset, .unset, .unset, .unset, .unset, .unset] [(.int x3)])) ?_
  intro x3 hd_x3
  show own_G p.tables e below _ (T13.setTop (mkF m 85 #[iv p1, iv p2, iv p3, iv n, rv b2, iv x0, iv x1, iv x2, .unset, .unset, .unset, .unset, .unset, .unset, .unset, .unset, .unset, .unset, .unset, .unset, .unset, .unset] [(.int x3)]))
  refine own_step (fun t k => XS.istore X13.here hx rfl (hb hby at_85) rfl (l' := #[iv p1, iv p2, iv p3, iv n, rv b2, iv x0, iv x1, iv x2, iv x3, .unset, .unset, .unset, .unset, .unset, .unset, .unset, .unset, .unset, .unset, .unset, .unset, .unset]) rfl k) ?_
  rcases own_n5 _ _ hd_n with rfl | rfl | rfl | rfl | rfl
  · exact rm0_c0 l Z a0 hw p1 p2 p3 h0 n0 Z0 hx hby hml hown hZ Bd.notSynchronized Bd.returns X13 e13 N13 K13 c14 ge2 sz2 hd_kv0 hd_kv1 hd_kv2 hd_kv3 hd_x0 hd_x1 hd_x2 hd_x3 hd_n hv0 hv1 hv2 hv3 (fun o U' h => h)
  · exact rm0_c1 l Z a0 hw p1 p2 p3 h0 n0 Z0 hx hby hml hown hZ Bd.notSynchronized Bd.returns X13 e13 N13 K13 c14 ge2 sz2 hd_kv0 hd_kv1 hd_kv2 hd_kv3 hd_x0 hd_x1 hd_x2 hd_x3 hd_n hv0 hv1 hv2 hv3 (fun o U' h => h)
  · exact rm0_c2 l Z a0 hw p1 p2 p3 h0 n0 Z0 hx hby hml hown hZ Bd.notSynchronized Bd.returns X13 e13 N13 K13 c14 ge2 sz2 hd_kv0 hd_kv1 hd_kv2 hd_kv3 hd_x0 hd_x1 hd_x2 hd_x3 hd_n hv0 hv1 hv2 hv3 (fun o U' h => h)
  · exact rm0_c3 l Z a0 hw p1 p2 p3 h0 n0 Z0 hx hby hml hown hZ Bd.notSynchronized Bd.returns X13 e13 N13 K13 c14 ge2 sz2 hd_kv0 hd_kv1 hd_kv2 hd_kv3 hd_x0 hd_x1 hd_x2 hd_x3 hd_n hv0 hv1 hv2 hv3 (fun o U' h => h)
  · exact rm0_c4 l Z a0 hw p1 p2 p3 h0 n0 Z0 hx hby hml hown hZ Bd.notSynchronized Bd.returns X13 e13 N13 K13 c14 ge2 sz2 hd_kv0 hd_kv1 hd_kv2 hd_kv3 hd_x0 hd_x1 hd_x2 hd_x3 hd_n hv0 hv1 hv2 hv3 (fun o U' h => h)
set_option maxRecDepth 65536 in
set_option maxHeartbeats 40000000 in
theorem comes_1 {Post : Tables → Env → Array Value → State → Outcome → State → Prop} (hpost : ∀ tb e args s v u, (limb_1_1.after args s (.returned v) u = true ∧ limb_1_2.after args s (.returned v) u = true ∧ True) → FrameEnd s (.returned v) u (Jvm.fieldLocs frame_1_writes args s ++ Jvm.arrayLocs frame_1_arrays args s ++ Jvm.staticLocs frame_1_statics s) 24 128 → Post tb e args s (.returned v) u) :
    ArmFor flags0 classFile x code maxLocals ret World_1 tables_1 room_1 Calls_1 rest_1 Pre_1 Post := by
  intro l hfl _ _ p e ha hc hk s m args below hf hA hF happ hP
  obtain ⟨hcalls, hrest, hpre⟩ := hP
  obtain ⟨-, -, -, hnamed, -, -, -, hat⟩ := (Spec.applies_iff hf).mp happ
  obtain ⟨hg, hn⟩ := and_e (Cond.before_iff.mp (show (Jvm.Cond.and given_1 narrow_1).before args s = true from hpre))
  obtain ⟨g1, g2⟩ := and_e hg
  obtain ⟨g3, g4⟩ := and_e g2
  obtain ⟨g5, g6⟩ := and_e g4
  obtain ⟨w0, w1, w2, rfl⟩ : ∃ w0 w1 w2 : Value, args = #[w0, w1, w2] := by
    have hs : args.size = 3 := by simpa [Cond.value, given_1] using g1
    obtain ⟨L⟩ := args
    match L, hs with
    | [w0, w1, w2], _ => exact ⟨w0, w1, w2, rfl⟩
  have hw := fun d (hd : d ∈ tables_1) => atoms_spec (ws := Jvm.Cond.code x code maxLocals ret :: tables_1) hat d (List.mem_cons_of_mem _ hd)
  obtain ⟨i0, ei0⟩ := is_v g3
  obtain rfl : w0 = (.int i0) := Option.some.inj ei0
  obtain ⟨i1, ei1⟩ := is_v g5
  obtain rfl : w1 = (.int i1) := Option.some.inj ei1
  obtain ⟨i2, ei2⟩ := is_v g6
  obtain rfl : w2 = (.int i2) := Option.some.inj ei2
  obtain ⟨n, o, h1, h2, h3, _, L, rfl, ⟨rfl, N⟩, hq⟩ := rm0 l s _ hw tables_1 i0 i1 i2 s.heap s.heap.size (Nat.le_refl _)  p e ha hc hk s m _ below hf ((Spec.applies_iff_loose hf).mp happ).1 ⟨rfl, State.Warmed39.refl s, rfl⟩ trivial
  refine ⟨n, _, h1, h2, h3, hpost _ _ _ _ _ _ ⟨Cond.after_iff.mpr rfl, Cond.after_iff.mpr (eq_i res_at (Term.int_eval (1)) rfl), trivial⟩ ⟨hq.1, hq.2.1, (hq.2.2.sift fun y hy => Or.inr (N y hy)).mono (by decide) (by decide)⟩⟩
theorem main_1_1 : Claimed_1_1 := comes_1 fun _ _ _ _ _ _ h hF => ⟨h.1, hF⟩
theorem main_1_2 : Claimed_1_2 := comes_1 fun _ _ _ _ _ _ h hF => ⟨h.2.1, hF⟩
end Jvm.Pilot.@@N@@
namespace Jvm.Pilot.@@N@@
open Jvm Jvm.ClassFile Sem Op Lib Jvm.Free Jvm.Stand Jvm.Pilot.@@N@@.Jvm.D
/-! MADE BY PROGRAM (witnessworld.py) out of the Statement's table words and the real class files: 10 classes; the members and pool entries that the words name. The judged class is class 1, her method 4. -/
namespace start1
open Jvm.ClassFile
def u (s : String) : CpInfo := .utf8 (stringToUtf16 s)
/-- a pool by its gaps: so many unusable entries, then the entry; so many at the end -/
def gap : Nat → List CpInfo → List CpInfo
  | 0, r => r
  | n + 1, r => .unusable :: gap n r
def poolList (es : List (Nat × CpInfo)) (last : Nat) : List CpInfo := es.foldr (fun e r => gap e.1 (e.2 :: r)) (gap last [])
def pool (es : List (Nat × CpInfo)) (last : Nat) : Array CpInfo := ⟨poolList es last⟩
def fileOf (pool : Array CpInfo) (this : Nat) (attrs : Array Attribute := #[]) (ms : Array MethodInfo := #[]) (fl : Nat := 33) (sup : Nat := 0) (ifs : Array Nat := #[]) (fds : Array FieldInfo := #[]) : ClassFile where
  minorVersion := 0
  majorVersion := 65
  constantPool := pool
  accessFlags := fl
  thisClass := this
  superClass := sup
  interfaces := ifs
  fields := fds
  methods := ms
  attributes := attrs
def plain (name : String) (sup : Option ClassId) : Class where
  name := name
  kind := .ordinary
  loader := none
  accessFlags := 33
  super := sup
  interfaces := #[]
  cf := none
  fields := #[]
  methods := #[]
  instanceTypes := #[]
  staticTypes := #[]
  resolved := #[]
  callSites := []
  init := .initialized
  statics := none
  mirror := none

def pool0 : Array CpInfo := pool [(5, u "<init>"), (0, u "()V"), (1, .class_ 10), (1, u "java/lang/Object"), (85, u "clone"), (0, u "()Ljava/lang/Object;")] 26

def k0m0 : Method := { name := "<init>", desc := "()V", sig := { parameters := [], returnType := none }, accessFlags := 1, code := none }
def k0m1 : Method := { name := "clone", desc := "()Ljava/lang/Object;", sig := { parameters := [], returnType := some (.object "java/lang/Object") }, accessFlags := 260, code := none }
/-- java/lang/Object -/
def k0 : Class := { plain "java/lang/Object" none with
  accessFlags := 33
  interfaces := #[]
  cf := some (fileOf pool0 8 #[] #[{ accessFlags := 1, nameIndex := 5, descriptorIndex := 6, attributes := #[] }, { accessFlags := 260, nameIndex := 96, descriptorIndex := 97, attributes := #[] }] 33 0 #[] #[])
  fields := #[]
  methods := #[k0m0, k0m1]
  instanceTypes := #[]
  staticTypes := #[]
  resolved := Array.replicate 124 none
  statics := none }

def pool1 : Array CpInfo := pool [(2, .class_ 4), (1, u "java/lang/Object"), (0, u "<init>"), (0, u "()V"), (0, .methodref 8 9), (0, .class_ 10), (0, .nameAndType 11 12), (0, u "com/example/stevedore/stevedore/MoveGraphGroupedPinLaw"), (0, u "one"), (0, u "(Z)I"), (0, .methodref 8 14), (0, .nameAndType 15 16), (0, u "cnt"), (0, u "(IIIIII)I"), (0, .methodref 18 19), (0, .class_ 20), (0, .nameAndType 21 22), (0, u "com/example/stevedore/stevedore/MoveGraph"), (0, u "grouped"), (0, u "([I[I[I)[I"), (0, .methodref 8 24), (0, .nameAndType 25 26), (0, u "se"), (0, u "(IIII)I"), (3, u "law"), (0, u "(III)Z")] 4

def k1m0 : Method := { name := "<init>", desc := "()V", sig := { parameters := [], returnType := none }, accessFlags := 1, code := none }
def k1c1 : Code := { maxStack := 1, maxLocals := 1, code := method_2_code, exceptionTable := #[], attributes := #[] }
def k1m1 : Method := { name := "one", desc := "(Z)I", sig := { parameters := [.boolean], returnType := some .int }, accessFlags := 10, code := some k1c1 }
def k1c2 : Code := { maxStack := 3, maxLocals := 6, code := method_3_code, exceptionTable := #[], attributes := #[] }
def k1m2 : Method := { name := "cnt", desc := "(IIIIII)I", sig := { parameters := [.int, .int, .int, .int, .int, .int], returnType := some .int }, accessFlags := 10, code := some k1c2 }
def k1c3 : Code := { maxStack := 2, maxLocals := 4, code := method_4_code, exceptionTable := #[], attributes := #[] }
def k1m3 : Method := { name := "se", desc := "(IIII)I", sig := { parameters := [.int, .int, .int, .int], returnType := some .int }, accessFlags := 10, code := some k1c3 }
def k1c4 : Code := { maxStack := 6, maxLocals := 22, code := code, exceptionTable := #[], attributes := #[] }
def k1m4 : Method := { name := "law", desc := "(III)Z", sig := { parameters := [.int, .int, .int], returnType := some .boolean }, accessFlags := 9, code := some k1c4 }
/-- com/example/stevedore/stevedore/MoveGraphGroupedPinLaw -/
def k1 : Class := { plain "com/example/stevedore/stevedore/MoveGraphGroupedPinLaw" (some 0) with
  accessFlags := 49
  interfaces := #[]
  cf := some (fileOf pool1 8 #[] #[{ accessFlags := 1, nameIndex := 5, descriptorIndex := 6, attributes := #[] }, { accessFlags := 10, nameIndex := 11, descriptorIndex := 12, attributes := #[] }, { accessFlags := 10, nameIndex := 15, descriptorIndex := 16, attributes := #[] }, { accessFlags := 10, nameIndex := 25, descriptorIndex := 26, attributes := #[] }, { accessFlags := 9, nameIndex := 30, descriptorIndex := 31, attributes := #[] }] 49 2 #[] #[])
  fields := #[]
  methods := #[k1m0, k1m1, k1m2, k1m3, k1m4]
  instanceTypes := #[]
  staticTypes := #[]
  resolved := Array.replicate 36 none
  statics := none }

def pool2 : Array CpInfo := pool [(2, .class_ 4), (1, u "java/lang/Object"), (0, u "<init>"), (0, u "()V"), (0, .class_ 8), (0, u "java/lang/Record")] 13

def k2m0 : Method := { name := "<init>", desc := "()V", sig := { parameters := [], returnType := none }, accessFlags := 4, code := none }
/-- java/lang/Record -/
def k2 : Class := { plain "java/lang/Record" (some 0) with
  accessFlags := 1057
  interfaces := #[]
  cf := some (fileOf pool2 7 #[] #[{ accessFlags := 4, nameIndex := 5, descriptorIndex := 6, attributes := #[] }] 1057 2 #[] #[])
  fields := #[]
  methods := #[k2m0]
  instanceTypes := #[]
  staticTypes := #[]
  resolved := Array.replicate 22 none
  statics := none }

def pool3 : Array CpInfo := pool [(2, .class_ 4), (1, u "java/lang/Record"), (3, .class_ 10), (1, u "com/example/stevedore/stevedore/MoveGraph"), (0, u "from"), (0, u "[I"), (2, u "to"), (2, u "limit"), (2, u "send"), (2, u "receive"), (2, u "free"), (119, u "grouped"), (0, u "([I[I[I)[I"), (0, .methodref 150 151), (0, .class_ 12), (0, .nameAndType 152 153), (0, u "clone"), (0, u "()Ljava/lang/Object;"), (12, u "PARTS"), (0, u "I"), (2, u "SENDING"), (1, u "RECEIVING"), (1, u "BOTH")] 40

def k3c0 : Code := { maxStack := 6, maxLocals := 9, code := prog_15_method_17_code, exceptionTable := #[], attributes := #[] }
def k3m0 : Method := { name := "grouped", desc := "([I[I[I)[I", sig := { parameters := [(.array .int), (.array .int), (.array .int)], returnType := some (.array .int) }, accessFlags := 8, code := some k3c0 }
/-- com/example/stevedore/stevedore/MoveGraph -/
def k3 : Class := { plain "com/example/stevedore/stevedore/MoveGraph" (some 2) with
  accessFlags := 48
  interfaces := #[]
  cf := some (fileOf pool3 8 #[] #[{ accessFlags := 8, nameIndex := 147, descriptorIndex := 148, attributes := #[] }] 48 2 #[] #[{ accessFlags := 18, nameIndex := 11, descriptorIndex := 12, attributes := #[] }, { accessFlags := 18, nameIndex := 15, descriptorIndex := 12, attributes := #[] }, { accessFlags := 18, nameIndex := 18, descriptorIndex := 12, attributes := #[] }, { accessFlags := 18, nameIndex := 21, descriptorIndex := 12, attributes := #[] }, { accessFlags := 18, nameIndex := 24, descriptorIndex := 12, attributes := #[] }, { accessFlags := 18, nameIndex := 27, descriptorIndex := 12, attributes := #[] }, { accessFlags := 26, nameIndex := 166, descriptorIndex := 167, attributes := #[] }, { accessFlags := 26, nameIndex := 170, descriptorIndex := 167, attributes := #[] }, { accessFlags := 26, nameIndex := 172, descriptorIndex := 167, attributes := #[] }, { accessFlags := 26, nameIndex := 174, descriptorIndex := 167, attributes := #[] }])
  fields := #[{ name := "from", type := (.array .int), accessFlags := 18, slot := 0, constantValue := 0 }, { name := "to", type := (.array .int), accessFlags := 18, slot := 1, constantValue := 0 }, { name := "limit", type := (.array .int), accessFlags := 18, slot := 2, constantValue := 0 }, { name := "send", type := (.array .int), accessFlags := 18, slot := 3, constantValue := 0 }, { name := "receive", type := (.array .int), accessFlags := 18, slot := 4, constantValue := 0 }, { name := "free", type := (.array .int), accessFlags := 18, slot := 5, constantValue := 0 }, { name := "PARTS", type := .int, accessFlags := 26, slot := 0, constantValue := 0 }, { name := "SENDING", type := .int, accessFlags := 26, slot := 1, constantValue := 0 }, { name := "RECEIVING", type := .int, accessFlags := 26, slot := 2, constantValue := 0 }, { name := "BOTH", type := .int, accessFlags := 26, slot := 3, constantValue := 0 }]
  methods := #[k3m0]
  instanceTypes := #[(.array .int), (.array .int), (.array .int), (.array .int), (.array .int), (.array .int)]
  staticTypes := #[.int, .int, .int, .int]
  resolved := Array.replicate 215 none
  statics := none }

def pool4 : Array CpInfo := pool [(1, .class_ 2), (0, u "java/lang/Cloneable"), (0, .class_ 4), (0, u "java/lang/Object")] 2

/-- java/lang/Cloneable -/
def k4 : Class := { plain "java/lang/Cloneable" (some 0) with
  accessFlags := 1537
  interfaces := #[]
  cf := some (fileOf pool4 1 #[] #[] 1537 3 #[] #[])
  fields := #[]
  methods := #[]
  instanceTypes := #[]
  staticTypes := #[]
  resolved := Array.replicate 7 none
  statics := none }

def pool5 : Array CpInfo := pool [(1, u "java/io/Serializable"), (0, .class_ 1), (0, u "java/lang/Object"), (0, .class_ 3)] 3

/-- java/io/Serializable -/
def k5 : Class := { plain "java/io/Serializable" (some 0) with
  accessFlags := 1537
  interfaces := #[]
  cf := some (fileOf pool5 2 #[] #[] 1537 4 #[] #[])
  fields := #[]
  methods := #[]
  instanceTypes := #[]
  staticTypes := #[]
  resolved := Array.replicate 8 none
  statics := none }

/-- the primitive byte -/
def k6 : Class := { plain "byte" none with kind := .primitive 'B', accessFlags := 0x411 }
/-- [B -/
def k7 : Class := { plain "[B" (some 0) with kind := .array 6 .byte, interfaces := #[4, 5], accessFlags := 1041 }

/-- the primitive int -/
def k8 : Class := { plain "int" none with kind := .primitive 'I', accessFlags := 0x411 }
/-- [I -/
def k9 : Class := { plain "[I" (some 0) with kind := .array 8 .int, interfaces := #[4, 5], accessFlags := 1041 }

def heap : Heap := #[]
def classes : Array Class := #[k0, k1, k2, k3, k4, k5, k6, k7, k8, k9]
def interned : List (Array UInt16 × Addr) := []
def slotsUsed : Nat := 0
def theMethod : MethodId := ⟨1, 4⟩
def args0 : Array Value := #[.int 5, .int 7, .int 1]
def aboutOver (below : List Frame) : State where
  vm := { classes := classes, interned := interned.toArray }
  heap := heap
  slotsUsed := slotsUsed
  threads := #[{ frames := .invoking theMethod args0 :: below }]
def below0 : List Frame := [.native { method := ⟨0, 0⟩, args := #[] }]
def about1 : State := aboutOver below0
def p0 : Program := .bare "" "" ""
def e0 : Env := launch0.env 0 0 0
theorem w_frames : about1.frames = Frame.invoking theMethod args0 :: below0 := rfl
set_option maxRecDepth 65536 in
theorem w_args : argsFit about1.vm theMethod args0 = true := by decide +kernel
set_option maxRecDepth 65536 in
theorem w_heap : heapFits about1 = true := by decide +kernel
set_option maxRecDepth 65536 in
theorem w_runnable : about1.curStatus? = some .runnable := by decide +kernel
set_option maxRecDepth 65536 in
theorem w_alone : about1.alone = true := by decide +kernel
set_option maxRecDepth 65536 in
theorem w_named : about1.methodNamed? x = some theMethod := by decide +kernel
set_option maxRecDepth 65536 in
theorem w_hears : about1.hears theMethod below0 = true := by decide +kernel
set_option maxRecDepth 65536 in
theorem w_ripe : about1.ripe theMethod args0 below0 = true := by decide +kernel
theorem w_running : about1.status = .running := rfl
set_option maxRecDepth 65536 in
theorem w_room : about1.hasRoom e0.platform room_1 = true :=
  launch0.hasRoom_least _ room_1 (by decide +kernel) (by decide +kernel) (by decide +kernel) (by decide +kernel) (by decide +kernel) (by decide +kernel)
theorem allAtoms_all (ts : List Jvm.Cond) (a : Array Jvm.Value) (st : Jvm.State) : (allAtoms ts).before a st = ts.all (fun c => c.before a st) := by
  induction ts with
  | nil => rfl
  | cons c t ih =>
    show (Jvm.Cond.and c (allAtoms t)).before a st = _
    rw [Jvm.Cond.before_and, ih, List.all_cons]
def words1 : List Jvm.Cond := Jvm.Cond.code x code maxLocals ret :: tables_1
/-- a 'code' word, met by the world's own term for the bytes: nothing is compared byte by byte -/
theorem code_word {y : MethodName} {bytes : ByteArray} {mx : Nat} {rt : Option FieldType} {a : Array Value} {s : State} {m : MethodId} {meth : Method} {c : Code} (h1 : s.methodNamed? y = some m) (h2 : s.vm.method? m = some meth) (h3 : meth.code = some c) (h4 : c.code = bytes)
    (h5 : (c.maxLocals == mx && c.exceptionTable.isEmpty && decide (c.maxStack ≤ mostOperands) && decide (meth.sig.returnType = rt) && !meth.locks && decide (parseMethodDescriptor y.desc = some meth.sig)) = true) : (Jvm.Cond.code y bytes mx rt).before a s = true := by
  simp only [Bool.and_eq_true, beq_iff_eq, Bool.not_eq_true', decide_eq_true_eq] at h5
  obtain ⟨⟨⟨⟨⟨g1, g2⟩, g3⟩, g4⟩, g5⟩, g6⟩ := h5
  simp [Cond.before, Cond.holds, Cond.value, h1, h2, h3, h4, g1, g2, g3, g4, g5, g6]
def isCode : Jvm.Cond → Bool
  | .code _ _ _ _ => true
  | _ => false
theorem all_split {L : List Jvm.Cond} {P : Jvm.Cond → Bool} (h1 : L.all (fun c => isCode c || P c) = true) (h2 : ∀ c ∈ L.filter isCode, P c = true) : L.all P = true := by
  refine List.all_eq_true.mpr fun c hc => ?_
  have h := List.all_eq_true.mp h1 c hc
  rcases Bool.eq_false_or_eq_true (isCode c) with hi | hi
  · exact h2 c (List.mem_filter.mpr ⟨hc, hi⟩)
  · simpa [hi] using h
set_option maxRecDepth 65536 in
theorem w_c0 : (Jvm.Cond.code x code maxLocals ret).before args0 about1 = true := code_word (m := ⟨1, 4⟩) (meth := k1m4) (c := k1c4) (by decide +kernel) rfl rfl rfl (by decide +kernel)
set_option maxRecDepth 65536 in
theorem w_c1 : (Jvm.Cond.code ({ cls := "com/example/stevedore/stevedore/MoveGraphGroupedPinLaw", name := "cnt", desc := "(IIIIII)I" } : Jvm.MethodName) method_3_code (6 : Nat) (Option.some Jvm.ClassFile.FieldType.int)).before args0 about1 = true := code_word (m := ⟨1, 2⟩) (meth := k1m2) (c := k1c2) (by decide +kernel) rfl rfl rfl (by decide +kernel)
set_option maxRecDepth 65536 in
theorem w_c2 : (Jvm.Cond.code ({ cls := "com/example/stevedore/stevedore/MoveGraphGroupedPinLaw", name := "one", desc := "(Z)I" } : Jvm.MethodName) method_2_code (1 : Nat) (Option.some Jvm.ClassFile.FieldType.int)).before args0 about1 = true := code_word (m := ⟨1, 1⟩) (meth := k1m1) (c := k1c1) (by decide +kernel) rfl rfl rfl (by decide +kernel)
set_option maxRecDepth 65536 in
theorem w_c3 : (Jvm.Cond.code ({ cls := "com/example/stevedore/stevedore/MoveGraph", name := "grouped", desc := "([I[I[I)[I" } : Jvm.MethodName) prog_15_method_17_code (9 : Nat) (Option.some (Jvm.ClassFile.FieldType.array Jvm.ClassFile.FieldType.int))).before args0 about1 = true := code_word (m := ⟨3, 0⟩) (meth := k3m0) (c := k3c0) (by decide +kernel) rfl rfl rfl (by decide +kernel)
set_option maxRecDepth 65536 in
theorem w_c4 : (Jvm.Cond.code ({ cls := "com/example/stevedore/stevedore/MoveGraphGroupedPinLaw", name := "se", desc := "(IIII)I" } : Jvm.MethodName) method_4_code (4 : Nat) (Option.some Jvm.ClassFile.FieldType.int)).before args0 about1 = true := code_word (m := ⟨1, 3⟩) (meth := k1m3) (c := k1c3) (by decide +kernel) rfl rfl rfl (by decide +kernel)
def codes1 : List Jvm.Cond := [Jvm.Cond.code x code maxLocals ret, Jvm.Cond.code ({ cls := "com/example/stevedore/stevedore/MoveGraphGroupedPinLaw", name := "cnt", desc := "(IIIIII)I" } : Jvm.MethodName) method_3_code (6 : Nat) (Option.some Jvm.ClassFile.FieldType.int), Jvm.Cond.code ({ cls := "com/example/stevedore/stevedore/MoveGraphGroupedPinLaw", name := "one", desc := "(Z)I" } : Jvm.MethodName) method_2_code (1 : Nat) (Option.some Jvm.ClassFile.FieldType.int), Jvm.Cond.code ({ cls := "com/example/stevedore/stevedore/MoveGraph", name := "grouped", desc := "([I[I[I)[I" } : Jvm.MethodName) prog_15_method_17_code (9 : Nat) (Option.some (Jvm.ClassFile.FieldType.array Jvm.ClassFile.FieldType.int)), Jvm.Cond.code ({ cls := "com/example/stevedore/stevedore/MoveGraphGroupedPinLaw", name := "se", desc := "(IIII)I" } : Jvm.MethodName) method_4_code (4 : Nat) (Option.some Jvm.ClassFile.FieldType.int)]
set_option maxRecDepth 65536 in
theorem codes_eq : words1.filter isCode = codes1 := rfl
theorem w_codes : ∀ c ∈ words1.filter isCode, c.before args0 about1 = true := by
  rw [codes_eq]
  intro c hc
  simp only [codes1, List.mem_cons, List.not_mem_nil, or_false] at hc
  rcases hc with rfl | rfl | rfl | rfl | rfl
  · exact w_c0
  · exact w_c1
  · exact w_c2
  · exact w_c3
  · exact w_c4
set_option maxRecDepth 65536 in
theorem w_t1 : (words1.take 24).all (fun c => isCode c || c.before args0 about1) = true := by decide +kernel
set_option maxRecDepth 65536 in
theorem w_t2 : (words1.drop 24).all (fun c => isCode c || c.before args0 about1) = true := by decide +kernel
theorem w_tables : (allAtoms (Jvm.Cond.code x code maxLocals ret :: tables_1)).before args0 about1 = true := by
  rw [allAtoms_all]
  show words1.all (fun c => c.before args0 about1) = true
  refine all_split ?_ w_codes
  rw [← List.take_append_drop 24 words1, List.all_append, w_t1, w_t2]
  rfl
set_option maxRecDepth 65536 in
theorem w_case : (Jvm.Cond.and given_1 narrow_1).before args0 about1 = true := by decide +kernel
theorem w_applies : (headSpec (Jvm.Cond.code x code maxLocals ret :: tables_1) room_1).applies x e0.platform about1 = true :=
  (Spec.applies_iff w_frames).mpr ⟨w_running, w_runnable, w_alone, w_named, w_hears, w_ripe, w_room, w_tables⟩
theorem atStart : AtStart classFile x code maxLocals ret World_1 tables_1 room_1 Calls_1 rest_1 Pre_1 launch0 p0 e0 about1 theMethod args0 below0 :=
  ⟨lists_1, trivial, launch0.admits_env _ _ _, launch0.least_env, fairChoices_fair.cas, fairChoices_fair.clock, w_frames, w_args, w_heap, w_applies, trivial, trivial, w_case⟩
end start1
theorem witness_1 : WitnessClaimed_1 := ⟨start1.p0, start1.e0, start1.about1, start1.theMethod, start1.args0, start1.below0, start1.atStart⟩
end Jvm.Pilot.@@N@@
