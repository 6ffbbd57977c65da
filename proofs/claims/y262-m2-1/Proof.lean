import JvmDerived
import JvmDerived.Pilot.@@N@@Statement
import JvmDerived.Pilot.@@N@@Code
set_option linter.unusedVariables false
set_option linter.unusedSimpArgs false
@@BLOCK:NumsL.lean.txt@@
namespace Jvm.RoadKit
open Sem ClassFile Op Lib Jvm.Stand Jvm.Free Jvm.LawKit
section New
variable {p : Program} {l : Launch} {e : Env} {R : Room} {s : State} {m : MethodId} {args : Array Value} {below : List Frame} {meth : Method} {c : Code} {T : State} {locs : List Loc} {cells slots : Nat}
theorem retI (X : Stand p l e R s m args below meth c T locs cells slots) (hx : p.tables.exec = Jvm.exec) {pc : Nat} {Ls : Array Slot} {z : Int32} {rest : List Value} (hret : meth.sig.returnType = some .int) (hd : decode c.code pc = .ok (.ireturn, 1)) {fs : List Frame}
    (hl : ∀ (f : JFrame) (acts : List Action), f.method = m → f.locked = none → f.entered = [] → (doReturn e (T.setTop f) acts (some (.int z))).1 = T.setFrames fs) : Steps p.tables e below (T.setTop (mkF m pc Ls (.int z :: rest))) (T.setFrames fs) := by
  have hm' : T.vm.method? m = some meth := X.method'
  have hn : narrow .int (.int z) = .int z := rfl
  show Steps p.tables e below (T.setTop { method := m, pc := pc, locals := Ls, stack := _ :: rest, locked := none }) _
  jvm_step X.here [X.here.top, hx, hd, hm', hret, hn]
  first | (intro acts; rw [hl _ acts rfl rfl rfl]) | rw [hl _ _ rfl rfl rfl]
  exact Steps.refl _
theorem own_retJ (X : Stand p l e R s m args below meth c T locs cells slots) (hx : p.tables.exec = Jvm.exec) {pc : Nat} {Ls : Array Slot} {z : Int64} {rest : List Value} (hret : meth.sig.returnType = some .long) (hd : decode c.code pc = .ok (.lreturn, 1)) {fs : List Frame}
    (hl : ∀ (f : JFrame) (acts : List Action), f.method = m → f.locked = none → f.entered = [] → (doReturn e (T.setTop f) acts (some (.long z))).1 = T.setFrames fs) : Steps p.tables e below (T.setTop (mkF m pc Ls (.long z :: rest))) (T.setFrames fs) := by
  have hm' : T.vm.method? m = some meth := X.method'
  show Steps p.tables e below (T.setTop { method := m, pc := pc, locals := Ls, stack := _ :: rest, locked := none }) _
  jvm_step X.here [X.here.top, hx, hd, hm', hret, narrow]
  first | (intro acts; rw [hl _ acts rfl rfl rfl]) | rw [hl _ _ rfl rfl rfl]
  exact Steps.refl _
theorem own_retA (X : Stand p l e R s m args below meth c T locs cells slots) (hx : p.tables.exec = Jvm.exec) {pc : Nat} {Ls : Array Slot} {b : Addr} {t : FieldType} {rest : List Value} (hret : meth.sig.returnType = some t) (ht : t.isReference = true) (hb0 : b = b) (hd : decode c.code pc = .ok (.areturn, 1)) {fs : List Frame}
    (hl : ∀ (f : JFrame) (acts : List Action), f.method = m → f.locked = none → f.entered = [] → (doReturn e (T.setTop f) acts (some (.ref b))).1 = T.setFrames fs) : Steps p.tables e below (T.setTop (mkF m pc Ls (.ref b :: rest))) (T.setFrames fs) := by
  have hm' : T.vm.method? m = some meth := X.method'
  show Steps p.tables e below (T.setTop { method := m, pc := pc, locals := Ls, stack := _ :: rest, locked := none }) _
  jvm_step X.here [X.here.top, hx, hd, hm', hret, Value.isRef, ht]
  first | (intro acts; rw [hl _ acts rfl rfl rfl]) | rw [hl _ _ rfl rfl rfl]
  exact Steps.refl _
end New
/-- a walk's goal at the state A -/
def own_G (tb : Tables) (e : Env) (below : List Frame) (P : Outcome → State → Prop) (A : State) : Prop := ∃ s₂ o, Steps tb e below A s₂ ∧ s₂.status = .running ∧ Ended s₂ below o ∧ P o s₂
section Go
variable {tb : Tables} {e : Env} {below : List Frame} {P : Outcome → State → Prop} {A B : State}
theorem own_step (h : ∀ t, Steps tb e below B t → Steps tb e below A t) (k : own_G tb e below P B) : own_G tb e below P A := by
  obtain ⟨s₂, o, h1, h2⟩ := k
  exact ⟨s₂, o, h _ h1, h2⟩
theorem own_start (h : ∀ t, Steps tb e below B t → Steps tb e below A t) (k : own_G tb e below P B) : ∃ s₂ o, Steps tb e below A s₂ ∧ s₂.status = .running ∧ Ended s₂ below o ∧ P o s₂ := own_step h k
theorem own_done {s₂ : State} {o : Outcome} (h1 : Steps tb e below A s₂) (h2 : s₂.status = .running) (h3 : Ended s₂ below o) (h4 : P o s₂) : own_G tb e below P A := ⟨s₂, o, h1, h2, h3, h4⟩
theorem own_nm {α : Type} (x : α) (F : α → State) (h : ∀ v, v = x → own_G tb e below P (F v)) : own_G tb e below P (F x) := h x rfl
theorem own_gen (h : ∀ P', P' = P → own_G tb e below P' A) : own_G tb e below P A := h P rfl
theorem own_imp (h : own_G tb e below P B → own_G tb e below P A) (k : own_G tb e below P B) : own_G tb e below P A := h k
end Go
/-- an array of ints (bytes, chars, shorts) by its members; a long[] by its members -/
def own_Ari (Z : State) (h : Heap) (a : Addr) (ty : FieldType) (vs : List Int32) : Prop := ∃ c : Cell, Arr Z h a c ty ∧ c.slots.toList = vs.map Value.int ∧ vs.length < 2 ^ 31
def own_Arj (Z : State) (h : Heap) (a : Addr) (vs : List Int64) : Prop := ∃ c : Cell, Arr Z h a c .long ∧ c.slots.toList = vs.map Value.long ∧ vs.length < 2 ^ 31
def own_Inb (j : Int32) (n : Nat) : Prop := ¬ j < 0 ∧ j.toNatClampNeg < n
theorem own_inb {j : Int32} {n : Nat} (h1 : ¬ j < 0) (h2 : j.toNatClampNeg < n) : own_Inb j n := ⟨h1, h2⟩
section ArrFacts
variable {Z : State} {h h' : Heap} {a b : Addr} {ty : FieldType} {vs : List Int32} {us : List Int64} {sl : Nat} {v : Value} {L : List Addr}
theorem own_Ari.lt (F : own_Ari Z h a ty vs) : a < h.size := by obtain ⟨c, A, -⟩ := F; exact A.lt
theorem own_Ari.ext (F : own_Ari Z h a ty vs) (E : Ext h h') : own_Ari Z h' a ty vs := by obtain ⟨c, A, r⟩ := F; exact ⟨c, A.ext E, r⟩
theorem own_Ari.other (F : own_Ari Z h b ty vs) (W : Wr h h' a sl v) (q : b ≠ a) : own_Ari Z h' b ty vs := by obtain ⟨c, A, r⟩ := F; exact ⟨c, A.other W q, r⟩
theorem own_Ari.keep (F : own_Ari Z h a ty vs) (K : Keep h h' L) (q : a ∉ L) : own_Ari Z h' a ty vs := by obtain ⟨c, A, r⟩ := F; exact ⟨c, ⟨K.2.1 a c A.1 q, A.2⟩, r⟩
theorem own_Arj.lt (F : own_Arj Z h a us) : a < h.size := by obtain ⟨c, A, -⟩ := F; exact A.lt
theorem own_Arj.ext (F : own_Arj Z h a us) (E : Ext h h') : own_Arj Z h' a us := by obtain ⟨c, A, r⟩ := F; exact ⟨c, A.ext E, r⟩
theorem own_Arj.other (F : own_Arj Z h b us) (W : Wr h h' a sl v) (q : b ≠ a) : own_Arj Z h' b us := by obtain ⟨c, A, r⟩ := F; exact ⟨c, A.other W q, r⟩
theorem own_Arj.keep (F : own_Arj Z h a us) (K : Keep h h' L) (q : a ∉ L) : own_Arj Z h' a us := by obtain ⟨c, A, r⟩ := F; exact ⟨c, ⟨K.2.1 a c A.1 q, A.2⟩, r⟩
theorem own_Ari_new {cA : ClassId} {n : Int32} (A : Arr Z h b (newA cA ty n) ty) (hn : ¬ n < 0) (hd : defaultValue ty = .int 0) : own_Ari Z h b ty (List.replicate n.toNatClampNeg 0) :=
  ⟨_, A, by simp [newA, hd], by rw [List.length_replicate]; exact (back32 hn).2⟩
theorem own_Arj_new {cA : ClassId} {n : Int32} (A : Arr Z h b (newA cA .long n) .long) (hn : ¬ n < 0) : own_Arj Z h b (List.replicate n.toNatClampNeg 0) :=
  ⟨_, A, by simp [newA, defaultValue], by rw [List.length_replicate]; exact (back32 hn).2⟩
theorem own_szI {c : Cell} (S : c.slots.toList = vs.map Value.int) : c.slots.size = vs.length := by have := congrArg List.length S; simpa using this
theorem own_szJ {c : Cell} (S : c.slots.toList = us.map Value.long) : c.slots.size = us.length := by have := congrArg List.length S; simpa using this
theorem own_atI {c : Cell} {k : Nat} (S : c.slots.toList = vs.map Value.int) (hk : k < vs.length) : c.slots[k]? = some (.int (vs.getD k 0)) := by
  rw [← Array.getElem?_toList, S, List.getElem?_map, List.getD_eq_getElem?_getD, List.getElem?_eq_getElem hk]; rfl
theorem own_atJ {c : Cell} {k : Nat} (S : c.slots.toList = us.map Value.long) (hk : k < us.length) : c.slots[k]? = some (.long (us.getD k 0)) := by
  rw [← Array.getElem?_toList, S, List.getElem?_map, List.getD_eq_getElem?_getD, List.getElem?_eq_getElem hk]; rfl
theorem own_setI {c : Cell} {k : Nat} {x : Int32} (A : Arr Z h a c ty) (S : c.slots.toList = vs.map Value.int) (hl : vs.length < 2 ^ 31) (W : Wr h h' a k (.int x)) : own_Ari Z h' a ty (vs.set k x) :=
  ⟨_, A.same W, by simp [Cell.setSlot, S, List.map_set], by rw [List.length_set]; exact hl⟩
theorem own_setJ {c : Cell} {k : Nat} {x : Int64} (A : Arr Z h a c .long) (S : c.slots.toList = us.map Value.long) (hl : us.length < 2 ^ 31) (W : Wr h h' a k (.long x)) : own_Arj Z h' a (us.set k x) :=
  ⟨_, A.same W, by simp [Cell.setSlot, S, List.map_set], by rw [List.length_set]; exact hl⟩
end ArrFacts
section ArrSteps
variable {p : Program} {l : Launch} {e : Env} {R : Room} {s : State} {m : MethodId} {args : Array Value} {below : List Frame} {meth : Method} {c : Code} {T : State} {locs : List Loc} {cells slots : Nat} {Z : State} {h : Heap} {a : Addr} {vs : List Int32} {us : List Int64} {j : Int32} {g : JFrame} {rest : List Value}
theorem own_iaload (X : Stand p l e R s m args below meth c T locs cells slots) (hx : p.tables.exec = Jvm.exec) (hZ : Z.Warmed39 s.vm) (eT : T.heap = h) (F : own_Ari Z h a .int vs) (q : own_Inb j vs.length) (hg : g.method = m) (hs : g.stack = .int j :: .ref a :: rest) (hd : decode c.code g.pc = .ok (.iaload, 1)) :
    ∀ target, Steps p.tables e below (T.setTop { g with pc := g.pc + 1, stack := .int (vs.getD j.toNatClampNeg 0) :: rest }) target → Steps p.tables e below (T.setTop g) target := by
  obtain ⟨cl, A, S, hl⟩ := F
  have z := own_szI S
  exact X.iaload hx (by rw [eT]; exact A.1) (State.isArrayOf_alike hZ.alike A.2.1) A.2.2 (fun y => y.elim q.1 fun w => by have := q.2; omega) (own_atI S q.2) hg hs hd
theorem own_baload (X : Stand p l e R s m args below meth c T locs cells slots) (hx : p.tables.exec = Jvm.exec) (hZ : Z.Warmed39 s.vm) (eT : T.heap = h) (F : own_Ari Z h a .byte vs) (q : own_Inb j vs.length) (hg : g.method = m) (hs : g.stack = .int j :: .ref a :: rest) (hd : decode c.code g.pc = .ok (.baload, 1)) :
    ∀ target, Steps p.tables e below (T.setTop { g with pc := g.pc + 1, stack := .int (vs.getD j.toNatClampNeg 0) :: rest }) target → Steps p.tables e below (T.setTop g) target := by
  obtain ⟨cl, A, S, hl⟩ := F
  have z := own_szI S
  exact X.baloadBytes hx (by rw [eT]; exact A.1) (State.isArrayOf_alike hZ.alike A.2.1) A.2.2 (fun y => y.elim q.1 fun w => by have := q.2; omega) (own_atI S q.2) hg hs hd
theorem own_laload (X : Stand p l e R s m args below meth c T locs cells slots) (hx : p.tables.exec = Jvm.exec) (hZ : Z.Warmed39 s.vm) (eT : T.heap = h) (F : own_Arj Z h a us) (q : own_Inb j us.length) (hg : g.method = m) (hs : g.stack = .int j :: .ref a :: rest) (hd : decode c.code g.pc = .ok (.laload, 1)) :
    ∀ target, Steps p.tables e below (T.setTop { g with pc := g.pc + 1, stack := .long (us.getD j.toNatClampNeg 0) :: rest }) target → Steps p.tables e below (T.setTop g) target := by
  obtain ⟨cl, A, S, hl⟩ := F
  have z := own_szJ S
  exact X.laload hx (by rw [eT]; exact A.1) (State.isArrayOf_alike hZ.alike A.2.1) A.2.2 (fun y => y.elim q.1 fun w => by have := q.2; omega) (own_atJ S q.2) hg hs hd
theorem own_lenI {ty : FieldType} (X : Stand p l e R s m args below meth c T locs cells slots) (hx : p.tables.exec = Jvm.exec) (hZ : Z.Warmed39 s.vm) (eT : T.heap = h) (F : own_Ari Z h a ty vs) (hg : g.method = m) (hs : g.stack = .ref a :: rest) (hd : decode c.code g.pc = .ok (.arraylength, 1)) :
    ∀ target, Steps p.tables e below (T.setTop { g with pc := g.pc + 1, stack := .int vs.length.toInt32 :: rest }) target → Steps p.tables e below (T.setTop g) target := by
  obtain ⟨cl, A, S, hl⟩ := F
  have z := own_szI S
  have k := X.arraylength hx (by rw [eT]; exact A.1) (State.isArrayOf_alike hZ.alike A.2.1) hg hs hd
  rw [z] at k
  exact k
theorem own_lenJ (X : Stand p l e R s m args below meth c T locs cells slots) (hx : p.tables.exec = Jvm.exec) (hZ : Z.Warmed39 s.vm) (eT : T.heap = h) (F : own_Arj Z h a us) (hg : g.method = m) (hs : g.stack = .ref a :: rest) (hd : decode c.code g.pc = .ok (.arraylength, 1)) :
    ∀ target, Steps p.tables e below (T.setTop { g with pc := g.pc + 1, stack := .int us.length.toInt32 :: rest }) target → Steps p.tables e below (T.setTop g) target := by
  obtain ⟨cl, A, S, hl⟩ := F
  have z := own_szJ S
  have k := X.arraylength hx (by rw [eT]; exact A.1) (State.isArrayOf_alike hZ.alike A.2.1) hg hs hd
  rw [z] at k
  exact k
theorem own_iastore {x : Int32} (X : Stand p l e R s m args below meth c T locs cells slots) (hx : p.tables.exec = Jvm.exec) (hZ : Z.Warmed39 s.vm) (eT : T.heap = h) (F : own_Ari Z h a .int vs) (q : own_Inb j vs.length) (hg : g.method = m) (hs : g.stack = .int x :: .int j :: .ref a :: rest) (hd : decode c.code g.pc = .ok (.iastore, 1)) :
    ∃ T' h', Stand p l e R s m args below meth c T' (locs ++ [⟨a, j.toNatClampNeg⟩]) cells slots ∧ T'.heap = h' ∧ Wr h h' a j.toNatClampNeg (.int x) ∧ own_Ari Z h' a .int (vs.set j.toNatClampNeg x) ∧
      ∀ target, Steps p.tables e below (T'.setTop { g with pc := g.pc + 1, stack := rest }) target → Steps p.tables e below (T.setTop g) target := by
  obtain ⟨cl, A, S, hl⟩ := F
  have z := own_szI S
  obtain ⟨T', h', X', e', W, st⟩ := stI X hx hZ eT A (j := j) (x := x) (fun y => y.elim q.1 fun w => by have := q.2; omega) hg hs hd
  exact ⟨T', h', X', e', W, own_setI A S hl W, st⟩
theorem own_bastore {x : Int32} (X : Stand p l e R s m args below meth c T locs cells slots) (hx : p.tables.exec = Jvm.exec) (hZ : Z.Warmed39 s.vm) (eT : T.heap = h) (F : own_Ari Z h a .byte vs) (q : own_Inb j vs.length) (hg : g.method = m) (hs : g.stack = .int x :: .int j :: .ref a :: rest) (hd : decode c.code g.pc = .ok (.bastore, 1)) :
    ∃ T' h', Stand p l e R s m args below meth c T' (locs ++ [⟨a, j.toNatClampNeg⟩]) cells slots ∧ T'.heap = h' ∧ Wr h h' a j.toNatClampNeg (.int (nar .byte x)) ∧ own_Ari Z h' a .byte (vs.set j.toNatClampNeg (nar .byte x)) ∧
      ∀ target, Steps p.tables e below (T'.setTop { g with pc := g.pc + 1, stack := rest }) target → Steps p.tables e below (T.setTop g) target := by
  obtain ⟨cl, A, S, hl⟩ := F
  have z := own_szI S
  obtain ⟨T', h', X', e', W, st⟩ := stB X hx hZ eT A (j := j) (x := x) (fun y => y.elim q.1 fun w => by have := q.2; omega) hg hs hd
  exact ⟨T', h', X', e', W, own_setI A S hl W, st⟩
theorem own_lastore {x : Int64} (X : Stand p l e R s m args below meth c T locs cells slots) (hx : p.tables.exec = Jvm.exec) (hZ : Z.Warmed39 s.vm) (eT : T.heap = h) (F : own_Arj Z h a us) (q : own_Inb j us.length) (hg : g.method = m) (hs : g.stack = .long x :: .int j :: .ref a :: rest) (hd : decode c.code g.pc = .ok (.lastore, 1)) :
    ∃ T' h', Stand p l e R s m args below meth c T' (locs ++ [⟨a, j.toNatClampNeg⟩]) cells slots ∧ T'.heap = h' ∧ Wr h h' a j.toNatClampNeg (.long x) ∧ own_Arj Z h' a (us.set j.toNatClampNeg x) ∧
      ∀ target, Steps p.tables e below (T'.setTop { g with pc := g.pc + 1, stack := rest }) target → Steps p.tables e below (T.setTop g) target := by
  obtain ⟨cl, A, S, hl⟩ := F
  have z := own_szJ S
  obtain ⟨T', h', X', e', W, st⟩ := stJ X hx hZ eT A (j := j) (x := x) (fun y => y.elim q.1 fun w => by have := q.2; omega) hg hs hd
  exact ⟨T', h', X', e', W, own_setJ A S hl W, st⟩
theorem own_cloneI {a0 : Array Value} {own : String} {index : Nat} (X : Stand p l e R s m args below meth c T locs cells slots) (hx : p.tables.exec = Jvm.exec) (hZ : Z.Warmed39 s.vm) (hown : s.vm.findClass own = some m.cls)
    (w1 : (Cond.methodLink own index ⟨"[I", "clone", "()Ljava/lang/Object;"⟩).before a0 Z = true) (w2 : (Cond.sameMethod "[I" "java/lang/Object" "clone" "()Ljava/lang/Object;").before a0 Z = true) (w3 : (Cond.native ⟨"java/lang/Object", "clone", "()Ljava/lang/Object;"⟩).before a0 Z = true)
    (w4 : (Cond.instanceMethod ⟨"java/lang/Object", "clone", "()Ljava/lang/Object;"⟩).before a0 Z = true) (w5 : (Cond.selects "[I" ⟨"[I", "clone", "()Ljava/lang/Object;"⟩ ⟨"java/lang/Object", "clone", "()Ljava/lang/Object;"⟩).before a0 Z = true) (w6 : (Cond.castable "[I" "java/lang/Cloneable").before a0 Z = true)
    (eT : T.heap = h) (F : own_Ari Z h a .int vs) (E : Exa Z h a "[I") (hg : g.method = m) (hsize : g.locals.size = c.maxLocals) (hs : g.stack = .ref a :: rest) (hd : decode c.code g.pc = .ok (.invokevirtual index, 3))
    (hf : 1 ≤ R.frames) {W cap : Nat} (hW : 2 * g.monitorRoom + (rest.map fun v => v.category).sum ≤ W) (hl : W + 14 ≤ R.locals) (hcap : vs.length ≤ cap) (hc : cells + 1 ≤ R.cells) (hsl : slots + cap ≤ R.slots) :
    ∃ T' h', Stand p l e R s m args below meth c T' locs (cells + 1) (slots + cap) ∧ T'.heap = h' ∧ Ext h h' ∧ own_Ari Z h' h.size .int vs ∧ Exa Z h' h.size "[I" ∧
      ∀ target, Steps p.tables e below (T'.setTop { g with pc := g.pc + 3, stack := .ref h.size :: rest }) target → Steps p.tables e below (T.setTop g) target := by
  obtain ⟨cl, A, S, hl'⟩ := F
  have z := own_szI S
  have FC : FitC Z cl := fitC_of A fun i hi v hv => by
    rw [own_atI S (by omega)] at hv
    cases hv; rfl
  obtain ⟨T', h', X', e', ex, A', E', st⟩ := cloneA X hx hZ hown w1 w2 w3 w4 w5 w6 eT A E FC hg hsize hs hd hf hW hl (by rw [z]; exact hcap) hc hsl
  exact ⟨T', h', X', e', ex, ⟨cloneOf cl, A', S, hl'⟩, E', st⟩
end ArrSteps
/-- an Object[] of which only the length is told; one that may be written besides -/
def own_Arl (Z : State) (h : Heap) (a : Addr) (n : Nat) : Prop := ∃ c : Cell, Arr Z h a c (.object "java/lang/Object") ∧ c.slots.size = n ∧ n < 2 ^ 31
def own_Aro (Z : State) (h : Heap) (a : Addr) (n : Nat) : Prop := ∃ c : Cell, Arr Z h a c (.object "java/lang/Object") ∧ c.slots.size = n ∧ n < 2 ^ 31 ∧ Ovr Z c.cls "java/lang/Object"
section RefArr
variable {Z : State} {h h' : Heap} {a b : Addr} {n sl : Nat} {v : Value} {L : List Addr}
theorem own_Arl.lt (F : own_Arl Z h a n) : a < h.size := by obtain ⟨c, A, -⟩ := F; exact A.lt
theorem own_Arl.ext (F : own_Arl Z h a n) (E : Ext h h') : own_Arl Z h' a n := by obtain ⟨c, A, r⟩ := F; exact ⟨c, A.ext E, r⟩
theorem own_Arl.other (F : own_Arl Z h b n) (W : Wr h h' a sl v) (q : b ≠ a) : own_Arl Z h' b n := by obtain ⟨c, A, r⟩ := F; exact ⟨c, A.other W q, r⟩
theorem own_Arl.keep (F : own_Arl Z h a n) (K : Keep h h' L) (q : a ∉ L) : own_Arl Z h' a n := by obtain ⟨c, A, r⟩ := F; exact ⟨c, ⟨K.2.1 a c A.1 q, A.2⟩, r⟩
theorem own_Aro.lt (F : own_Aro Z h a n) : a < h.size := by obtain ⟨c, A, -⟩ := F; exact A.lt
theorem own_Aro.ext (F : own_Aro Z h a n) (E : Ext h h') : own_Aro Z h' a n := by obtain ⟨c, A, r⟩ := F; exact ⟨c, A.ext E, r⟩
theorem own_Aro.other (F : own_Aro Z h b n) (W : Wr h h' a sl v) (q : b ≠ a) : own_Aro Z h' b n := by obtain ⟨c, A, r⟩ := F; exact ⟨c, A.other W q, r⟩
theorem own_Aro.keep (F : own_Aro Z h a n) (K : Keep h h' L) (q : a ∉ L) : own_Aro Z h' a n := by obtain ⟨c, A, r⟩ := F; exact ⟨c, ⟨K.2.1 a c A.1 q, A.2⟩, r⟩
theorem own_Aro_new {cA : ClassId} {z : Int32} (A : Arr Z h b (newA cA (.object "java/lang/Object") z) (.object "java/lang/Object")) (O : Ovr Z cA "java/lang/Object") (hn : ¬ z < 0) (q : z.toNatClampNeg = n) : own_Aro Z h b n :=
  ⟨_, A, by rw [sz_new, q], by rw [← q]; exact (back32 hn).2, O⟩
theorem own_arlS {args : Array Value} {t : Term} (ev : t.eval args Z none [] Z = some (.ref a)) (hx : (Cond.arrayOf t (.object "java/lang/Object")).value args Z none Z [] = some true) (hl : (Term.length t).eval args Z none [] Z = some (.int n.toInt32)) (hn : n < 2 ^ 31) : own_Arl Z Z.heap a n := by
  obtain ⟨c, A⟩ := Arr.start ev hx
  have hA : Z.arrayAt? a = some c := A.fin (Vm.Alike.refl _)
  obtain ⟨a', c', e1, e2, e3⟩ := Term.length_spec hl
  cases ev.symm.trans e1
  cases hA.symm.trans e2
  have hsz : c.slots.size < 2 ^ 31 := by
    simp only [Term.eval, ev, Option.bind_eq_bind, Option.bind_some, hA] at hl
    split at hl
    · assumption
    · cases hl
  have hs : c.slots.size = n := by
    have q := Value.int.inj e3
    have q1 := congrArg Int32.toInt q
    have r1 : (n.toInt32).toInt = (n : Int) := Int32.toInt_ofNat_small (by omega)
    have r2 : (c.slots.size.toInt32).toInt = (c.slots.size : Int) := Int32.toInt_ofNat_small (by omega)
    rw [r1, r2] at q1
    omega
  exact ⟨c, A, hs, hn⟩
end RefArr
section RefSteps
variable {p : Program} {l : Launch} {e : Env} {R : Room} {s : State} {m : MethodId} {args : Array Value} {below : List Frame} {meth : Method} {c : Code} {T : State} {locs : List Loc} {cells slots : Nat} {Z : State} {h : Heap} {a y : Addr} {n : Nat} {j : Int32} {g : JFrame} {rest : List Value}
theorem own_lenL (X : Stand p l e R s m args below meth c T locs cells slots) (hx : p.tables.exec = Jvm.exec) (hZ : Z.Warmed39 s.vm) (eT : T.heap = h) (F : own_Arl Z h a n) (hg : g.method = m) (hs : g.stack = .ref a :: rest) (hd : decode c.code g.pc = .ok (.arraylength, 1)) :
    ∀ target, Steps p.tables e below (T.setTop { g with pc := g.pc + 1, stack := .int n.toInt32 :: rest }) target → Steps p.tables e below (T.setTop g) target := by
  obtain ⟨cl, A, S, hl⟩ := F
  have k := X.arraylength hx (by rw [eT]; exact A.1) (State.isArrayOf_alike hZ.alike A.2.1) hg hs hd
  rw [S] at k
  exact k
theorem own_aastore (X : Stand p l e R s m args below meth c T locs cells slots) (hx : p.tables.exec = Jvm.exec) (hZ : Z.Warmed39 s.vm) (eT : T.heap = h) (F : own_Aro Z h a n) (I : Ins Z h y "java/lang/Object" true) (q : own_Inb j n) (hg : g.method = m) (hs : g.stack = .ref y :: .int j :: .ref a :: rest) (hd : decode c.code g.pc = .ok (.aastore, 1)) :
    ∃ T' h', Stand p l e R s m args below meth c T' (locs ++ [⟨a, j.toNatClampNeg⟩]) cells slots ∧ T'.heap = h' ∧ Wr h h' a j.toNatClampNeg (.ref y) ∧ own_Aro Z h' a n ∧
      ∀ target, Steps p.tables e below (T'.setTop { g with pc := g.pc + 1, stack := rest }) target → Steps p.tables e below (T.setTop g) target := by
  obtain ⟨cl, A, S, hl, O⟩ := F
  obtain ⟨T', h', X', e', W, st⟩ := stR X hx hZ eT A (j := j) (v := .ref y) (fun w => w.elim q.1 fun z => by have := q.2; omega) rfl (Sto.of A O I) hg hs hd
  exact ⟨T', h', X', e', W, ⟨_, A.same W, by simp [Cell.setSlot, S], hl, O⟩, st⟩
end RefSteps
section StaKeep
variable {Z : State} {h h' : Heap} {L : List Addr} {C n d : String} {v : Value} {w : Addr}
def own_Ns (h : Heap) (w : Addr) : Prop := ∀ cell : Cell, h[w]? = some cell → cell.vm.isStatics = false
theorem own_nsE {K : String} (F : Exa Z h w K) : own_Ns h w := fun cell q => by
  obtain ⟨c, _, h1, -, -, h4, -⟩ := F
  cases h1.symm.trans q
  exact h4
theorem own_nsI {ty : FieldType} {vs : List Int32} (F : own_Ari Z h w ty vs) : own_Ns h w := fun cell q => by
  obtain ⟨c, A, -⟩ := F
  cases A.1.symm.trans q
  exact A.plain
theorem own_nsO {k : Nat} (F : own_Aro Z h w k) : own_Ns h w := fun cell q => by
  obtain ⟨c, A, -⟩ := F
  cases A.1.symm.trans q
  exact A.plain
theorem own_staKeep (F : Sta Z h C n d v) (K : Keep h h' L) (q : ∀ w ∈ L, own_Ns h w) : Sta Z h' C n d v := by
  obtain ⟨cf, i, k, f, st, cell, h1, h2, h3, h4, h5, h6, h7⟩ := F
  refine ⟨cf, i, k, f, st, cell, h1, h2, h3, h4, K.2.1 st cell h5 fun z => ?_, h6, h7⟩
  rw [q st z cell h5] at h6
  cases h6
end StaKeep

section Short
variable {tb : Tables} [Ours tb] {e : Env} {below : List Frame} {P : Outcome → State → Prop} {T : State} {m : MethodId} {c : Code} {g : JFrame}
theorem own_il (h : At T m c below) (hx : tb.exec = Jvm.exec) (hg : g.method = m) {k : Fin 4} {v : Int32} (hd : decode c.code g.pc = .ok (.iload_n k, 1)) (hl : g.locals[k.val]? = some (.val (.int v))) (K : own_G tb e below P (T.setTop { g with pc := g.pc + 1, stack := .int v :: g.stack })) : own_G tb e below P (T.setTop g) := own_step (fun _ z => XS.iloadN h hx hg hd hl z) K
theorem own_al (h : At T m c below) (hx : tb.exec = Jvm.exec) (hg : g.method = m) {k : Fin 4} {v : Value} (hd : decode c.code g.pc = .ok (.aload_n k, 1)) (hl : g.locals[k.val]? = some (.val v)) (hv : v.isRef = true) (K : own_G tb e below P (T.setTop { g with pc := g.pc + 1, stack := v :: g.stack })) : own_G tb e below P (T.setTop g) := own_step (fun _ z => XS.aloadN h hx hg hd hl hv z) K
theorem own_ic (h : At T m c below) (hx : tb.exec = Jvm.exec) (hg : g.method = m) {i : Int} (hd : decode c.code g.pc = .ok (.iconst i, 1)) (K : own_G tb e below P (T.setTop { g with pc := g.pc + 1, stack := .int (Int32.ofInt i) :: g.stack })) : own_G tb e below P (T.setTop g) := own_step (fun _ z => XS.iconst h hx hg hd z) K
theorem own_go (h : At T m c below) (hx : tb.exec = Jvm.exec) (hg : g.method = m) {o : Int} {pc0 pc' : Nat} (hpc : g.pc = pc0) (hd : decode c.code g.pc = .ok (.goto o, 3)) (ho : 0 ≤ (pc0 : Int) + o) (hp : ((pc0 : Int) + o).toNat = pc') (K : own_G tb e below P (T.setTop { g with pc := pc' })) : own_G tb e below P (T.setTop g) := own_step (fun _ z => XS.goto h hx hg hpc hd ho hp z) K
theorem own_ix (h : At T m c below) (hx : tb.exec = Jvm.exec) (hg : g.method = m) {k : Nat} {v : Int32} (hd : decode c.code g.pc = .ok (.iload k, 2)) (hl : g.locals[k]? = some (.val (.int v))) (K : own_G tb e below P (T.setTop { g with pc := g.pc + 2, stack := .int v :: g.stack })) : own_G tb e below P (T.setTop g) := own_step (fun _ z => XS.iload h hx hg hd hl z) K
theorem own_lx (h : At T m c below) (hx : tb.exec = Jvm.exec) (hg : g.method = m) {k : Nat} {v : Int64} (hd : decode c.code g.pc = .ok (.lload k, 2)) (hl : g.locals[k]? = some (.val (.long v))) (K : own_G tb e below P (T.setTop { g with pc := g.pc + 2, stack := .long v :: g.stack })) : own_G tb e below P (T.setTop g) := own_step (fun _ z => XS.lload h hx hg hd hl z) K
end Short
theorem own_selp {Z : State} {a0 : Array Value} {y z : MethodName} (hs : (Cond.selects z.cls z z).before a0 Z = true) (hzy : z.cls = y.cls) (hp : (Cond.privateMethod y).before a0 Z = true) (hi : (Cond.instanceMethod y).before a0 Z = true) (hy : y.cls ≠ "java/lang/invoke/MethodHandle" ∧ y.cls ≠ "java/lang/invoke/VarHandle") : (Cond.selects y.cls y y).before a0 Z = true := by
  obtain ⟨c2, r2, m2, -, -, q3, -, kP, hkP, hkPi⟩ := Cond.selects_spec hs
  have hc : Z.vm.findClass y.cls = some m2.cls := by rw [← hzy]; exact findClass_of_methodNamed q3
  exact Jvm.Stand.selects_self_of_private hc hkP hkPi (Cond.privateMethod_at hp) hi hy
theorem own_mapD (us : List Int64) (k : Nat) : (us.map Value.long).getD k (.long 0) = .long (us.getD k 0) := by
  simp only [List.getD_eq_getElem?_getD, List.getElem?_map]
  cases us[k]? <;> rfl
theorem own_rng (us : List Int64) (sp nn : Nat) (h : sp + nn ≤ us.length) : ((List.range nn).map fun i => (us.map Value.long).getD (sp + i) (.long 0)) = ((us.drop sp).take nn).map Value.long := by
  apply List.ext_getElem?
  intro i
  simp only [List.getElem?_map, own_mapD]
  by_cases q : i < nn
  · rw [List.getElem?_range q, List.getElem?_take_of_lt q, List.getElem?_drop, List.getElem?_eq_getElem (by omega)]
    show some (Value.long (us.getD (sp + i) 0)) = some (Value.long _)
    rw [List.getD_eq_getElem?_getD, List.getElem?_eq_getElem (by omega)]; rfl
  · rw [List.getElem?_eq_none (by simp; omega), List.getElem?_eq_none (by simp; omega)]; rfl
section CopyJ
variable {p : Program} {l : Launch} {e : Env} {R : Room} {s : State} {m : MethodId} {args : Array Value} {below : List Frame} {meth : Method} {c : Code} {T : State} {locs : List Loc} {cells slots : Nat} {Z : State} {h : Heap} {a b : Addr} {us vd : List Int64}
theorem own_arv (F : own_Arj Z h a us) : ∃ k : ClassId, Arv Z h a k .long us.length.toInt32 (us.map Value.long) (.long 0) := by
  obtain ⟨c, A, S, hl⟩ := F
  have z := own_szJ S
  have n : (us.length.toInt32).toNatClampNeg = us.length := Int32.toNatClampNeg_ofNat_of_lt hl
  refine ⟨c.cls, c, A, rfl, by rw [n]; exact z, fun q => ?_, fun k hk => ?_, fun k hk => ?_⟩
  · rw [Int32.lt_iff_toInt_lt, show (us.length.toInt32).toInt = (us.length : Int) from Int32.toInt_ofNat_small (by omega)] at q
    have : (0 : Int32).toInt = 0 := rfl
    omega
  · rw [own_mapD]; exact own_atJ S (by omega)
  · rw [own_mapD]; rfl
theorem own_of_arvJ {k : ClassId} {z : Int32} {L : List Int64} (F : Arv Z h a k .long z (L.map Value.long) (.long 0)) (hz : z.toNatClampNeg = L.length) (hl : L.length < 2 ^ 31) : own_Arj Z h a L := by
  obtain ⟨c, A, -, S, -, H, -⟩ := F
  refine ⟨c, A, ?_, hl⟩
  apply List.ext_getElem?
  intro i
  rw [Array.getElem?_toList]
  by_cases q : i < c.slots.size
  · rw [H i q, own_mapD, List.getElem?_map, List.getElem?_eq_getElem (by omega), List.getD_eq_getElem?_getD, List.getElem?_eq_getElem (by omega)]; rfl
  · rw [Array.getElem?_eq_none (by omega), List.getElem?_eq_none (by rw [List.length_map]; omega)]
theorem own_cpJ (X : Stand p l e R s m args below meth c T locs cells slots) (hx : p.tables.exec = Jvm.exec) (hZ : Z.Warmed39 s.vm) {a0 : Array Value} {own : String} {index : Nat} (hown : s.vm.findClass own = some m.cls)
    (w1 : (Cond.methodLink own index Jvm.Stand.acN).before a0 Z = true) (w2 : (Cond.native Jvm.Stand.acN).before a0 Z = true) (w3 : (Cond.static Jvm.Stand.acN).before a0 Z = true) (w4 : (Cond.initialized "java/lang/System").before a0 Z = true) (eT : T.heap = h)
    {sp dp nn : Int32} (A : own_Arj Z h a us) (B : own_Arj Z h b vd) (h1 : ¬ sp < 0) (h2 : ¬ dp < 0) (h3 : ¬ nn < 0) (h4 : sp.toNatClampNeg + nn.toNatClampNeg ≤ us.length) (h5 : dp.toNatClampNeg + nn.toNatClampNeg ≤ vd.length) {n0 : Nat} (N : Fr n0 locs) (ge : n0 ≤ b)
    {g : JFrame} (hg : g.method = m) (hsize : g.locals.size = c.maxLocals) {rest : List Value} (hs : g.stack = .int nn :: .int dp :: .ref b :: .int sp :: .ref a :: rest) (hd : decode c.code g.pc = .ok (.invokestatic index, 3))
    (hf : 1 ≤ R.frames) {W : Nat} (hW : 2 * g.monitorRoom + (rest.map fun v => v.category).sum ≤ W) (hlo : W + (nativeFrameWords "java/lang/System" "arraycopy" 5 + 11) ≤ R.locals) :
    ∃ T' h' L, Stand p l e R s m args below meth c T' L cells slots ∧ T'.heap = h' ∧ Fr n0 L ∧ Keep h h' [b] ∧ own_Arj Z h' b (vd.take dp.toNatClampNeg ++ (us.drop sp.toNatClampNeg).take nn.toNatClampNeg ++ vd.drop (dp.toNatClampNeg + nn.toNatClampNeg)) ∧
      ∀ target, Steps p.tables e below (T'.setTop { g with pc := g.pc + 3, stack := rest }) target → Steps p.tables e below (T.setTop g) target := by
  obtain ⟨ka, VA⟩ := own_arv A
  obtain ⟨kb, VB⟩ := own_arv B
  have la : us.length < 2 ^ 31 := by obtain ⟨_, _, _, q⟩ := A; exact q
  have lb : vd.length < 2 ^ 31 := by obtain ⟨_, _, _, q⟩ := B; exact q
  have na : (us.length.toInt32).toNatClampNeg = us.length := Int32.toNatClampNeg_ofNat_of_lt la
  have nb : (vd.length.toInt32).toNatClampNeg = vd.length := Int32.toNatClampNeg_ofNat_of_lt lb
  obtain ⟨T', h', L, X', e', N', K, V, st⟩ := cpA X hx hZ hown w1 w2 w3 w4 eT VA VB (Or.inl ⟨rfl, rfl⟩) h1 h2 h3 (by rw [na]; exact h4) (by rw [nb]; exact h5) rfl (by rw [List.length_map]; exact h5) N ge hg hsize hs hd hf hW hlo
  rw [own_rng us _ _ h4, ← List.map_take, ← List.map_drop, ← List.map_append, ← List.map_append] at V
  have hl : (vd.take dp.toNatClampNeg ++ (us.drop sp.toNatClampNeg).take nn.toNatClampNeg ++ vd.drop (dp.toNatClampNeg + nn.toNatClampNeg)).length = vd.length := by
    simp only [List.length_append, List.length_take, List.length_drop]; omega
  exact ⟨T', h', L, X', e', N', K, own_of_arvJ V (by rw [hl]; exact nb) (by rw [hl]; exact lb), st⟩
end CopyJ

end Jvm.RoadKit
namespace Jvm.Pilot.@@N@@
open Jvm Jvm.ClassFile Sem Op Lib Jvm.Free Jvm.Stand Jvm.LawKit Jvm.RoadKit Bundle Jvm.Pilot.@@N@@.Jvm.D

theorem own_w {a0 : Array Value} {Z : State} (hw : ∀ d ∈ tables_1, d.before a0 Z = true) (i : Nat) {d : Jvm.Cond} (h : tables_1[i]? = some d) : d.before a0 Z = true := hw d (List.mem_of_getElem? h)
abbrev own_C : String := "com/example/leafcode/leafcode/FourWayHeap"
def own_pk (w : Int64) (i : Int32) : Int64 := ((w <<< ((31 : Int32) &&& 0x3f).toInt64) ||| (i.toInt64))
def own_ush (k : Int64) : Int64 := ((k.toUInt64 >>> ((31 : Int32) &&& 0x3f).toInt64.toUInt64).toInt64)
def own_lt (a b : Int64) : Int32 := if a < b then (1 : Int32) else (0 : Int32)
def own_sg (x : Int64) : Int64 := (x >>> ((63 : Int32) &&& 0x3f).toInt64)
def own_lcs (s1 s2 s3 : Int64) : Int32 := (((4 : Int32) + ((s1 &&& (1 : Int64)).toInt32)) + ((((2 : Int32) + ((s2 &&& (1 : Int64)).toInt32)) - ((s1 &&& (1 : Int64)).toInt32)) &&& (s3.toInt32)))
def own_m2 (a b : Int64) : Int64 := (a + ((b - a) &&& own_sg (b - a)))
def own_lc (a b c d : Int64) : Int32 := own_lcs (own_sg (b - a)) (own_sg (d - c)) (own_sg (own_m2 c d - own_m2 a b))
def own_sel (c : Int32) (k4 k5 k6 k7 : Int64) : Int64 := if c = 4 then k4 else if c = 5 then k5 else if c = 6 then k6 else k7
theorem own_sel4 (a b c d : Int64) : own_sel 4 a b c d = a := rfl
theorem own_sel5 (a b c d : Int64) : own_sel 5 a b c d = b := rfl
theorem own_sel6 (a b c d : Int64) : own_sel 6 a b c d = c := rfl
theorem own_sel7 (a b c d : Int64) : own_sel 7 a b c d = d := rfl
theorem own_sg_int (x : Int64) : (own_sg x).toInt = if x.toInt < 0 then -1 else 0 := by
  have h : (own_sg x).toInt = x.toInt / 2 ^ 63 := Jvm.Kit.i64_shr x _ (k := 63) (by decide)
  have h1 := x.le_toInt
  have h2 := x.toInt_lt
  rw [h]
  split <;> omega
theorem own_sg_or (x : Int64) : own_sg x = 0 ∨ own_sg x = -1 := by
  have h := own_sg_int x
  by_cases q : x.toInt < 0
  · rw [if_pos q] at h; exact Or.inr (Int64.toInt_inj.mp (h.trans (by decide)))
  · rw [if_neg q] at h; exact Or.inl (Int64.toInt_inj.mp (h.trans (by decide)))
theorem own_sg_of (a b : Int64) (ha : 0 ≤ a.toInt) (hb : 0 ≤ b.toInt) : own_sg (b - a) = if b.toInt < a.toInt then -1 else 0 := by
  have h1 := a.toInt_lt
  have h2 := b.toInt_lt
  have e := Jvm.Kit.i64_sub (x := b) (y := a) (by omega) (by omega)
  have h := own_sg_int (b - a)
  rw [e] at h
  by_cases q : b.toInt < a.toInt
  · rw [if_pos (by omega)] at h; rw [if_pos q]; exact Int64.toInt_inj.mp (h.trans (by decide))
  · rw [if_neg (by omega)] at h; rw [if_neg q]; exact Int64.toInt_inj.mp (h.trans (by decide))
theorem own_andm (x : Int64) : x &&& (-1) = x := by
  apply Int64.toBitVec_inj.mp
  rw [Int64.toBitVec_and]
  exact BitVec.and_allOnes
theorem own_and0 (x : Int64) : x &&& 0 = 0 := by
  apply Int64.toBitVec_inj.mp
  rw [Int64.toBitVec_and]
  exact BitVec.and_zero
theorem own_m2_int (a b : Int64) (ha : 0 ≤ a.toInt) (hb : 0 ≤ b.toInt) : (own_m2 a b).toInt = min a.toInt b.toInt := by
  unfold own_m2
  rw [own_sg_of a b ha hb]
  by_cases q : b.toInt < a.toInt
  · rw [if_pos q, own_andm, Int64.add_comm, Int64.sub_add_cancel]; omega
  · rw [if_neg q, own_and0, Int64.add_zero]; omega
theorem own_lcs4 : ∀ s1 s2 s3 : Int64, (s1 = 0 ∨ s1 = -1) → (s2 = 0 ∨ s2 = -1) → (s3 = 0 ∨ s3 = -1) → own_lcs s1 s2 s3 = 4 ∨ own_lcs s1 s2 s3 = 5 ∨ own_lcs s1 s2 s3 = 6 ∨ own_lcs s1 s2 s3 = 7 := by
  intro s1 s2 s3 h1 h2 h3
  rcases h1 with rfl | rfl <;> rcases h2 with rfl | rfl <;> rcases h3 with rfl | rfl <;> decide
theorem own_lc4 {a b c d : Int64} {x : Int32} (h : x = own_lc a b c d) : x = 4 ∨ x = 5 ∨ x = 6 ∨ x = 7 := by
  rw [h]; exact own_lcs4 _ _ _ (own_sg_or _) (own_sg_or _) (own_sg_or _)
theorem own_lc_min (a b c d : Int64) (ha : 0 ≤ a.toInt) (hb : 0 ≤ b.toInt) (hc : 0 ≤ c.toInt) (hd : 0 ≤ d.toInt) : (own_sel (own_lc a b c d) a b c d).toInt = min (min a.toInt b.toInt) (min c.toInt d.toInt) := by
  have m1 := own_m2_int a b ha hb
  have m2 := own_m2_int c d hc hd
  have s1 := own_sg_of a b ha hb
  have s2 := own_sg_of c d hc hd
  have s3 := own_sg_of (own_m2 a b) (own_m2 c d) (by omega) (by omega)
  unfold own_lc
  rw [s1, s2, s3]
  by_cases q1 : b.toInt < a.toInt <;> by_cases q2 : d.toInt < c.toInt <;> by_cases q3 : (own_m2 c d).toInt < (own_m2 a b).toInt
  · rw [if_pos q1, if_pos q2, if_pos q3, show own_lcs (-1) (-1) (-1) = 7 from by decide, own_sel7]; omega
  · rw [if_pos q1, if_pos q2, if_neg q3, show own_lcs (-1) (-1) 0 = 5 from by decide, own_sel5]; omega
  · rw [if_pos q1, if_neg q2, if_pos q3, show own_lcs (-1) 0 (-1) = 6 from by decide, own_sel6]; omega
  · rw [if_pos q1, if_neg q2, if_neg q3, show own_lcs (-1) 0 0 = 5 from by decide, own_sel5]; omega
  · rw [if_neg q1, if_pos q2, if_pos q3, show own_lcs 0 (-1) (-1) = 7 from by decide, own_sel7]; omega
  · rw [if_neg q1, if_pos q2, if_neg q3, show own_lcs 0 (-1) 0 = 4 from by decide, own_sel4]; omega
  · rw [if_neg q1, if_neg q2, if_pos q3, show own_lcs 0 0 (-1) = 6 from by decide, own_sel6]; omega
  · rw [if_neg q1, if_neg q2, if_neg q3, show own_lcs 0 0 0 = 4 from by decide, own_sel4]; omega
theorem own_pk_int (w : Int64) (i : Int32) (hw : 0 ≤ w.toInt) (hb : w.toInt ≤ 4294967294) (hi : 0 ≤ i.toInt) (hj : i.toInt < 2 ^ 31) : (own_pk w i).toInt = w.toInt * 2147483648 + i.toInt := by
  have e1 : (w <<< ((31 : Int32) &&& 0x3f).toInt64).toInt = w.toInt * 2 ^ 31 := Jvm.Kit.i64_shl w _ (k := 31) (by decide) (by omega) (by omega)
  have e2 : i.toInt64.toInt = i.toInt := Int32.toInt_toInt64 i
  unfold own_pk
  generalize w <<< ((31 : Int32) &&& 0x3f).toInt64 = x at e1 ⊢
  generalize i.toInt64 = y at e2 ⊢
  have t : ∀ z : Int64, 0 ≤ z.toInt → (z.toBitVec.toNat : Int) = z.toInt := fun z hz => by
    have h1 : z.toInt = z.toBitVec.toInt := rfl
    rw [h1] at hz ⊢
    rw [BitVec.toInt_eq_toNat_cond] at hz ⊢
    split at hz <;> rename_i q
    · rw [if_pos q]
    · have := z.toBitVec.isLt; omega
  have tx := t x (by omega)
  have ty := t y (by omega)
  have o : (x ||| y).toBitVec.toNat = x.toBitVec.toNat ||| y.toBitVec.toNat := by rw [Int64.toBitVec_or, BitVec.toNat_or]
  have f : x.toBitVec.toNat = 2 ^ 31 * w.toInt.toNat := by omega
  have g := Nat.two_pow_add_eq_or_of_lt (i := 31) (b := y.toBitVec.toNat) (by omega) w.toInt.toNat
  rw [f, ← g] at o
  have r : (x ||| y).toInt = (x ||| y).toBitVec.toInt := rfl
  rw [r, BitVec.toInt_eq_toNat_of_lt (by omega), o]
  omega
def own_R (K : Int64) (x : Int) : Prop := 0 ≤ K.toInt ∧ K.toInt / 2147483648 = x
theorem own_R_pk {w : Int64} {i : Int32} (hw : 0 ≤ w.toInt) (hb : w.toInt ≤ 4294967294) (hi : 0 ≤ i.toInt) (hj : i.toInt < 2 ^ 31) : own_R (own_pk w i) w.toInt := by
  have h := own_pk_int w i hw hb hi hj
  exact ⟨by omega, by omega⟩
theorem own_R_max : own_R 9223372036854775807 4294967295 := ⟨by decide, by decide⟩
theorem own_U {K : Int64} {x : Int} (h : own_R K x) : (own_ush K).toInt = x := by
  have e : (own_ush K).toInt = K.toInt / 2 ^ 31 := Jvm.Kit.i64_lushr (x := K) (Jvm.Kit.i64_nonneg.mpr h.1) (k := 31) (by decide) (by decide)
  rw [e]; exact h.2
theorem own_mdiv (x y : Int) : (min x y) / 2147483648 = min (x / 2147483648) (y / 2147483648) := by omega
theorem own_P {K0 K4 K5 K6 K7 m : Int64} {x0 x1 x2 x3 x4 : Int} (r0 : own_R K0 x0) (r1 : own_R K4 x1) (r2 : own_R K5 x2) (r3 : own_R K6 x3) (r4 : own_R K7 x4) (h : m.toInt = min K0.toInt (own_sel (own_lc K4 K5 K6 K7) K4 K5 K6 K7).toInt) : (own_ush m).toInt = min x0 (min (min x1 x2) (min x3 x4)) := by
  rw [own_lc_min _ _ _ _ r1.1 r2.1 r3.1 r4.1] at h
  refine own_U ⟨?_, ?_⟩
  · have := r0.1; have := r1.1; have := r2.1; have := r3.1; have := r4.1; omega
  · rw [h, own_mdiv, own_mdiv, own_mdiv, own_mdiv, r0.2, r1.2, r2.2, r3.2, r4.2]
theorem own_nn {u m v : Int64} {c : Prop} [Decidable c] (h : v = u &&& m) (hm : m = if c then 4294967295 else 9223372036854775807) : 0 ≤ v.toInt := by
  subst h
  split at hm <;> subst hm
  · have := Jvm.Kit.i64_mask u 4294967295 (k := 32) (by decide) (by decide); omega
  · have := Jvm.Kit.i64_mask u 9223372036854775807 (k := 63) (by decide) (by decide); omega
theorem own_siz {f z : Int32} (h : z = (((f &&& (7 : Int32)) - ((f &&& (7 : Int32)) / (5 : Int32)) * (5 : Int32)) + (1 : Int32))) : z = 1 ∨ z = 2 ∨ z = 3 ∨ z = 4 ∨ z = 5 := by
  have e : (f &&& 7).toInt = f.toInt % 2 ^ 3 := Jvm.Kit.i32_mask f 7 (k := 3) (by decide) (by decide)
  generalize f &&& 7 = y at e h
  have hy : y = 0 ∨ y = 1 ∨ y = 2 ∨ y = 3 ∨ y = 4 ∨ y = 5 ∨ y = 6 ∨ y = 7 := by
    have k : y.toInt = 0 ∨ y.toInt = 1 ∨ y.toInt = 2 ∨ y.toInt = 3 ∨ y.toInt = 4 ∨ y.toInt = 5 ∨ y.toInt = 6 ∨ y.toInt = 7 := by omega
    rcases k with k | k | k | k | k | k | k | k <;> simp only [← Int32.toInt_inj, k] <;> decide
  subst h
  rcases hy with rfl | rfl | rfl | rfl | rfl | rfl | rfl | rfl <;> decide
theorem own_nen {a en : Int32} (h : ¬ (8 : Int32) < en) (ha : (8 : Int32) ≤ a) : ¬ a < en := fun q => h (Int32.lt_of_le_of_lt ha q)
theorem own_ltT {a b : Int64} (h : ¬ own_lt a b = (0 : Int32)) : a.toInt ≤ b.toInt := by
  unfold own_lt at h
  split at h <;> rename_i q
  · rw [Int64.lt_iff_toInt_lt] at q; omega
  · exact absurd rfl h
theorem own_ltF {a b : Int64} (h : own_lt a b = (0 : Int32)) : b.toInt ≤ a.toInt := by
  unfold own_lt at h
  split at h <;> rename_i q
  · cases h
  · rw [Int64.lt_iff_toInt_lt] at q; omega
section Lists
variable {α : Type} {vs : List α} {i j : Nat} {x d : α}
theorem own_gs (h : i < vs.length) : (vs.set i x).getD i d = x := by simp [List.getD_eq_getElem?_getD, h]
theorem own_gn (h : i ≠ j) : (vs.set i x).getD j d = vs.getD j d := by simp [List.getD_eq_getElem?_getD, List.getElem?_set_ne h]
end Lists
theorem own_pT {vs : List Int64} {c : Nat} {m : Int64} (hlen : 8 ≤ vs.length) (h4 : 4 ≤ c) (hm : m = vs.getD c 0) (h : ((vs.set 3 (vs.getD c 0)).getD 0 0).toInt ≤ ((vs.set 3 (vs.getD c 0)).getD 3 0).toInt) :
    ((((vs.set 3 (vs.getD c 0)).set c ((vs.set 3 (vs.getD c 0)).getD 3 0)).set 3 (((vs.set 3 (vs.getD c 0)).set c ((vs.set 3 (vs.getD c 0)).getD 3 0)).getD 0 0)).length = vs.length) ∧
    ((((vs.set 3 (vs.getD c 0)).set c ((vs.set 3 (vs.getD c 0)).getD 3 0)).set 3 (((vs.set 3 (vs.getD c 0)).set c ((vs.set 3 (vs.getD c 0)).getD 3 0)).getD 0 0)).getD 3 0).toInt = min (vs.getD 0 0).toInt m.toInt := by
  refine ⟨by simp only [List.length_set], ?_⟩
  rw [own_gs (by simp only [List.length_set]; omega), own_gn (by omega), own_gn (by omega)]
  rw [own_gn (by omega), own_gs (by omega), ← hm] at h
  omega
theorem own_pF {vs : List Int64} {c : Nat} {m : Int64} (hlen : 8 ≤ vs.length) (h4 : 4 ≤ c) (hm : m = vs.getD c 0) (h : ((vs.set 3 (vs.getD c 0)).getD 3 0).toInt ≤ ((vs.set 3 (vs.getD c 0)).getD 0 0).toInt) :
    (((vs.set 3 (vs.getD c 0)).set c ((vs.set 3 (vs.getD c 0)).getD 0 0)).length = vs.length) ∧
    (((vs.set 3 (vs.getD c 0)).set c ((vs.set 3 (vs.getD c 0)).getD 0 0)).getD 3 0).toInt = min (vs.getD 0 0).toInt m.toInt := by
  refine ⟨by simp only [List.length_set], ?_⟩
  rw [own_gn (by omega), own_gs (by omega)]
  rw [own_gs (by omega), own_gn (by omega)] at h
  rw [hm]
  omega
def own_par (p : Int32) : Int32 := ((p / (4 : Int32)) + (2 : Int32))
def own_fc (p : Int32) : Int32 := (((4 : Int32) * p) - (8 : Int32))
def own_ch (c : Int32) : Prop := c = 4 ∨ c = 5 ∨ c = 6 ∨ c = 7
theorem own_par3 {c : Int32} (h : own_ch c) : own_par c = (3 : Int32) := by rcases h with rfl | rfl | rfl | rfl <;> decide
theorem own_fcn {c en : Int32} (h : own_ch c) (h8 : ¬ (8 : Int32) < en) : ¬ own_fc c < en := by rcases h with rfl | rfl | rfl | rfl <;> exact own_nen h8 (by decide)
theorem own_ch3 {c : Int32} (h : own_ch c) : (3 : Int32) < c := by rcases h with rfl | rfl | rfl | rfl <;> decide
theorem own_ch4 {c : Int32} (h : own_ch c) : 4 ≤ c.toNatClampNeg := by rcases h with rfl | rfl | rfl | rfl <;> decide
theorem own_ch0 {c : Int32} (h : own_ch c) : ¬ c < 0 := by rcases h with rfl | rfl | rfl | rfl <;> decide
theorem own_ch8 {c : Int32} (h : own_ch c) : c.toNatClampNeg < 8 := by rcases h with rfl | rfl | rfl | rfl <;> decide
theorem own_selD {c : Int32} {vs : List Int64} (h : own_ch c) : own_sel c (vs.getD 4 0) (vs.getD 5 0) (vs.getD 6 0) (vs.getD 7 0) = vs.getD c.toNatClampNeg 0 := by rcases h with rfl | rfl | rfl | rfl <;> rfl

theorem own_ib {n : Nat} {j : Int32} (hlen : 8 ≤ n) (h1 : ¬ j < 0) (h2 : j.toNatClampNeg < 8) : own_Inb j n := own_inb h1 (Nat.lt_of_lt_of_le h2 hlen)
theorem own_ich {n : Nat} {j : Int32} (hlen : 8 ≤ n) (h : own_ch j) : own_Inb j n := own_ib hlen (own_ch0 h) (own_ch8 h)
theorem own_ibs {α : Type} {vs : List α} {i : Nat} {x : α} {j : Int32} (h : own_Inb j vs.length) : own_Inb j (vs.set i x).length := by rw [List.length_set]; exact h
theorem own_b3 {α : Type} {vs : List α} {n : Nat} (h : vs.length = n) (hn : 4 ≤ n) : own_Inb (3 : Int32) vs.length := own_inb (by decide) (by rw [h]; exact Nat.lt_of_lt_of_le (by decide) hn)
abbrev own_y0 : MethodName := ⟨"com/example/leafcode/leafcode/FourWayHeapMinWeightPinLaw", "law", "(JJJJJI)Z"⟩
abbrev own_y1 : MethodName := ⟨"com/example/leafcode/leafcode/FourWayHeapMinWeightPinLaw", "build", "(IJJJJJ)[J"⟩
abbrev own_y2 : MethodName := ⟨"java/lang/Math", "min", "(JJ)J"⟩
abbrev own_y3 : MethodName := ⟨"com/example/leafcode/leafcode/FourWayHeap", "<init>", "([J)V"⟩
abbrev own_y4 : MethodName := ⟨"java/lang/Object", "<init>", "()V"⟩
abbrev own_y5 : MethodName := ⟨"com/example/leafcode/leafcode/FourWayHeap", "packable", "([J)Z"⟩
abbrev own_y6 : MethodName := ⟨"com/example/leafcode/leafcode/FourWayHeap", "pack", "(JI)J"⟩
abbrev own_y7 : MethodName := ⟨"java/util/Arrays", "fill", "([JIIJ)V"⟩
abbrev own_y8 : MethodName := ⟨"java/util/Arrays", "rangeCheck", "(III)V"⟩
abbrev own_y9 : MethodName := ⟨"com/example/leafcode/leafcode/FourWayHeap", "parent", "(I)I"⟩
abbrev own_y10 : MethodName := ⟨"com/example/leafcode/leafcode/FourWayHeap", "move", "(II)V"⟩
abbrev own_y11 : MethodName := ⟨"com/example/leafcode/leafcode/FourWayHeap", "fill", "(I)V"⟩
abbrev own_y12 : MethodName := ⟨"com/example/leafcode/leafcode/FourWayHeap", "firstChild", "(I)I"⟩
abbrev own_y13 : MethodName := ⟨"com/example/leafcode/leafcode/FourWayHeap", "leastChild", "(I)I"⟩
abbrev own_y14 : MethodName := ⟨"com/example/leafcode/leafcode/FourWayHeap", "precedes", "(II)Z"⟩
abbrev own_y15 : MethodName := ⟨"com/example/leafcode/leafcode/FourWayHeap", "minWeight", "()J"⟩
abbrev own_y16 : MethodName := ⟨"java/lang/Math", "min", "(II)I"⟩
abbrev own_y17 : MethodName := ⟨"com/example/leafcode/leafcode/NodeQueue", "precedes", "(JIJI)Z"⟩
theorem own_wl {x W : Nat} (h : x = W) : 2 * 0 + x ≤ W := by omega
theorem own_sp10 {a0 : Array Value} {Z : State} (hw : ∀ d ∈ tables_1, d.before a0 Z = true) : (Cond.selects "com/example/leafcode/leafcode/FourWayHeap" (⟨"com/example/leafcode/leafcode/FourWayHeap", "move", "(II)V"⟩ : MethodName) (⟨"com/example/leafcode/leafcode/FourWayHeap", "move", "(II)V"⟩ : MethodName)).before a0 Z = true := (own_selp (z := (⟨"com/example/leafcode/leafcode/FourWayHeap", "minWeight", "()J"⟩ : MethodName)) (y := (⟨"com/example/leafcode/leafcode/FourWayHeap", "move", "(II)V"⟩ : MethodName)) (own_w hw 65 rfl) rfl (own_w hw 43 rfl) (own_w hw 42 rfl) (by decide))
theorem own_sp11 {a0 : Array Value} {Z : State} (hw : ∀ d ∈ tables_1, d.before a0 Z = true) : (Cond.selects "com/example/leafcode/leafcode/FourWayHeap" (⟨"com/example/leafcode/leafcode/FourWayHeap", "fill", "(I)V"⟩ : MethodName) (⟨"com/example/leafcode/leafcode/FourWayHeap", "fill", "(I)V"⟩ : MethodName)).before a0 Z = true := (own_selp (z := (⟨"com/example/leafcode/leafcode/FourWayHeap", "minWeight", "()J"⟩ : MethodName)) (y := (⟨"com/example/leafcode/leafcode/FourWayHeap", "fill", "(I)V"⟩ : MethodName)) (own_w hw 65 rfl) rfl (own_w hw 49 rfl) (own_w hw 48 rfl) (by decide))
theorem own_sp13 {a0 : Array Value} {Z : State} (hw : ∀ d ∈ tables_1, d.before a0 Z = true) : (Cond.selects "com/example/leafcode/leafcode/FourWayHeap" (⟨"com/example/leafcode/leafcode/FourWayHeap", "leastChild", "(I)I"⟩ : MethodName) (⟨"com/example/leafcode/leafcode/FourWayHeap", "leastChild", "(I)I"⟩ : MethodName)).before a0 Z = true := (own_selp (z := (⟨"com/example/leafcode/leafcode/FourWayHeap", "minWeight", "()J"⟩ : MethodName)) (y := (⟨"com/example/leafcode/leafcode/FourWayHeap", "leastChild", "(I)I"⟩ : MethodName)) (own_w hw 65 rfl) rfl (own_w hw 56 rfl) (own_w hw 55 rfl) (by decide))
theorem own_sp14 {a0 : Array Value} {Z : State} (hw : ∀ d ∈ tables_1, d.before a0 Z = true) : (Cond.selects "com/example/leafcode/leafcode/FourWayHeap" (⟨"com/example/leafcode/leafcode/FourWayHeap", "precedes", "(II)Z"⟩ : MethodName) (⟨"com/example/leafcode/leafcode/FourWayHeap", "precedes", "(II)Z"⟩ : MethodName)).before a0 Z = true := (own_selp (z := (⟨"com/example/leafcode/leafcode/FourWayHeap", "minWeight", "()J"⟩ : MethodName)) (y := (⟨"com/example/leafcode/leafcode/FourWayHeap", "precedes", "(II)Z"⟩ : MethodName)) (own_w hw 65 rfl) rfl (own_w hw 60 rfl) (own_w hw 59 rfl) (by decide))

theorem d1_0 : decode method_3_code 0 = .ok (.iload_n 0, 1) := by decide +kernel
theorem d1_1 : decode method_3_code 1 = .ok (.iconst 1, 1) := by decide +kernel
theorem d1_2 : decode method_3_code 2 = .ok (.if_icmp .ne 11, 3) := by decide +kernel
theorem d1_5 : decode method_3_code 5 = .ok (.iconst 1, 1) := by decide +kernel
theorem d1_6 : decode method_3_code 6 = .ok (.newarray .long, 2) := by decide +kernel
theorem d1_8 : decode method_3_code 8 = .ok (.dup, 1) := by decide +kernel
theorem d1_9 : decode method_3_code 9 = .ok (.iconst 0, 1) := by decide +kernel
theorem d1_10 : decode method_3_code 10 = .ok (.lload_n 1, 1) := by decide +kernel
theorem d1_11 : decode method_3_code 11 = .ok (.lastore, 1) := by decide +kernel
theorem d1_12 : decode method_3_code 12 = .ok (.areturn, 1) := by decide +kernel
theorem pn_1_n1 : plainName "com/example/leafcode/leafcode/FourWayHeapMinWeightPinLaw" = true := by first | (simp [plainName, overriddenIn]; done) | decide +kernel
theorem ef_1_n1 (m : MethodId) (wt0 : Int64) (wt1 : Int64) (wt2 : Int64) (wt3 : Int64) (wt4 : Int64) : entryFrame m #[(.int (1 : Int32)), (.long wt0), (.long wt1), (.long wt2), (.long wt3), (.long wt4)] 11 = mkF m 0 #[iv (1 : Int32), .val (.long wt0), .second, .val (.long wt1), .second, .val (.long wt2), .second, .val (.long wt3), .second, .val (.long wt4), .second] [] := by first | (simp [entryFrame, mkF, argsToLocals, Value.category]; done) | rfl
def Q1_n1 (Z : State) (wt0 : Int64) (wt1 : Int64) (wt2 : Int64) (wt3 : Int64) (wt4 : Int64) (h0 : Heap) (n0 : Nat) (v : Option Value) (h : Heap) (L : List Loc) : Prop := ∃ (rb : Addr), v = some (.ref rb) ∧ Fr n0 L ∧ Keep h0 h [] ∧ own_Arj Z h rb [wt0] ∧ h0.size ≤ rb
set_option maxRecDepth 65536 in
set_option maxHeartbeats 40000000 in
theorem rm1_n1 (l : Launch) (Z : State) (a0 : Array Value) (hw : ∀ d ∈ tables_1, d.before a0 Z = true) (ws : List Jvm.Cond) (wt0 : Int64) (wt1 : Int64) (wt2 : Int64) (wt3 : Int64) (wt4 : Int64) (h0 : Heap) (n0 : Nat) (Z0 : n0 ≤ h0.size) :
    MetFree l (⟨"com/example/leafcode/leafcode/FourWayHeapMinWeightPinLaw", "build", "(IJJJJJ)[J"⟩ : MethodName) (head1 (Jvm.Cond.code (⟨"com/example/leafcode/leafcode/FourWayHeapMinWeightPinLaw", "build", "(IJJJJJ)[J"⟩ : MethodName) method_3_code 11 (some (.array .long)) :: ws) ({ frames := 0, cells := 1, slots := 1, locals := 0 } : Room)) (fun a U => a = #[(.int (1 : Int32)), (.long wt0), (.long wt1), (.long wt2), (.long wt3), (.long wt4)] ∧ Z.Warmed39 U.vm ∧ U.heap = h0) (fun _ _ _ _ _ => True) (fun _ U o U' => ∃ v L, o = .returned v ∧ Q1_n1 Z wt0 wt1 wt2 wt3 wt4 h0 n0 v U'.heap L ∧ FrameEnd U o U' L ({ frames := 0, cells := 1, slots := 1, locals := 0 } : Room).cells ({ frames := 0, cells := 1, slots := 1, locals := 0 } : Room).slots) := by
  refine MetFree.of_bodySF (plainFor_of_name pn_1_n1) hisR ?_
  intro p e s m args below meth c s₁ Bd hml0 hP hK
  obtain ⟨rfl, hZ, hh⟩ := hP
  have hx := Bd.exec
  have hby := Bd.bytes
  have hml : c.maxLocals = 11 := hml0
  have hown : s.vm.findClass "com/example/leafcode/leafcode/FourWayHeapMinWeightPinLaw" = some m.cls := findClass_of_methodNamed Bd.named
  have hnm := (name_of_methodNamed Bd.named Bd.method).1
  have X0 : Stand p l e ({ frames := 0, cells := 1, slots := 1, locals := 0 } : Room) s m #[(.int (1 : Int32)), (.long wt0), (.long wt1), (.long wt2), (.long wt3), (.long wt4)] below meth c s₁ [] 0 0 := Stand.of_body Bd
  have e0 : s₁.heap = h0 := by rw [← hh, Bd.state]; rfl
  have N0 := Fr.nil n0
  refine own_start (fun t k => castTop (ef_1_n1 m wt0 wt1 wt2 wt3 wt4) k) ?_
  show own_G p.tables e below _ (s₁.setTop (mkF m 0 #[iv 1, .val (.long wt0), .second, .val (.long wt1), .second, .val (.long wt2), .second, .val (.long wt3), .second, .val (.long wt4), .second] []))
  refine own_il X0.here hx rfl (hb hby d1_0) rfl ?_
  refine own_ic X0.here hx rfl (hb hby d1_1) ?_
  have hk1 : (1 : Int32) = (1 : Int32) := rfl
  refine own_step (fun t k => XS.icmpNo X0.here hx rfl (hb hby d1_2) rfl ((teq hk1).2) k) ?_
  show own_G p.tables e below _ (s₁.setTop (mkF m 5 #[iv 1, .val (.long wt0), .second, .val (.long wt1), .second, .val (.long wt2), .second, .val (.long wt3), .second, .val (.long wt4), .second] []))
  refine own_ic X0.here hx rfl (hb hby d1_5) ?_
  obtain ⟨T2, h2, k2, X2, e2, E2, A2, st2⟩ := newP X0 hx hZ (own_w hw 5 rfl) e0 (g := (mkF m 6 #[iv 1, .val (.long wt0), .second, .val (.long wt1), .second, .val (.long wt2), .second, .val (.long wt3), .second, .val (.long wt4), .second] [(.int 1)])) rfl (hb hby d1_6) rfl (by decide) (cap := 1) (by decide) (by decide) (by decide) (by decide)
  obtain ⟨b2, g2⟩ : ∃ z, z = h0.size := ⟨_, rfl⟩
  have sz2 : h0.size ≤ b2 := Nat.le_trans (Keep.refl h0 []).1 (Nat.le_of_eq g2.symm)
  have ge2 : n0 ≤ b2 := Nat.le_trans Z0 sz2
  have K2 : Keep h0 h2 [] := (Keep.refl h0 []).ext E2
  rw [← g2] at A2 st2
  have c3 : own_Arj Z h2 b2 [0] := own_Arj_new A2 (by decide)
  refine own_step st2 ?_
  refine own_step (fun t k => XS.dup X2.here hx rfl (hb hby d1_8) rfl rfl k) ?_
  refine own_ic X2.here hx rfl (hb hby d1_9) ?_
  refine own_step (fun t k => XS.lloadN X2.here hx rfl (hb hby d1_10) rfl k) ?_
  obtain ⟨T4, h4, X4, e4, W4, c4, st4⟩ := own_lastore X2 hx hZ e2 c3 (own_inb (by decide) (Nat.le_of_ble_eq_true rfl)) (g := (mkF m 11 #[iv 1, .val (.long wt0), .second, .val (.long wt1), .second, .val (.long wt2), .second, .val (.long wt3), .second, .val (.long wt4), .second] [(.long wt0), (.int 0), (.ref b2), (.ref b2)])) rfl rfl (hb hby d1_11)
  have N4 := Fr.snoc X4 N0 ge2
  have c5 : own_Arj Z h4 b2 [wt0] := c4
  have K4 : Keep h0 h4 [] := K2.wr W4 (Or.inr sz2)
  refine own_step st4 ?_
  obtain ⟨fs, hr, hrun, hended, hW, hsame⟩ := X4.leave (v := some (.ref b2)) (fun h => by rw [Bd.returns] at h; cases h)
  refine own_done (own_retA X4 hx Bd.returns (by decide) rfl (hb hby d1_12) hr) hrun hended ⟨_, _, rfl, ?_, ⟨_, rfl⟩, hW, hsame.mono (by decide) (by decide)⟩
  show Q1_n1 Z wt0 wt1 wt2 wt3 wt4 h0 n0 _ T4.heap _
  rw [e4]
  exact ⟨b2, rfl, N4, K4, c5, sz2⟩
theorem d5_0 : decode prog_20_method_2_code 0 = .ok (.aload_n 0, 1) := by decide +kernel
theorem d5_1 : decode prog_20_method_2_code 1 = .ok (.astore_n 1, 1) := by decide +kernel
theorem d5_2 : decode prog_20_method_2_code 2 = .ok (.aload_n 1, 1) := by decide +kernel
theorem d5_3 : decode prog_20_method_2_code 3 = .ok (.arraylength, 1) := by decide +kernel
theorem d5_4 : decode prog_20_method_2_code 4 = .ok (.istore_n 2, 1) := by decide +kernel
theorem d5_5 : decode prog_20_method_2_code 5 = .ok (.iconst 0, 1) := by decide +kernel
theorem d5_6 : decode prog_20_method_2_code 6 = .ok (.istore_n 3, 1) := by decide +kernel
theorem d5_7 : decode prog_20_method_2_code 7 = .ok (.iload_n 3, 1) := by decide +kernel
theorem d5_8 : decode prog_20_method_2_code 8 = .ok (.iload_n 2, 1) := by decide +kernel
theorem d5_9 : decode prog_20_method_2_code 9 = .ok (.if_icmp .ge 25, 3) := by decide +kernel
theorem d5_12 : decode prog_20_method_2_code 12 = .ok (.aload_n 1, 1) := by decide +kernel
theorem d5_13 : decode prog_20_method_2_code 13 = .ok (.iload_n 3, 1) := by decide +kernel
theorem d5_14 : decode prog_20_method_2_code 14 = .ok (.laload, 1) := by decide +kernel
theorem d5_15 : decode prog_20_method_2_code 15 = .ok (.lstore 4, 2) := by decide +kernel
theorem d5_17 : decode prog_20_method_2_code 17 = .ok (.lload 4, 2) := by decide +kernel
theorem d5_19 : decode prog_20_method_2_code 19 = .ok (.ldc2_w 56, 3) := by decide +kernel
theorem d5_22 : decode prog_20_method_2_code 22 = .ok (.lcmp, 1) := by decide +kernel
theorem d5_23 : decode prog_20_method_2_code 23 = .ok (.ifCond .le 5, 3) := by decide +kernel
theorem d5_26 : decode prog_20_method_2_code 26 = .ok (.iconst 0, 1) := by decide +kernel
theorem d5_27 : decode prog_20_method_2_code 27 = .ok (.ireturn, 1) := by decide +kernel
theorem d5_28 : decode prog_20_method_2_code 28 = .ok (.iinc 3 1, 3) := by decide +kernel
theorem d5_31 : decode prog_20_method_2_code 31 = .ok (.goto (-24), 3) := by decide +kernel
theorem d5_34 : decode prog_20_method_2_code 34 = .ok (.iconst 1, 1) := by decide +kernel
theorem d5_35 : decode prog_20_method_2_code 35 = .ok (.ireturn, 1) := by decide +kernel
theorem pn_5_n1 : plainName "com/example/leafcode/leafcode/FourWayHeap" = true := by first | (simp [plainName, overriddenIn]; done) | decide +kernel
theorem ef_5_n1 (m : MethodId) (wa : Addr) : entryFrame m #[(.ref wa)] 6 = mkF m 0 #[rv wa, .unset, .unset, .unset, .unset, .unset] [] := by first | (simp [entryFrame, mkF, argsToLocals, Value.category]; done) | rfl
def own_f5_n1 (wt0 : Int64) : Int32 :=
  (if (4294967294 : Int64) < wt0 then (0 : Int32) else (1 : Int32))
theorem own_f5z_n1 (wt0 : Int64) : own_f5_n1 wt0 = 1 ∨ own_f5_n1 wt0 = 0 := by
  unfold own_f5_n1
  repeat' split
  all_goals first | exact Or.inl rfl | exact Or.inr rfl
theorem own_f5b_n1 {wt0 : Int64} (h : own_f5_n1 wt0 = 1) : wt0.toInt ≤ 4294967294 := by
  unfold own_f5_n1 at h
  repeat' split at h
  all_goals first | (cases h; done) | (simp only [Int64.lt_iff_toInt_lt, show (4294967294 : Int64).toInt = 4294967294 from by decide] at *; omega)
def Q5_n1 (Z : State) (wa : Addr) (wt0 : Int64) (h0 : Heap) (n0 : Nat) (v : Option Value) (h : Heap) (L : List Loc) : Prop := v = some (.int (own_f5_n1 wt0)) ∧ Fr n0 L ∧ h = h0
set_option maxRecDepth 65536 in
set_option maxHeartbeats 40000000 in
theorem rm5_n1 (l : Launch) (Z : State) (a0 : Array Value) (hw : ∀ d ∈ tables_1, d.before a0 Z = true) (ws : List Jvm.Cond) (wa : Addr) (wt0 : Int64) (h0 : Heap) (n0 : Nat) (Z0 : n0 ≤ h0.size) (fp0 : own_Arj Z h0 wa [wt0]) :
    MetFree l (⟨"com/example/leafcode/leafcode/FourWayHeap", "packable", "([J)Z"⟩ : MethodName) (head1 (Jvm.Cond.code (⟨"com/example/leafcode/leafcode/FourWayHeap", "packable", "([J)Z"⟩ : MethodName) prog_20_method_2_code 6 (some .boolean) :: ws) ({ frames := 0, cells := 0, slots := 0, locals := 0 } : Room)) (fun a U => a = #[(.ref wa)] ∧ Z.Warmed39 U.vm ∧ U.heap = h0) (fun _ _ _ _ _ => True) (fun _ U o U' => ∃ v L, o = .returned v ∧ Q5_n1 Z wa wt0 h0 n0 v U'.heap L ∧ FrameEnd U o U' L ({ frames := 0, cells := 0, slots := 0, locals := 0 } : Room).cells ({ frames := 0, cells := 0, slots := 0, locals := 0 } : Room).slots) := by
  refine MetFree.of_bodySF (plainFor_of_name pn_5_n1) hisR ?_
  intro p e s m args below meth c s₁ Bd hml0 hP hK
  obtain ⟨rfl, hZ, hh⟩ := hP
  have hx := Bd.exec
  have hby := Bd.bytes
  have hml : c.maxLocals = 6 := hml0
  have hown : s.vm.findClass "com/example/leafcode/leafcode/FourWayHeap" = some m.cls := findClass_of_methodNamed Bd.named
  have hnm := (name_of_methodNamed Bd.named Bd.method).1
  have X0 : Stand p l e ({ frames := 0, cells := 0, slots := 0, locals := 0 } : Room) s m #[(.ref wa)] below meth c s₁ [] 0 0 := Stand.of_body Bd
  have e0 : s₁.heap = h0 := by rw [← hh, Bd.state]; rfl
  have N0 := Fr.nil n0
  refine own_start (fun t k => castTop (ef_5_n1 m wa) k) ?_
  show own_G p.tables e below _ (s₁.setTop (mkF m 0 #[rv wa, .unset, .unset, .unset, .unset, .unset] []))
  refine own_al X0.here hx rfl (hb hby d5_0) rfl rfl ?_
  refine own_step (fun t k => XS.astoreN X0.here hx rfl (hb hby d5_1) rfl rfl (l' := #[rv wa, rv wa, .unset, .unset, .unset, .unset]) rfl k) ?_
  refine own_al X0.here hx rfl (hb hby d5_2) rfl rfl ?_
  refine own_step (own_lenJ X0 hx hZ e0 fp0 (g := (mkF m 3 #[rv wa, rv wa, .unset, .unset, .unset, .unset] [(.ref wa)])) rfl rfl (hb hby d5_3)) ?_
  refine own_step (fun t k => XS.istoreN X0.here hx rfl (hb hby d5_4) rfl (l' := #[rv wa, rv wa, iv 1, .unset, .unset, .unset]) rfl k) ?_
  refine own_ic X0.here hx rfl (hb hby d5_5) ?_
  refine own_step (fun t k => XS.istoreN X0.here hx rfl (hb hby d5_6) rfl (l' := #[rv wa, rv wa, iv 1, iv 0, .unset, .unset]) rfl k) ?_
  show own_G p.tables e below _ (s₁.setTop (mkF m 7 #[rv wa, rv wa, iv 1, iv 0, .unset, .unset] []))
  refine own_il X0.here hx rfl (hb hby d5_7) rfl ?_
  refine own_il X0.here hx rfl (hb hby d5_8) rfl ?_
  have hk1 : (0 : Int32) < (1 : Int32) := (by decide)
  refine own_step (fun t k => XS.icmpNo X0.here hx rfl (hb hby d5_9) rfl ((tlt hk1).2.1) k) ?_
  show own_G p.tables e below _ (s₁.setTop (mkF m 12 #[rv wa, rv wa, iv 1, iv 0, .unset, .unset] []))
  refine own_al X0.here hx rfl (hb hby d5_12) rfl rfl ?_
  refine own_il X0.here hx rfl (hb hby d5_13) rfl ?_
  refine own_step (own_laload X0 hx hZ e0 fp0 (own_inb (by decide) (Nat.le_of_ble_eq_true rfl)) (g := (mkF m 14 #[rv wa, rv wa, iv 1, iv 0, .unset, .unset] [(.int 0), (.ref wa)])) rfl rfl (hb hby d5_14)) ?_
  refine own_step (fun t k => XS.lstore X0.here hx rfl (hb hby d5_15) rfl (l' := #[rv wa, rv wa, iv 1, iv 0, .val (.long wt0), .second]) rfl k) ?_
  refine own_lx X0.here hx rfl (hb hby d5_17) rfl ?_
  refine own_step (X0.ldc2Long hx hown (mvT hZ (own_w hw 26 rfl)) (g := (mkF m 19 #[rv wa, rv wa, iv 1, iv 0, .val (.long wt0), .second] [(.long wt0)])) rfl (hb hby d5_19)) ?_
  refine own_step (fun t k => XS.lcmp X0.here hx rfl (hb hby d5_22) rfl k) ?_
  show own_G p.tables e below _ (s₁.setTop (mkF m 23 #[rv wa, rv wa, iv 1, iv 0, .val (.long wt0), .second] [(.int (lcmpW wt0 (4294967294 : Int64)))]))
  by_cases hc2 : (4294967294 : Int64) < wt0
  · skip
    refine own_step (fun t k => XS.ifNo X0.here hx rfl (hb hby d5_23) rfl ((if0 _ _).trans (tlt ((lw_gt _ _).mpr hc2)).2.2.2) k) ?_
    show own_G p.tables e below _ (s₁.setTop (mkF m 26 #[rv wa, rv wa, iv 1, iv 0, .val (.long wt0), .second] []))
    refine own_ic X0.here hx rfl (hb hby d5_26) ?_
    obtain ⟨fs, hr, hrun, hended, hW, hsame⟩ := X0.leave (v := some (.int (0 : Int32))) (fun h => by rw [Bd.returns] at h; cases h)
    refine own_done (retN X0 hx (t := .boolean) Bd.returns (by simp) (hb hby d5_27) hr) hrun hended ⟨_, _, rfl, ?_, ⟨_, rfl⟩, hW, hsame.mono (by decide) (by decide)⟩
    show Q5_n1 Z wa wt0 h0 n0 _ s₁.heap _
    rw [e0]
    exact ⟨congrArg (fun z => some (Value.int z)) (show (0 : Int32) = (own_f5_n1 wt0) from by unfold own_f5_n1; simp only [if_pos hc2]), N0, rfl⟩
  · skip
    refine own_step (fun t k => XS.ifYes X0.here hx rfl (pc0 := 23) (pc' := 28) rfl (hb hby d5_23) rfl ((if0 _ _).trans (flt (fun q => hc2 ((lw_gt _ _).mp q))).2.2.2) (by decide) (by decide) k) ?_
    show own_G p.tables e below _ (s₁.setTop (mkF m 28 #[rv wa, rv wa, iv 1, iv 0, .val (.long wt0), .second] []))
    refine own_step (fun t k => XS.iinc X0.here hx rfl (hb hby d5_28) rfl (l' := #[rv wa, rv wa, iv 1, iv 1, .val (.long wt0), .second]) rfl k) ?_
    refine own_go X0.here hx rfl (pc0 := 31) (pc' := 7) rfl (hb hby d5_31) (by decide) (by decide) ?_
    refine own_il X0.here hx rfl (hb hby d5_7) rfl ?_
    refine own_il X0.here hx rfl (hb hby d5_8) rfl ?_
    have hk3 : ¬ ((1 : Int32) < (1 : Int32)) := (by decide)
    refine own_step (fun t k => XS.icmpYes X0.here hx rfl (pc0 := 9) (pc' := 34) rfl (hb hby d5_9) rfl ((flt hk3).2.1) (by decide) (by decide) k) ?_
    show own_G p.tables e below _ (s₁.setTop (mkF m 34 #[rv wa, rv wa, iv 1, iv 1, .val (.long wt0), .second] []))
    refine own_ic X0.here hx rfl (hb hby d5_34) ?_
    obtain ⟨fs, hr, hrun, hended, hW, hsame⟩ := X0.leave (v := some (.int (1 : Int32))) (fun h => by rw [Bd.returns] at h; cases h)
    refine own_done (retN X0 hx (t := .boolean) Bd.returns (by simp) (hb hby d5_35) hr) hrun hended ⟨_, _, rfl, ?_, ⟨_, rfl⟩, hW, hsame.mono (by decide) (by decide)⟩
    show Q5_n1 Z wa wt0 h0 n0 _ s₁.heap _
    rw [e0]
    exact ⟨congrArg (fun z => some (Value.int z)) (show (1 : Int32) = (own_f5_n1 wt0) from by unfold own_f5_n1; simp only [if_neg hc2]), N0, rfl⟩
theorem d6_0 : decode prog_20_method_3_code 0 = .ok (.lload_n 0, 1) := by decide +kernel
theorem d6_1 : decode prog_20_method_3_code 1 = .ok (.bipush 31, 2) := by decide +kernel
theorem d6_3 : decode prog_20_method_3_code 3 = .ok (.lshl, 1) := by decide +kernel
theorem d6_4 : decode prog_20_method_3_code 4 = .ok (.iload_n 2, 1) := by decide +kernel
theorem d6_5 : decode prog_20_method_3_code 5 = .ok (.i2l, 1) := by decide +kernel
theorem d6_6 : decode prog_20_method_3_code 6 = .ok (.lor, 1) := by decide +kernel
theorem d6_7 : decode prog_20_method_3_code 7 = .ok (.lreturn, 1) := by decide +kernel
theorem pn_6 : plainName "com/example/leafcode/leafcode/FourWayHeap" = true := by first | (simp [plainName, overriddenIn]; done) | decide +kernel
theorem ef_6 (m : MethodId) (pw : Int64) (pi_ : Int32) : entryFrame m #[(.long pw), (.int pi_)] 3 = mkF m 0 #[.val (.long pw), .second, iv pi_] [] := by first | (simp [entryFrame, mkF, argsToLocals, Value.category]; done) | rfl
def Q6 (Z : State) (pw : Int64) (pi_ : Int32) (h0 : Heap) (n0 : Nat) (v : Option Value) (h : Heap) (L : List Loc) : Prop := v = some (.long (own_pk pw pi_)) ∧ Fr n0 L ∧ h = h0
set_option maxRecDepth 65536 in
set_option maxHeartbeats 40000000 in
theorem rm6 (l : Launch) (Z : State) (a0 : Array Value) (hw : ∀ d ∈ tables_1, d.before a0 Z = true) (ws : List Jvm.Cond) (pw : Int64) (pi_ : Int32) (h0 : Heap) (n0 : Nat) (Z0 : n0 ≤ h0.size) :
    MetFree l (⟨"com/example/leafcode/leafcode/FourWayHeap", "pack", "(JI)J"⟩ : MethodName) (head1 (Jvm.Cond.code (⟨"com/example/leafcode/leafcode/FourWayHeap", "pack", "(JI)J"⟩ : MethodName) prog_20_method_3_code 3 (some .long) :: ws) ({ frames := 0, cells := 0, slots := 0, locals := 0 } : Room)) (fun a U => a = #[(.long pw), (.int pi_)] ∧ Z.Warmed39 U.vm ∧ U.heap = h0) (fun _ _ _ _ _ => True) (fun _ U o U' => ∃ v L, o = .returned v ∧ Q6 Z pw pi_ h0 n0 v U'.heap L ∧ FrameEnd U o U' L ({ frames := 0, cells := 0, slots := 0, locals := 0 } : Room).cells ({ frames := 0, cells := 0, slots := 0, locals := 0 } : Room).slots) := by
  refine MetFree.of_bodySF (plainFor_of_name pn_6) hisR ?_
  intro p e s m args below meth c s₁ Bd hml0 hP hK
  obtain ⟨rfl, hZ, hh⟩ := hP
  have hx := Bd.exec
  have hby := Bd.bytes
  have hml : c.maxLocals = 3 := hml0
  have hown : s.vm.findClass "com/example/leafcode/leafcode/FourWayHeap" = some m.cls := findClass_of_methodNamed Bd.named
  have hnm := (name_of_methodNamed Bd.named Bd.method).1
  have X0 : Stand p l e ({ frames := 0, cells := 0, slots := 0, locals := 0 } : Room) s m #[(.long pw), (.int pi_)] below meth c s₁ [] 0 0 := Stand.of_body Bd
  have e0 : s₁.heap = h0 := by rw [← hh, Bd.state]; rfl
  have N0 := Fr.nil n0
  refine own_start (fun t k => castTop (ef_6 m pw pi_) k) ?_
  show own_G p.tables e below _ (s₁.setTop (mkF m 0 #[.val (.long pw), .second, iv pi_] []))
  refine own_step (fun t k => XS.lloadN X0.here hx rfl (hb hby d6_0) rfl k) ?_
  refine own_step (fun t k => XS.bipush X0.here hx rfl (hb hby d6_1) k) ?_
  refine own_step (fun t k => XS.lshl X0.here hx rfl (hb hby d6_3) rfl k) ?_
  refine own_il X0.here hx rfl (hb hby d6_4) rfl ?_
  refine own_step (fun t k => XS.i2l X0.here hx rfl (hb hby d6_5) rfl k) ?_
  refine own_step (fun t k => XS.lor X0.here hx rfl (hb hby d6_6) rfl k) ?_
  obtain ⟨fs, hr, hrun, hended, hW, hsame⟩ := X0.leave (v := some (.long ((pw <<< ((31 : Int32) &&& 0x3f).toInt64) ||| (pi_.toInt64)))) (fun h => by rw [Bd.returns] at h; cases h)
  refine own_done (own_retJ X0 hx Bd.returns (hb hby d6_7) hr) hrun hended ⟨_, _, rfl, ?_, ⟨_, rfl⟩, hW, hsame.mono (by decide) (by decide)⟩
  show Q6 Z pw pi_ h0 n0 _ s₁.heap _
  rw [e0]
  exact ⟨congrArg (fun z => some (Value.long z)) (show ((pw <<< ((31 : Int32) &&& 0x3f).toInt64) ||| (pi_.toInt64)) = (own_pk pw pi_) from rfl), N0, rfl⟩
theorem d8_0 : decode jdk_65_method_30_code 0 = .ok (.iload_n 1, 1) := by decide +kernel
theorem d8_1 : decode jdk_65_method_30_code 1 = .ok (.iload_n 2, 1) := by decide +kernel
theorem d8_2 : decode jdk_65_method_30_code 2 = .ok (.if_icmp .le 44, 3) := by decide +kernel
theorem d8_46 : decode jdk_65_method_30_code 46 = .ok (.iload_n 1, 1) := by decide +kernel
theorem d8_47 : decode jdk_65_method_30_code 47 = .ok (.ifCond .ge 12, 3) := by decide +kernel
theorem d8_59 : decode jdk_65_method_30_code 59 = .ok (.iload_n 2, 1) := by decide +kernel
theorem d8_60 : decode jdk_65_method_30_code 60 = .ok (.iload_n 0, 1) := by decide +kernel
theorem d8_61 : decode jdk_65_method_30_code 61 = .ok (.if_icmp .le 12, 3) := by decide +kernel
theorem d8_73 : decode jdk_65_method_30_code 73 = .ok (.return_, 1) := by decide +kernel
theorem pn_8 : plainName "java/util/Arrays" = true := by first | (simp [plainName, overriddenIn]; done) | decide +kernel
theorem ef_8 (m : MethodId) (al : Int32) (fi : Int32) (ti : Int32) : entryFrame m #[(.int al), (.int fi), (.int ti)] 3 = mkF m 0 #[iv al, iv fi, iv ti] [] := by first | (simp [entryFrame, mkF, argsToLocals, Value.category]; done) | rfl
def Q8 (Z : State) (al : Int32) (fi : Int32) (ti : Int32) (h0 : Heap) (n0 : Nat) (v : Option Value) (h : Heap) (L : List Loc) : Prop := v = none ∧ Fr n0 L ∧ h = h0
set_option maxRecDepth 65536 in
set_option maxHeartbeats 40000000 in
theorem rm8 (l : Launch) (Z : State) (a0 : Array Value) (hw : ∀ d ∈ tables_1, d.before a0 Z = true) (ws : List Jvm.Cond) (al : Int32) (fi : Int32) (ti : Int32) (h0 : Heap) (n0 : Nat) (Z0 : n0 ≤ h0.size) (hr1 : ¬ ti < fi) (hr2 : ¬ fi < (0 : Int32)) (hr3 : ¬ al < ti) :
    MetFree l (⟨"java/util/Arrays", "rangeCheck", "(III)V"⟩ : MethodName) (head1 (Jvm.Cond.code (⟨"java/util/Arrays", "rangeCheck", "(III)V"⟩ : MethodName) jdk_65_method_30_code 3 none :: ws) ({ frames := 0, cells := 0, slots := 0, locals := 0 } : Room)) (fun a U => a = #[(.int al), (.int fi), (.int ti)] ∧ Z.Warmed39 U.vm ∧ U.heap = h0) (fun _ _ _ _ _ => True) (fun _ U o U' => ∃ v L, o = .returned v ∧ Q8 Z al fi ti h0 n0 v U'.heap L ∧ FrameEnd U o U' L ({ frames := 0, cells := 0, slots := 0, locals := 0 } : Room).cells ({ frames := 0, cells := 0, slots := 0, locals := 0 } : Room).slots) := by
  refine MetFree.of_bodySF (plainFor_of_name pn_8) hisR ?_
  intro p e s m args below meth c s₁ Bd hml0 hP hK
  obtain ⟨rfl, hZ, hh⟩ := hP
  have hx := Bd.exec
  have hby := Bd.bytes
  have hml : c.maxLocals = 3 := hml0
  have hown : s.vm.findClass "java/util/Arrays" = some m.cls := findClass_of_methodNamed Bd.named
  have hnm := (name_of_methodNamed Bd.named Bd.method).1
  have X0 : Stand p l e ({ frames := 0, cells := 0, slots := 0, locals := 0 } : Room) s m #[(.int al), (.int fi), (.int ti)] below meth c s₁ [] 0 0 := Stand.of_body Bd
  have e0 : s₁.heap = h0 := by rw [← hh, Bd.state]; rfl
  have N0 := Fr.nil n0
  refine own_start (fun t k => castTop (ef_8 m al fi ti) k) ?_
  show own_G p.tables e below _ (s₁.setTop (mkF m 0 #[iv al, iv fi, iv ti] []))
  refine own_il X0.here hx rfl (hb hby d8_0) rfl ?_
  refine own_il X0.here hx rfl (hb hby d8_1) rfl ?_
  have hk1 : ¬ (ti < fi) := hr1
  refine own_step (fun t k => XS.icmpYes X0.here hx rfl (pc0 := 2) (pc' := 46) rfl (hb hby d8_2) rfl ((flt hk1).2.2.2) (by decide) (by decide) k) ?_
  show own_G p.tables e below _ (s₁.setTop (mkF m 46 #[iv al, iv fi, iv ti] []))
  refine own_il X0.here hx rfl (hb hby d8_46) rfl ?_
  have hk2 : ¬ (fi < (0 : Int32)) := hr2
  refine own_step (fun t k => XS.ifYes X0.here hx rfl (pc0 := 47) (pc' := 59) rfl (hb hby d8_47) rfl ((if0 _ _).trans (flt hk2).2.1) (by decide) (by decide) k) ?_
  show own_G p.tables e below _ (s₁.setTop (mkF m 59 #[iv al, iv fi, iv ti] []))
  refine own_il X0.here hx rfl (hb hby d8_59) rfl ?_
  refine own_il X0.here hx rfl (hb hby d8_60) rfl ?_
  have hk3 : ¬ (al < ti) := hr3
  refine own_step (fun t k => XS.icmpYes X0.here hx rfl (pc0 := 61) (pc' := 73) rfl (hb hby d8_61) rfl ((flt hk3).2.2.2) (by decide) (by decide) k) ?_
  show own_G p.tables e below _ (s₁.setTop (mkF m 73 #[iv al, iv fi, iv ti] []))
  obtain ⟨fs, hr, hrun, hended, hW, hsame⟩ := X0.leave (v := none) (fun _ => rfl)
  refine own_done (X0.returnOut hx Bd.returns (hb hby d8_73) hr) hrun hended ⟨_, _, rfl, ?_, ⟨_, rfl⟩, hW, hsame.mono (by decide) (by decide)⟩
  show Q8 Z al fi ti h0 n0 _ s₁.heap _
  rw [e0]
  exact ⟨rfl, N0, rfl⟩
theorem d7_0 : decode jdk_65_method_102_code 0 = .ok (.aload_n 0, 1) := by decide +kernel
theorem d7_1 : decode jdk_65_method_102_code 1 = .ok (.arraylength, 1) := by decide +kernel
theorem d7_2 : decode jdk_65_method_102_code 2 = .ok (.iload_n 1, 1) := by decide +kernel
theorem d7_3 : decode jdk_65_method_102_code 3 = .ok (.iload_n 2, 1) := by decide +kernel
theorem d7_4 : decode jdk_65_method_102_code 4 = .ok (.invokestatic 13, 3) := by decide +kernel
theorem d7_7 : decode jdk_65_method_102_code 7 = .ok (.iload_n 1, 1) := by decide +kernel
theorem d7_8 : decode jdk_65_method_102_code 8 = .ok (.istore 5, 2) := by decide +kernel
theorem d7_10 : decode jdk_65_method_102_code 10 = .ok (.iload 5, 2) := by decide +kernel
theorem d7_12 : decode jdk_65_method_102_code 12 = .ok (.iload_n 2, 1) := by decide +kernel
theorem d7_13 : decode jdk_65_method_102_code 13 = .ok (.if_icmp .ge 14, 3) := by decide +kernel
theorem d7_16 : decode jdk_65_method_102_code 16 = .ok (.aload_n 0, 1) := by decide +kernel
theorem d7_17 : decode jdk_65_method_102_code 17 = .ok (.iload 5, 2) := by decide +kernel
theorem d7_19 : decode jdk_65_method_102_code 19 = .ok (.lload_n 3, 1) := by decide +kernel
theorem d7_20 : decode jdk_65_method_102_code 20 = .ok (.lastore, 1) := by decide +kernel
theorem d7_21 : decode jdk_65_method_102_code 21 = .ok (.iinc 5 1, 3) := by decide +kernel
theorem d7_24 : decode jdk_65_method_102_code 24 = .ok (.goto (-14), 3) := by decide +kernel
theorem d7_27 : decode jdk_65_method_102_code 27 = .ok (.return_, 1) := by decide +kernel
theorem pn_7_n1 : plainName "java/util/Arrays" = true := by first | (simp [plainName, overriddenIn]; done) | decide +kernel
theorem pd_7_n1_0 : parseMethodDescriptor "(III)V" = some ⟨[.int, .int, .int], none⟩ := by decide +kernel
theorem ef_7_n1 (m : MethodId) (ar : Addr) (vv : Int64) : entryFrame m #[(.ref ar), (.int (4 : Int32)), (.int (7 : Int32)), (.long vv)] 6 = mkF m 0 #[rv ar, iv (4 : Int32), iv (7 : Int32), .val (.long vv), .second, .unset] [] := by first | (simp [entryFrame, mkF, argsToLocals, Value.category]; done) | rfl
def Q7_n1 (Z : State) (ar : Addr) (vv : Int64) (kk0 : Int64) (kk1 : Int64) (kk2 : Int64) (kk3 : Int64) (kk4 : Int64) (kk5 : Int64) (kk6 : Int64) (h0 : Heap) (n0 : Nat) (v : Option Value) (h : Heap) (L : List Loc) : Prop := v = none ∧ Fr n0 L ∧ Keep h0 h [ar] ∧ own_Arj Z h ar [kk0, kk1, kk2, kk3, vv, vv, vv]
set_option maxRecDepth 65536 in
set_option maxHeartbeats 40000000 in
theorem rm7_n1 (l : Launch) (Z : State) (a0 : Array Value) (hw : ∀ d ∈ tables_1, d.before a0 Z = true) (ws : List Jvm.Cond) (ar : Addr) (vv : Int64) (kk0 : Int64) (kk1 : Int64) (kk2 : Int64) (kk3 : Int64) (kk4 : Int64) (kk5 : Int64) (kk6 : Int64) (h0 : Heap) (n0 : Nat) (Z0 : n0 ≤ h0.size) (fp0 : own_Arj Z h0 ar [kk0, kk1, kk2, kk3, kk4, kk5, kk6]) (g_ar : n0 ≤ ar) :
    MetFree l (⟨"java/util/Arrays", "fill", "([JIIJ)V"⟩ : MethodName) (head1 (Jvm.Cond.code (⟨"java/util/Arrays", "fill", "([JIIJ)V"⟩ : MethodName) jdk_65_method_102_code 6 none :: ws) ({ frames := 1, cells := 0, slots := 0, locals := 14 } : Room)) (fun a U => a = #[(.ref ar), (.int (4 : Int32)), (.int (7 : Int32)), (.long vv)] ∧ Z.Warmed39 U.vm ∧ U.heap = h0) (fun _ _ _ _ _ => True) (fun _ U o U' => ∃ v L, o = .returned v ∧ Q7_n1 Z ar vv kk0 kk1 kk2 kk3 kk4 kk5 kk6 h0 n0 v U'.heap L ∧ FrameEnd U o U' L ({ frames := 1, cells := 0, slots := 0, locals := 14 } : Room).cells ({ frames := 1, cells := 0, slots := 0, locals := 14 } : Room).slots) := by
  refine MetFree.of_bodySF (plainFor_of_name pn_7_n1) hisR ?_
  intro p e s m args below meth c s₁ Bd hml0 hP hK
  obtain ⟨rfl, hZ, hh⟩ := hP
  have hx := Bd.exec
  have hby := Bd.bytes
  have hml : c.maxLocals = 6 := hml0
  have hown : s.vm.findClass "java/util/Arrays" = some m.cls := findClass_of_methodNamed Bd.named
  have hnm := (name_of_methodNamed Bd.named Bd.method).1
  have X0 : Stand p l e ({ frames := 1, cells := 0, slots := 0, locals := 14 } : Room) s m #[(.ref ar), (.int (4 : Int32)), (.int (7 : Int32)), (.long vv)] below meth c s₁ [] 0 0 := Stand.of_body Bd
  have e0 : s₁.heap = h0 := by rw [← hh, Bd.state]; rfl
  have N0 := Fr.nil n0
  refine own_start (fun t k => castTop (ef_7_n1 m ar vv) k) ?_
  show own_G p.tables e below _ (s₁.setTop (mkF m 0 #[rv ar, iv 4, iv 7, .val (.long vv), .second, .unset] []))
  refine own_al X0.here hx rfl (hb hby d7_0) rfl rfl ?_
  refine own_step (own_lenJ X0 hx hZ e0 fp0 (g := (mkF m 1 #[rv ar, iv 4, iv 7, .val (.long vv), .second, .unset] [(.ref ar)])) rfl rfl (hb hby d7_1)) ?_
  refine own_il X0.here hx rfl (hb hby d7_2) rfl ?_
  refine own_il X0.here hx rfl (hb hby d7_3) rfl ?_
  obtain ⟨_, _, ⟨T1, L1, k1, n1⟩, -, X1, ⟨Lc1, hQ1, l1, y1, z1⟩, st1⟩ := Jvm.LawKit.callS X0 hx (y := own_y8) hown (mvT hZ (own_w hw 35 rfl)) (mvT hZ (own_w hw 36 rfl)) (mvT hZ (own_w hw 33 rfl)) (mvT hZ (own_w hw 37 rfl)) (by decide) (backOf (W := 0) (rm8 l Z a0 hw [] (7 : Int32) (4 : Int32) (7 : Int32) h0 n0 (Nat.le_trans Z0 (Keep.refl h0 [ar]).1) (by decide : ¬ (7 : Int32) < (4 : Int32)) (by decide : ¬ (4 : Int32) < (0 : Int32)) (by decide : ¬ (7 : Int32) < (7 : Int32))) hZ (own_w hw 37 rfl) (own_w hw 33 rfl) (by decide) (by decide)) (g := (mkF m 4 #[rv ar, iv 4, iv 7, .val (.long vv), .second, .unset] [(.int 7), (.int 4), (.int 7)])) rfl (by rw [hml]; rfl) (argsL := [(.int 7), (.int 4), (.int 7)]) (rest := []) (lenOf pd_7_n1_0 rfl) rfl (own_wl rfl) (hb hby d7_4) (fun _ _ => ⟨rfl, e0, (by decide : 0 + 0 ≤ _), (by decide : 0 + 0 ≤ _)⟩)
  dsimp only [Pt.U, Pt.locs, Pt.cells, Pt.slots] at X1 l1 y1 z1 st1 hQ1
  subst y1 z1
  obtain ⟨rfl, N1q, e1⟩ := hQ1
  have N1 : Fr n0 L1 := by rw [l1]; exact Fr.app N0 N1q
  refine own_step st1 ?_
  refine own_il X1.here hx rfl (hb hby d7_7) rfl ?_
  refine own_step (fun t k => XS.istore X1.here hx rfl (hb hby d7_8) rfl (l' := #[rv ar, iv 4, iv 7, .val (.long vv), .second, iv 4]) rfl k) ?_
  show own_G p.tables e below _ (T1.setTop (mkF m 10 #[rv ar, iv 4, iv 7, .val (.long vv), .second, iv 4] []))
  refine own_ix X1.here hx rfl (hb hby d7_10) rfl ?_
  refine own_il X1.here hx rfl (hb hby d7_12) rfl ?_
  have hk2 : (4 : Int32) < (7 : Int32) := (by decide)
  refine own_step (fun t k => XS.icmpNo X1.here hx rfl (hb hby d7_13) rfl ((tlt hk2).2.1) k) ?_
  show own_G p.tables e below _ (T1.setTop (mkF m 16 #[rv ar, iv 4, iv 7, .val (.long vv), .second, iv 4] []))
  refine own_al X1.here hx rfl (hb hby d7_16) rfl rfl ?_
  refine own_ix X1.here hx rfl (hb hby d7_17) rfl ?_
  refine own_step (fun t k => XS.lloadN X1.here hx rfl (hb hby d7_19) rfl k) ?_
  obtain ⟨T3, h3, X3, e3, W3, c3, st3⟩ := own_lastore X1 hx hZ e1 fp0 (own_inb (by decide) (Nat.le_of_ble_eq_true rfl)) (g := (mkF m 20 #[rv ar, iv 4, iv 7, .val (.long vv), .second, iv 4] [(.long vv), (.int 4), (.ref ar)])) rfl rfl (hb hby d7_20)
  have N3 := Fr.snoc X3 N1 g_ar
  have c4 : own_Arj Z h3 ar [kk0, kk1, kk2, kk3, vv, kk5, kk6] := c3
  have K3 : Keep h0 h3 [ar] := (Keep.refl h0 [ar]).wr W3 (Or.inl (List.mem_of_getElem? (i := 0) rfl))
  refine own_step st3 ?_
  refine own_step (fun t k => XS.iinc X3.here hx rfl (hb hby d7_21) rfl (l' := #[rv ar, iv 4, iv 7, .val (.long vv), .second, iv 5]) rfl k) ?_
  refine own_go X3.here hx rfl (pc0 := 24) (pc' := 10) rfl (hb hby d7_24) (by decide) (by decide) ?_
  refine own_ix X3.here hx rfl (hb hby d7_10) rfl ?_
  show own_G p.tables e below _ (T3.setTop (mkF m 12 #[rv ar, iv 4, iv 7, .val (.long vv), .second, iv 5] [(.int 5)]))
  refine own_il X3.here hx rfl (hb hby d7_12) rfl ?_
  have hk6 : (5 : Int32) < (7 : Int32) := (by decide)
  refine own_step (fun t k => XS.icmpNo X3.here hx rfl (hb hby d7_13) rfl ((tlt hk6).2.1) k) ?_
  clear N1 N1q W3 X1 c3 e1 hk2 hk6 st1 st3
  show own_G p.tables e below _ (T3.setTop (mkF m 16 #[rv ar, iv 4, iv 7, .val (.long vv), .second, iv 5] []))
  refine own_al X3.here hx rfl (hb hby d7_16) rfl rfl ?_
  refine own_ix X3.here hx rfl (hb hby d7_17) rfl ?_
  refine own_step (fun t k => XS.lloadN X3.here hx rfl (hb hby d7_19) rfl k) ?_
  obtain ⟨T7, h7, X7, e7, W7, c7, st7⟩ := own_lastore X3 hx hZ e3 c4 (own_inb (by decide) (Nat.le_of_ble_eq_true rfl)) (g := (mkF m 20 #[rv ar, iv 4, iv 7, .val (.long vv), .second, iv 5] [(.long vv), (.int 5), (.ref ar)])) rfl rfl (hb hby d7_20)
  have N7 := Fr.snoc X7 N3 g_ar
  have c8 : own_Arj Z h7 ar [kk0, kk1, kk2, kk3, vv, vv, kk6] := c7
  have K7 : Keep h0 h7 [ar] := K3.wr W7 (Or.inl (List.mem_of_getElem? (i := 0) rfl))
  refine own_step st7 ?_
  refine own_step (fun t k => XS.iinc X7.here hx rfl (hb hby d7_21) rfl (l' := #[rv ar, iv 4, iv 7, .val (.long vv), .second, iv 6]) rfl k) ?_
  refine own_go X7.here hx rfl (pc0 := 24) (pc' := 10) rfl (hb hby d7_24) (by decide) (by decide) ?_
  refine own_ix X7.here hx rfl (hb hby d7_10) rfl ?_
  show own_G p.tables e below _ (T7.setTop (mkF m 12 #[rv ar, iv 4, iv 7, .val (.long vv), .second, iv 6] [(.int 6)]))
  refine own_il X7.here hx rfl (hb hby d7_12) rfl ?_
  have hk10 : (6 : Int32) < (7 : Int32) := (by decide)
  refine own_step (fun t k => XS.icmpNo X7.here hx rfl (hb hby d7_13) rfl ((tlt hk10).2.1) k) ?_
  show own_G p.tables e below _ (T7.setTop (mkF m 16 #[rv ar, iv 4, iv 7, .val (.long vv), .second, iv 6] []))
  refine own_al X7.here hx rfl (hb hby d7_16) rfl rfl ?_
  refine own_ix X7.here hx rfl (hb hby d7_17) rfl ?_
  refine own_step (fun t k => XS.lloadN X7.here hx rfl (hb hby d7_19) rfl k) ?_
  obtain ⟨T11, h11, X11, e11, W11, c11, st11⟩ := own_lastore X7 hx hZ e7 c8 (own_inb (by decide) (Nat.le_of_ble_eq_true rfl)) (g := (mkF m 20 #[rv ar, iv 4, iv 7, .val (.long vv), .second, iv 6] [(.long vv), (.int 6), (.ref ar)])) rfl rfl (hb hby d7_20)
  have N11 := Fr.snoc X11 N7 g_ar
  have c12 : own_Arj Z h11 ar [kk0, kk1, kk2, kk3, vv, vv, vv] := c11
  have K11 : Keep h0 h11 [ar] := K7.wr W11 (Or.inl (List.mem_of_getElem? (i := 0) rfl))
  refine own_step st11 ?_
  refine own_step (fun t k => XS.iinc X11.here hx rfl (hb hby d7_21) rfl (l' := #[rv ar, iv 4, iv 7, .val (.long vv), .second, iv 7]) rfl k) ?_
  refine own_go X11.here hx rfl (pc0 := 24) (pc' := 10) rfl (hb hby d7_24) (by decide) (by decide) ?_
  refine own_ix X11.here hx rfl (hb hby d7_10) rfl ?_
  clear K3 K7 N3 N7 W11 W7 X3 X7 c11 c4 c7 c8 e3 e7 hk10 st11 st7
  show own_G p.tables e below _ (T11.setTop (mkF m 12 #[rv ar, iv 4, iv 7, .val (.long vv), .second, iv 7] [(.int 7)]))
  refine own_il X11.here hx rfl (hb hby d7_12) rfl ?_
  have hk14 : ¬ ((7 : Int32) < (7 : Int32)) := (by decide)
  refine own_step (fun t k => XS.icmpYes X11.here hx rfl (pc0 := 13) (pc' := 27) rfl (hb hby d7_13) rfl ((flt hk14).2.1) (by decide) (by decide) k) ?_
  show own_G p.tables e below _ (T11.setTop (mkF m 27 #[rv ar, iv 4, iv 7, .val (.long vv), .second, iv 7] []))
  obtain ⟨fs, hr, hrun, hended, hW, hsame⟩ := X11.leave (v := none) (fun _ => rfl)
  refine own_done (X11.returnOut hx Bd.returns (hb hby d7_27) hr) hrun hended ⟨_, _, rfl, ?_, ⟨_, rfl⟩, hW, hsame.mono (by decide) (by decide)⟩
  show Q7_n1 Z ar vv kk0 kk1 kk2 kk3 kk4 kk5 kk6 h0 n0 _ T11.heap _
  rw [e11]
  exact ⟨rfl, N11, K11, c12⟩
theorem d9_0 : decode prog_20_method_4_code 0 = .ok (.iload_n 0, 1) := by decide +kernel
theorem d9_1 : decode prog_20_method_4_code 1 = .ok (.iconst 4, 1) := by decide +kernel
theorem d9_2 : decode prog_20_method_4_code 2 = .ok (.idiv, 1) := by decide +kernel
theorem d9_3 : decode prog_20_method_4_code 3 = .ok (.iconst 2, 1) := by decide +kernel
theorem d9_4 : decode prog_20_method_4_code 4 = .ok (.iadd, 1) := by decide +kernel
theorem d9_5 : decode prog_20_method_4_code 5 = .ok (.ireturn, 1) := by decide +kernel
theorem pn_9 : plainName "com/example/leafcode/leafcode/FourWayHeap" = true := by first | (simp [plainName, overriddenIn]; done) | decide +kernel
theorem ef_9 (m : MethodId) (ps : Int32) : entryFrame m #[(.int ps)] 1 = mkF m 0 #[iv ps] [] := by first | (simp [entryFrame, mkF, argsToLocals, Value.category]; done) | rfl
def Q9 (Z : State) (ps : Int32) (h0 : Heap) (n0 : Nat) (v : Option Value) (h : Heap) (L : List Loc) : Prop := v = some (.int (own_par ps)) ∧ Fr n0 L ∧ h = h0
set_option maxRecDepth 65536 in
set_option maxHeartbeats 40000000 in
theorem rm9 (l : Launch) (Z : State) (a0 : Array Value) (hw : ∀ d ∈ tables_1, d.before a0 Z = true) (ws : List Jvm.Cond) (ps : Int32) (h0 : Heap) (n0 : Nat) (Z0 : n0 ≤ h0.size) :
    MetFree l (⟨"com/example/leafcode/leafcode/FourWayHeap", "parent", "(I)I"⟩ : MethodName) (head1 (Jvm.Cond.code (⟨"com/example/leafcode/leafcode/FourWayHeap", "parent", "(I)I"⟩ : MethodName) prog_20_method_4_code 1 (some .int) :: ws) ({ frames := 0, cells := 0, slots := 0, locals := 0 } : Room)) (fun a U => a = #[(.int ps)] ∧ Z.Warmed39 U.vm ∧ U.heap = h0) (fun _ _ _ _ _ => True) (fun _ U o U' => ∃ v L, o = .returned v ∧ Q9 Z ps h0 n0 v U'.heap L ∧ FrameEnd U o U' L ({ frames := 0, cells := 0, slots := 0, locals := 0 } : Room).cells ({ frames := 0, cells := 0, slots := 0, locals := 0 } : Room).slots) := by
  refine MetFree.of_bodySF (plainFor_of_name pn_9) hisR ?_
  intro p e s m args below meth c s₁ Bd hml0 hP hK
  obtain ⟨rfl, hZ, hh⟩ := hP
  have hx := Bd.exec
  have hby := Bd.bytes
  have hml : c.maxLocals = 1 := hml0
  have hown : s.vm.findClass "com/example/leafcode/leafcode/FourWayHeap" = some m.cls := findClass_of_methodNamed Bd.named
  have hnm := (name_of_methodNamed Bd.named Bd.method).1
  have X0 : Stand p l e ({ frames := 0, cells := 0, slots := 0, locals := 0 } : Room) s m #[(.int ps)] below meth c s₁ [] 0 0 := Stand.of_body Bd
  have e0 : s₁.heap = h0 := by rw [← hh, Bd.state]; rfl
  have N0 := Fr.nil n0
  refine own_start (fun t k => castTop (ef_9 m ps) k) ?_
  show own_G p.tables e below _ (s₁.setTop (mkF m 0 #[iv ps] []))
  refine own_il X0.here hx rfl (hb hby d9_0) rfl ?_
  refine own_ic X0.here hx rfl (hb hby d9_1) ?_
  refine own_step (fun t k => XS.idiv X0.here hx rfl (hb hby d9_2) rfl (by decide) k) ?_
  refine own_ic X0.here hx rfl (hb hby d9_3) ?_
  refine own_step (fun t k => XS.iadd X0.here hx rfl (hb hby d9_4) rfl k) ?_
  obtain ⟨fs, hr, hrun, hended, hW, hsame⟩ := X0.leave (v := some (.int ((ps / (4 : Int32)) + (2 : Int32)))) (fun h => by rw [Bd.returns] at h; cases h)
  refine own_done (retI X0 hx Bd.returns (hb hby d9_5) hr) hrun hended ⟨_, _, rfl, ?_, ⟨_, rfl⟩, hW, hsame.mono (by decide) (by decide)⟩
  show Q9 Z ps h0 n0 _ s₁.heap _
  rw [e0]
  exact ⟨congrArg (fun z => some (Value.int z)) (show ((ps / (4 : Int32)) + (2 : Int32)) = (own_par ps) from rfl), N0, rfl⟩
theorem d3_0 : decode prog_20_method_1_code 0 = .ok (.aload_n 0, 1) := by decide +kernel
theorem d3_1 : decode prog_20_method_1_code 1 = .ok (.invokespecial 5, 3) := by decide +kernel
theorem d3_4 : decode prog_20_method_1_code 4 = .ok (.aload_n 1, 1) := by decide +kernel
theorem d3_5 : decode prog_20_method_1_code 5 = .ok (.arraylength, 1) := by decide +kernel
theorem d3_6 : decode prog_20_method_1_code 6 = .ok (.istore_n 2, 1) := by decide +kernel
theorem d3_7 : decode prog_20_method_1_code 7 = .ok (.aload_n 0, 1) := by decide +kernel
theorem d3_8 : decode prog_20_method_1_code 8 = .ok (.iconst 3, 1) := by decide +kernel
theorem d3_9 : decode prog_20_method_1_code 9 = .ok (.iload_n 2, 1) := by decide +kernel
theorem d3_10 : decode prog_20_method_1_code 10 = .ok (.iadd, 1) := by decide +kernel
theorem d3_11 : decode prog_20_method_1_code 11 = .ok (.putfield 11, 3) := by decide +kernel
theorem d3_14 : decode prog_20_method_1_code 14 = .ok (.aload_n 0, 1) := by decide +kernel
theorem d3_15 : decode prog_20_method_1_code 15 = .ok (.aload_n 0, 1) := by decide +kernel
theorem d3_16 : decode prog_20_method_1_code 16 = .ok (.getfield 11, 3) := by decide +kernel
theorem d3_19 : decode prog_20_method_1_code 19 = .ok (.iconst 4, 1) := by decide +kernel
theorem d3_20 : decode prog_20_method_1_code 20 = .ok (.iadd, 1) := by decide +kernel
theorem d3_21 : decode prog_20_method_1_code 21 = .ok (.iconst 1, 1) := by decide +kernel
theorem d3_22 : decode prog_20_method_1_code 22 = .ok (.isub, 1) := by decide +kernel
theorem d3_23 : decode prog_20_method_1_code 23 = .ok (.newarray .long, 2) := by decide +kernel
theorem d3_25 : decode prog_20_method_1_code 25 = .ok (.putfield 15, 3) := by decide +kernel
theorem d3_28 : decode prog_20_method_1_code 28 = .ok (.aload_n 1, 1) := by decide +kernel
theorem d3_29 : decode prog_20_method_1_code 29 = .ok (.invokestatic 19, 3) := by decide +kernel
theorem d3_32 : decode prog_20_method_1_code 32 = .ok (.ifCond .eq 53, 3) := by decide +kernel
theorem d3_35 : decode prog_20_method_1_code 35 = .ok (.iconst 0, 1) := by decide +kernel
theorem d3_36 : decode prog_20_method_1_code 36 = .ok (.istore_n 3, 1) := by decide +kernel
theorem d3_37 : decode prog_20_method_1_code 37 = .ok (.iload_n 3, 1) := by decide +kernel
theorem d3_38 : decode prog_20_method_1_code 38 = .ok (.iload_n 2, 1) := by decide +kernel
theorem d3_39 : decode prog_20_method_1_code 39 = .ok (.if_icmp .ge 24, 3) := by decide +kernel
theorem d3_42 : decode prog_20_method_1_code 42 = .ok (.aload_n 0, 1) := by decide +kernel
theorem d3_43 : decode prog_20_method_1_code 43 = .ok (.getfield 15, 3) := by decide +kernel
theorem d3_46 : decode prog_20_method_1_code 46 = .ok (.iconst 3, 1) := by decide +kernel
theorem d3_47 : decode prog_20_method_1_code 47 = .ok (.iload_n 3, 1) := by decide +kernel
theorem d3_48 : decode prog_20_method_1_code 48 = .ok (.iadd, 1) := by decide +kernel
theorem d3_49 : decode prog_20_method_1_code 49 = .ok (.aload_n 1, 1) := by decide +kernel
theorem d3_50 : decode prog_20_method_1_code 50 = .ok (.iload_n 3, 1) := by decide +kernel
theorem d3_51 : decode prog_20_method_1_code 51 = .ok (.laload, 1) := by decide +kernel
theorem d3_52 : decode prog_20_method_1_code 52 = .ok (.iload_n 3, 1) := by decide +kernel
theorem d3_53 : decode prog_20_method_1_code 53 = .ok (.invokestatic 23, 3) := by decide +kernel
theorem d3_56 : decode prog_20_method_1_code 56 = .ok (.lastore, 1) := by decide +kernel
theorem d3_57 : decode prog_20_method_1_code 57 = .ok (.iinc 3 1, 3) := by decide +kernel
theorem d3_60 : decode prog_20_method_1_code 60 = .ok (.goto (-23), 3) := by decide +kernel
theorem d3_63 : decode prog_20_method_1_code 63 = .ok (.aload_n 0, 1) := by decide +kernel
theorem d3_64 : decode prog_20_method_1_code 64 = .ok (.getfield 15, 3) := by decide +kernel
theorem d3_67 : decode prog_20_method_1_code 67 = .ok (.aload_n 0, 1) := by decide +kernel
theorem d3_68 : decode prog_20_method_1_code 68 = .ok (.getfield 11, 3) := by decide +kernel
theorem d3_71 : decode prog_20_method_1_code 71 = .ok (.aload_n 0, 1) := by decide +kernel
theorem d3_72 : decode prog_20_method_1_code 72 = .ok (.getfield 15, 3) := by decide +kernel
theorem d3_75 : decode prog_20_method_1_code 75 = .ok (.arraylength, 1) := by decide +kernel
theorem d3_76 : decode prog_20_method_1_code 76 = .ok (.ldc2_w 27, 3) := by decide +kernel
theorem d3_79 : decode prog_20_method_1_code 79 = .ok (.invokestatic 29, 3) := by decide +kernel
theorem d3_82 : decode prog_20_method_1_code 82 = .ok (.goto 47, 3) := by decide +kernel
theorem d3_129 : decode prog_20_method_1_code 129 = .ok (.aload_n 0, 1) := by decide +kernel
theorem d3_130 : decode prog_20_method_1_code 130 = .ok (.getfield 11, 3) := by decide +kernel
theorem d3_133 : decode prog_20_method_1_code 133 = .ok (.iconst 1, 1) := by decide +kernel
theorem d3_134 : decode prog_20_method_1_code 134 = .ok (.isub, 1) := by decide +kernel
theorem d3_135 : decode prog_20_method_1_code 135 = .ok (.invokestatic 45, 3) := by decide +kernel
theorem d3_138 : decode prog_20_method_1_code 138 = .ok (.istore_n 3, 1) := by decide +kernel
theorem d3_139 : decode prog_20_method_1_code 139 = .ok (.iload_n 3, 1) := by decide +kernel
theorem d3_140 : decode prog_20_method_1_code 140 = .ok (.iconst 3, 1) := by decide +kernel
theorem d3_141 : decode prog_20_method_1_code 141 = .ok (.if_icmp .lt 20, 3) := by decide +kernel
theorem d3_161 : decode prog_20_method_1_code 161 = .ok (.return_, 1) := by decide +kernel
theorem pn_3_p1 : plainName "com/example/leafcode/leafcode/FourWayHeap" = true := by first | (simp [plainName, overriddenIn]; done) | decide +kernel
theorem pd_3_p1_0 : parseMethodDescriptor "([J)Z" = some ⟨[(.array .long)], some .boolean⟩ := by decide +kernel
theorem pd_3_p1_1 : parseMethodDescriptor "(JI)J" = some ⟨[.long, .int], some .long⟩ := by decide +kernel
theorem pd_3_p1_2 : parseMethodDescriptor "([JIIJ)V" = some ⟨[(.array .long), .int, .int, .long], none⟩ := by decide +kernel
theorem pd_3_p1_3 : parseMethodDescriptor "(I)I" = some ⟨[.int], some .int⟩ := by decide +kernel
theorem ef_3_p1 (m : MethodId) (a1 : Addr) (wa : Addr) : entryFrame m #[(.ref a1), (.ref wa)] 4 = mkF m 0 #[rv a1, rv wa, .unset, .unset] [] := by first | (simp [entryFrame, mkF, argsToLocals, Value.category]; done) | rfl
def Q3_p1 (Z : State) (a1 : Addr) (wa : Addr) (wt0 : Int64) (h0 : Heap) (n0 : Nat) (v : Option Value) (h : Heap) (L : List Loc) : Prop := ∃ (x1 : Addr) (L_x1 : List Int64), v = none ∧ Fr n0 L ∧ Keep h0 h [a1] ∧ Fld Z h a1 own_C "end" "I" (.int 4) ∧ Fld Z h a1 own_C "keys" "[J" (.ref x1) ∧ Fld Z h a1 own_C "nodes" "[I" .null ∧ own_Arj Z h x1 L_x1 ∧ h0.size ≤ x1 ∧ (L_x1.length = 7 ∧ (own_ush (L_x1.getD 3 0)).toInt = wt0.toInt)
set_option maxRecDepth 65536 in
set_option maxHeartbeats 40000000 in
theorem rm3_p1 (l : Launch) (Z : State) (a0 : Array Value) (hw : ∀ d ∈ tables_1, d.before a0 Z = true) (ws : List Jvm.Cond) (a1 : Addr) (wa : Addr) (wt0 : Int64) (h0 : Heap) (n0 : Nat) (Z0 : n0 ≤ h0.size) (fp0 : Exa Z h0 a1 own_C) (fp1 : Fld Z h0 a1 own_C "end" "I" (.int 0)) (fp2 : Fld Z h0 a1 own_C "keys" "[J" .null) (fp3 : Fld Z h0 a1 own_C "nodes" "[I" .null) (fp4 : own_Arj Z h0 wa [wt0]) (hpk : own_f5_n1 wt0 = 1) (hnn0 : 0 ≤ wt0.toInt) (g_a1 : n0 ≤ a1) (ne_wa_a1 : wa ≠ a1) :
    MetFree l (⟨"com/example/leafcode/leafcode/FourWayHeap", "<init>", "([J)V"⟩ : MethodName) (head1 (Jvm.Cond.code (⟨"com/example/leafcode/leafcode/FourWayHeap", "<init>", "([J)V"⟩ : MethodName) prog_20_method_1_code 4 none :: ws) ({ frames := 2, cells := 1, slots := 7, locals := 31 } : Room)) (fun a U => a = #[(.ref a1), (.ref wa)] ∧ Z.Warmed39 U.vm ∧ U.heap = h0) (fun _ _ _ _ _ => True) (fun _ U o U' => ∃ v L, o = .returned v ∧ Q3_p1 Z a1 wa wt0 h0 n0 v U'.heap L ∧ FrameEnd U o U' L ({ frames := 2, cells := 1, slots := 7, locals := 31 } : Room).cells ({ frames := 2, cells := 1, slots := 7, locals := 31 } : Room).slots) := by
  refine MetFree.of_bodySF (plainFor_of_name pn_3_p1) hisR ?_
  intro p e s m args below meth c s₁ Bd hml0 hP hK
  obtain ⟨rfl, hZ, hh⟩ := hP
  have hx := Bd.exec
  have hby := Bd.bytes
  have hml : c.maxLocals = 4 := hml0
  have hown : s.vm.findClass "com/example/leafcode/leafcode/FourWayHeap" = some m.cls := findClass_of_methodNamed Bd.named
  have hnm := (name_of_methodNamed Bd.named Bd.method).1
  have X0 : Stand p l e ({ frames := 2, cells := 1, slots := 7, locals := 31 } : Room) s m #[(.ref a1), (.ref wa)] below meth c s₁ [] 0 0 := Stand.of_body Bd
  have e0 : s₁.heap = h0 := by rw [← hh, Bd.state]; rfl
  have N0 := Fr.nil n0
  refine own_start (fun t k => castTop (ef_3_p1 m a1 wa) k) ?_
  show own_G p.tables e below _ (s₁.setTop (mkF m 0 #[rv a1, rv wa, .unset, .unset] []))
  refine own_al X0.here hx rfl (hb hby d3_0) rfl rfl ?_
  obtain ⟨T1, X1, e1, st1⟩ := initO X0 hx hZ hown (own_w hw 16 rfl) (own_w hw 17 rfl) (own_w hw 18 rfl) e0 (g := (mkF m 1 #[rv a1, rv wa, .unset, .unset] [(.ref a1)])) rfl (by rw [hml]; rfl) rfl (hb hby d3_1) (by decide) (W := 0) (by show 2 * 0 + _ ≤ _; exact Nat.le_of_eq rfl) (by decide)
  refine own_step st1 ?_
  refine own_al X1.here hx rfl (hb hby d3_4) rfl rfl ?_
  refine own_step (own_lenJ X1 hx hZ e1 fp4 (g := (mkF m 5 #[rv a1, rv wa, .unset, .unset] [(.ref wa)])) rfl rfl (hb hby d3_5)) ?_
  refine own_step (fun t k => XS.istoreN X1.here hx rfl (hb hby d3_6) rfl (l' := #[rv a1, rv wa, iv 1, .unset]) rfl k) ?_
  refine own_al X1.here hx rfl (hb hby d3_7) rfl rfl ?_
  refine own_ic X1.here hx rfl (hb hby d3_8) ?_
  show own_G p.tables e below _ (T1.setTop (mkF m 9 #[rv a1, rv wa, iv 1, .unset] [(.int 3), (.ref a1)]))
  refine own_il X1.here hx rfl (hb hby d3_9) rfl ?_
  refine own_step (fun t k => XS.iadd X1.here hx rfl (hb hby d3_10) rfl k) ?_
  obtain ⟨T2, h2, X2, e2, W2, st2⟩ := putF X1 hx hZ hown (host := "") (Or.inl (own_w hw 19 rfl)) Via.refl e1 fp1 fp0 (Or.inl (own_w hw 20 rfl)) (own_w hw 11 rfl) (ty := .int) (by decide) rfl rfl (g := (mkF m 11 #[rv a1, rv wa, iv 1, .unset] [(.int 4), (.ref a1)])) rfl rfl (hb hby d3_11)
  have N2 := Fr.snoc X2 N0 g_a1
  have c3 : Fld Z h2 a1 own_C "end" "I" (.int 4) := fp1.same W2
  have c4 : Exa Z h2 a1 own_C := fp0.wr W2
  have c6 : Fld Z h2 a1 own_C "keys" "[J" .null := fp2.other W2 (Or.inr (slot_ne (Or.inl (own_w hw 22 rfl)) (Or.inl (own_w hw 20 rfl)) (by decide) (t := (.array .long)) (t' := .int) (by decide) (by decide)))
  have c7 : Fld Z h2 a1 own_C "nodes" "[I" .null := fp3.other W2 (Or.inr (slot_ne (Or.inl (own_w hw 46 rfl)) (Or.inl (own_w hw 20 rfl)) (by decide) (t := (.array .int)) (t' := .int) (by decide) (by decide)))
  have c8 : own_Arj Z h2 wa [wt0] := fp4.other W2 ne_wa_a1
  have K2 : Keep h0 h2 [a1] := (Keep.refl h0 [a1]).wr W2 (Or.inl (List.mem_of_getElem? (i := 0) rfl))
  refine own_step st2 ?_
  refine own_al X2.here hx rfl (hb hby d3_14) rfl rfl ?_
  refine own_al X2.here hx rfl (hb hby d3_15) rfl rfl ?_
  obtain ⟨T9, X9, e9, st9⟩ := getF X2 hx hZ hown (host := "") (Or.inl (own_w hw 19 rfl)) Via.refl e2 c3 (g := (mkF m 16 #[rv a1, rv wa, iv 1, .unset] [(.ref a1), (.ref a1)])) rfl rfl (hb hby d3_16)
  refine own_step st9 ?_
  refine own_ic X9.here hx rfl (hb hby d3_19) ?_
  show own_G p.tables e below _ (T9.setTop (mkF m 20 #[rv a1, rv wa, iv 1, .unset] [(.int 4), (.int 4), (.ref a1)]))
  refine own_step (fun t k => XS.iadd X9.here hx rfl (hb hby d3_20) rfl k) ?_
  refine own_ic X9.here hx rfl (hb hby d3_21) ?_
  refine own_step (fun t k => XS.isub X9.here hx rfl (hb hby d3_22) rfl k) ?_
  obtain ⟨T10, h10, k10, X10, e10, E10, A10, st10⟩ := newP X9 hx hZ (own_w hw 5 rfl) e9 (g := (mkF m 23 #[rv a1, rv wa, iv 1, .unset] [(.int 7), (.ref a1)])) rfl (hb hby d3_23) rfl (by decide) (cap := 7) (by decide) (by decide) (by decide) (by decide)
  obtain ⟨b10, g10⟩ : ∃ z, z = h2.size := ⟨_, rfl⟩
  have ne11 : a1 ≠ b10 := Nat.ne_of_lt (Nat.lt_of_lt_of_le c4.lt (Nat.le_of_eq g10.symm))
  have ne12 : wa ≠ b10 := Nat.ne_of_lt (Nat.lt_of_lt_of_le c8.lt (Nat.le_of_eq g10.symm))
  have sz10 : h0.size ≤ b10 := Nat.le_trans K2.1 (Nat.le_of_eq g10.symm)
  have ge10 : n0 ≤ b10 := Nat.le_trans Z0 sz10
  have c13 : Exa Z h10 a1 own_C := c4.ext E10
  have c14 : Fld Z h10 a1 own_C "end" "I" (.int 4) := c3.ext E10
  have c15 : Fld Z h10 a1 own_C "keys" "[J" .null := c6.ext E10
  have c16 : Fld Z h10 a1 own_C "nodes" "[I" .null := c7.ext E10
  have c17 : own_Arj Z h10 wa [wt0] := c8.ext E10
  have K10 : Keep h0 h10 [a1] := K2.ext E10
  rw [← g10] at A10 st10
  have c18 : own_Arj Z h10 b10 [0, 0, 0, 0, 0, 0, 0] := own_Arj_new A10 (by decide)
  refine own_step st10 ?_
  obtain ⟨T19, h19, X19, e19, W19, st19⟩ := putF X10 hx hZ hown (host := "") (Or.inl (own_w hw 21 rfl)) Via.refl e10 c15 c13 (Or.inl (own_w hw 22 rfl)) (own_w hw 11 rfl) (ty := (.array .long)) (by decide) rfl rfl (g := (mkF m 25 #[rv a1, rv wa, iv 1, .unset] [(.ref b10), (.ref a1)])) rfl rfl (hb hby d3_25)
  have N19 := Fr.snoc X19 N2 g_a1
  have c20 : Fld Z h19 a1 own_C "keys" "[J" (.ref b10) := c15.same W19
  have c21 : Exa Z h19 a1 own_C := c13.wr W19
  have c22 : Fld Z h19 a1 own_C "end" "I" (.int 4) := c14.other W19 (Or.inr (slot_ne (Or.inl (own_w hw 20 rfl)) (Or.inl (own_w hw 22 rfl)) (by decide) (t := .int) (t' := (.array .long)) (by decide) (by decide)))
  have c24 : Fld Z h19 a1 own_C "nodes" "[I" .null := c16.other W19 (Or.inr (slot_ne (Or.inl (own_w hw 46 rfl)) (Or.inl (own_w hw 22 rfl)) (by decide) (t := (.array .int)) (t' := (.array .long)) (by decide) (by decide)))
  have c25 : own_Arj Z h19 wa [wt0] := c17.other W19 ne_wa_a1
  have c26 : own_Arj Z h19 b10 [0, 0, 0, 0, 0, 0, 0] := c18.other W19 (Ne.symm ne11)
  have K19 : Keep h0 h19 [a1] := K10.wr W19 (Or.inl (List.mem_of_getElem? (i := 0) rfl))
  refine own_step st19 ?_
  refine own_al X19.here hx rfl (hb hby d3_28) rfl rfl ?_
  obtain ⟨_, _, ⟨T27, L27, k27, n27⟩, -, X27, ⟨Lc27, hQ27, l27, y27, z27⟩, st27⟩ := Jvm.LawKit.callS X19 hx (y := own_y5) hown (mvT hZ (own_w hw 23 rfl)) (mvT hZ (own_w hw 24 rfl)) (mvT hZ (own_w hw 12 rfl)) (mvT hZ (own_w hw 25 rfl)) (by decide) (backOf (W := 0) (rm5_n1 l Z a0 hw [] wa wt0 h19 n0 (Nat.le_trans Z0 K19.1) c25) hZ (own_w hw 25 rfl) (own_w hw 12 rfl) (by decide) (by decide)) (g := (mkF m 29 #[rv a1, rv wa, iv 1, .unset] [(.ref wa)])) rfl (by rw [hml]; rfl) (argsL := [(.ref wa)]) (rest := []) (lenOf pd_3_p1_0 rfl) rfl (own_wl rfl) (hb hby d3_29) (fun _ _ => ⟨rfl, e19, (by decide : 1 + 0 ≤ _), (by decide : 7 + 0 ≤ _)⟩)
  dsimp only [Pt.U, Pt.locs, Pt.cells, Pt.slots] at X27 l27 y27 z27 st27 hQ27
  subst y27 z27
  obtain ⟨rfl, N27q, e27⟩ := hQ27
  have N27 : Fr n0 L27 := by rw [l27]; exact Fr.app N19 N27q
  refine own_step st27 ?_
  clear A10 E10 K10 K2 N19 N2 N27q W19 W2 X1 X10 X19 X2 X9 c13 c14 c15 c16 c17 c18 c3 c4 c6 c7 c8 e1 e10 e19 e2 e9 g10 st1 st10 st19 st2 st27 st9
  show own_G p.tables e below _ (T27.setTop (mkF m 32 #[rv a1, rv wa, iv 1, .unset] [(.int (own_f5_n1 wt0))]))
  have hk28 : ¬ ((own_f5_n1 wt0) = (0 : Int32)) := (by rw [hpk]; decide)
  refine own_step (fun t k => XS.ifNo X27.here hx rfl (hb hby d3_32) rfl ((if0 _ _).trans (feq hk28).1) k) ?_
  show own_G p.tables e below _ (T27.setTop (mkF m 35 #[rv a1, rv wa, iv 1, .unset] []))
  refine own_ic X27.here hx rfl (hb hby d3_35) ?_
  refine own_step (fun t k => XS.istoreN X27.here hx rfl (hb hby d3_36) rfl (l' := #[rv a1, rv wa, iv 1, iv 0]) rfl k) ?_
  refine own_il X27.here hx rfl (hb hby d3_37) rfl ?_
  refine own_il X27.here hx rfl (hb hby d3_38) rfl ?_
  have hk29 : (0 : Int32) < (1 : Int32) := (by decide)
  refine own_step (fun t k => XS.icmpNo X27.here hx rfl (hb hby d3_39) rfl ((tlt hk29).2.1) k) ?_
  show own_G p.tables e below _ (T27.setTop (mkF m 42 #[rv a1, rv wa, iv 1, iv 0] []))
  refine own_al X27.here hx rfl (hb hby d3_42) rfl rfl ?_
  obtain ⟨T30, X30, e30, st30⟩ := getF X27 hx hZ hown (host := "") (Or.inl (own_w hw 21 rfl)) Via.refl e27 c20 (g := (mkF m 43 #[rv a1, rv wa, iv 1, iv 0] [(.ref a1)])) rfl rfl (hb hby d3_43)
  refine own_step st30 ?_
  refine own_ic X30.here hx rfl (hb hby d3_46) ?_
  refine own_il X30.here hx rfl (hb hby d3_47) rfl ?_
  refine own_step (fun t k => XS.iadd X30.here hx rfl (hb hby d3_48) rfl k) ?_
  refine own_al X30.here hx rfl (hb hby d3_49) rfl rfl ?_
  refine own_il X30.here hx rfl (hb hby d3_50) rfl ?_
  show own_G p.tables e below _ (T30.setTop (mkF m 51 #[rv a1, rv wa, iv 1, iv 0] [(.int 0), (.ref wa), (.int 3), (.ref b10)]))
  refine own_step (own_laload X30 hx hZ e30 c25 (own_inb (by decide) (Nat.le_of_ble_eq_true rfl)) (g := (mkF m 51 #[rv a1, rv wa, iv 1, iv 0] [(.int 0), (.ref wa), (.int 3), (.ref b10)])) rfl rfl (hb hby d3_51)) ?_
  refine own_il X30.here hx rfl (hb hby d3_52) rfl ?_
  obtain ⟨_, _, ⟨T31, L31, k31, n31⟩, -, X31, ⟨Lc31, hQ31, l31, y31, z31⟩, st31⟩ := Jvm.LawKit.callS X30 hx (y := own_y6) hown (mvT hZ (own_w hw 27 rfl)) (mvT hZ (own_w hw 28 rfl)) (mvT hZ (own_w hw 12 rfl)) (mvT hZ (own_w hw 29 rfl)) (by decide) (backOf (W := 2) (rm6 l Z a0 hw [] wt0 (0 : Int32) h19 n0 (Nat.le_trans Z0 K19.1) ) hZ (own_w hw 29 rfl) (own_w hw 12 rfl) (by decide) (by decide)) (g := (mkF m 53 #[rv a1, rv wa, iv 1, iv 0] [(.int 0), (.long wt0), (.int 3), (.ref b10)])) rfl (by rw [hml]; rfl) (argsL := [(.long wt0), (.int 0)]) (rest := [(.int 3), (.ref b10)]) (lenOf pd_3_p1_1 rfl) rfl (own_wl rfl) (hb hby d3_53) (fun _ _ => ⟨rfl, e30, (by decide : 1 + 0 ≤ _), (by decide : 7 + 0 ≤ _)⟩)
  dsimp only [Pt.U, Pt.locs, Pt.cells, Pt.slots] at X31 l31 y31 z31 st31 hQ31
  subst y31 z31
  obtain ⟨rfl, N31q, e31⟩ := hQ31
  have N31 : Fr n0 L31 := by rw [l31]; exact Fr.app N27 N31q
  refine own_step st31 ?_
  obtain ⟨T32, h32, X32, e32, W32, c32, st32⟩ := own_lastore X31 hx hZ e31 c26 (own_inb (by decide) (Nat.le_of_ble_eq_true rfl)) (g := (mkF m 56 #[rv a1, rv wa, iv 1, iv 0] [(.long (own_pk wt0 (0 : Int32))), (.int 3), (.ref b10)])) rfl rfl (hb hby d3_56)
  have N32 := Fr.snoc X32 N31 ge10
  have c33 : own_Arj Z h32 b10 [0, 0, 0, (own_pk wt0 (0 : Int32)), 0, 0, 0] := c32
  have c34 : Exa Z h32 a1 own_C := c21.wr W32
  have c35 : Fld Z h32 a1 own_C "end" "I" (.int 4) := c22.other W32 (Or.inl ne11)
  have c36 : Fld Z h32 a1 own_C "keys" "[J" (.ref b10) := c20.other W32 (Or.inl ne11)
  have c37 : Fld Z h32 a1 own_C "nodes" "[I" .null := c24.other W32 (Or.inl ne11)
  have c38 : own_Arj Z h32 wa [wt0] := c25.other W32 ne12
  have K32 : Keep h0 h32 [a1] := K19.wr W32 (Or.inr sz10)
  refine own_step st32 ?_
  refine own_step (fun t k => XS.iinc X32.here hx rfl (hb hby d3_57) rfl (l' := #[rv a1, rv wa, iv 1, iv 1]) rfl k) ?_
  refine own_go X32.here hx rfl (pc0 := 60) (pc' := 37) rfl (hb hby d3_60) (by decide) (by decide) ?_
  refine own_il X32.here hx rfl (hb hby d3_37) rfl ?_
  clear K19 N27 N31 N31q W32 X27 X30 X31 c20 c21 c22 c24 c25 c26 c32 e27 e30 e31 hk28 hk29 st30 st31 st32
  show own_G p.tables e below _ (T32.setTop (mkF m 38 #[rv a1, rv wa, iv 1, iv 1] [(.int 1)]))
  refine own_il X32.here hx rfl (hb hby d3_38) rfl ?_
  have hk40 : ¬ ((1 : Int32) < (1 : Int32)) := (by decide)
  refine own_step (fun t k => XS.icmpYes X32.here hx rfl (pc0 := 39) (pc' := 63) rfl (hb hby d3_39) rfl ((flt hk40).2.1) (by decide) (by decide) k) ?_
  show own_G p.tables e below _ (T32.setTop (mkF m 63 #[rv a1, rv wa, iv 1, iv 1] []))
  refine own_al X32.here hx rfl (hb hby d3_63) rfl rfl ?_
  obtain ⟨T41, X41, e41, st41⟩ := getF X32 hx hZ hown (host := "") (Or.inl (own_w hw 21 rfl)) Via.refl e32 c36 (g := (mkF m 64 #[rv a1, rv wa, iv 1, iv 1] [(.ref a1)])) rfl rfl (hb hby d3_64)
  refine own_step st41 ?_
  refine own_al X41.here hx rfl (hb hby d3_67) rfl rfl ?_
  obtain ⟨T42, X42, e42, st42⟩ := getF X41 hx hZ hown (host := "") (Or.inl (own_w hw 19 rfl)) Via.refl e41 c35 (g := (mkF m 68 #[rv a1, rv wa, iv 1, iv 1] [(.ref a1), (.ref b10)])) rfl rfl (hb hby d3_68)
  refine own_step st42 ?_
  refine own_al X42.here hx rfl (hb hby d3_71) rfl rfl ?_
  obtain ⟨T43, X43, e43, st43⟩ := getF X42 hx hZ hown (host := "") (Or.inl (own_w hw 21 rfl)) Via.refl e42 c36 (g := (mkF m 72 #[rv a1, rv wa, iv 1, iv 1] [(.ref a1), (.int 4), (.ref b10)])) rfl rfl (hb hby d3_72)
  refine own_step st43 ?_
  refine own_step (own_lenJ X43 hx hZ e43 c33 (g := (mkF m 75 #[rv a1, rv wa, iv 1, iv 1] [(.ref b10), (.int 4), (.ref b10)])) rfl rfl (hb hby d3_75)) ?_
  clear X32 X41 X42 e32 e41 e42 hk40 st41 st42 st43
  show own_G p.tables e below _ (T43.setTop (mkF m 76 #[rv a1, rv wa, iv 1, iv 1] [(.int 7), (.int 4), (.ref b10)]))
  refine own_step (X43.ldc2Long hx hown (mvT hZ (own_w hw 30 rfl)) (g := (mkF m 76 #[rv a1, rv wa, iv 1, iv 1] [(.int 7), (.int 4), (.ref b10)])) rfl (hb hby d3_76)) ?_
  obtain ⟨_, _, ⟨T44, L44, k44, n44⟩, -, X44, ⟨Lc44, hQ44, l44, y44, z44⟩, st44⟩ := Jvm.LawKit.callS X43 hx (y := own_y7) hown (mvT hZ (own_w hw 31 rfl)) (mvT hZ (own_w hw 32 rfl)) (mvT hZ (own_w hw 33 rfl)) (mvT hZ (own_w hw 34 rfl)) (by decide) (backOf (W := 0) (rm7_n1 l Z a0 hw [] b10 (9223372036854775807 : Int64) (0 : Int64) (0 : Int64) (0 : Int64) (own_pk wt0 (0 : Int32)) (0 : Int64) (0 : Int64) (0 : Int64) h32 n0 (Nat.le_trans Z0 K32.1) c33 ge10) hZ (own_w hw 34 rfl) (own_w hw 33 rfl) (by decide) (by decide)) (g := (mkF m 79 #[rv a1, rv wa, iv 1, iv 1] [(.long 9223372036854775807), (.int 7), (.int 4), (.ref b10)])) rfl (by rw [hml]; rfl) (argsL := [(.ref b10), (.int 4), (.int 7), (.long 9223372036854775807)]) (rest := []) (lenOf pd_3_p1_2 rfl) rfl (own_wl rfl) (hb hby d3_79) (fun _ _ => ⟨rfl, e43, (by decide : 1 + 0 ≤ _), (by decide : 7 + 0 ≤ _)⟩)
  dsimp only [Pt.U, Pt.locs, Pt.cells, Pt.slots] at X44 l44 y44 z44 st44 hQ44
  subst y44 z44
  obtain ⟨rfl, N44q, K44q, w44_0⟩ := hQ44
  have c45 : Exa Z T44.heap a1 own_C := c34.keep K44q
  have c46 : Fld Z T44.heap a1 own_C "end" "I" (.int 4) := c35.keep K44q (ninS ne11 nin0)
  have c47 : Fld Z T44.heap a1 own_C "keys" "[J" (.ref b10) := c36.keep K44q (ninS ne11 nin0)
  have c48 : Fld Z T44.heap a1 own_C "nodes" "[I" .null := c37.keep K44q (ninS ne11 nin0)
  have c49 : own_Arj Z T44.heap wa [wt0] := c38.keep K44q (ninS ne12 nin0)
  have K44 : Keep h0 T44.heap [a1] := K32.trans K44q (allS (Or.inr sz10) all0)
  have N44 : Fr n0 L44 := by rw [l44]; exact Fr.app N32 N44q
  refine own_step st44 ?_
  refine own_go X44.here hx rfl (pc0 := 82) (pc' := 129) rfl (hb hby d3_82) (by decide) (by decide) ?_
  refine own_al X44.here hx rfl (hb hby d3_129) rfl rfl ?_
  obtain ⟨T51, X51, e51, st51⟩ := getF X44 hx hZ hown (host := "") (Or.inl (own_w hw 19 rfl)) Via.refl rfl c46 (g := (mkF m 130 #[rv a1, rv wa, iv 1, iv 1] [(.ref a1)])) rfl rfl (hb hby d3_130)
  refine own_step st51 ?_
  refine own_ic X51.here hx rfl (hb hby d3_133) ?_
  refine own_step (fun t k => XS.isub X51.here hx rfl (hb hby d3_134) rfl k) ?_
  clear K32 K44q N32 N44q X43 X44 c33 c34 c35 c36 c37 c38 e43 st44 st51
  show own_G p.tables e below _ (T51.setTop (mkF m 135 #[rv a1, rv wa, iv 1, iv 1] [(.int 3)]))
  obtain ⟨_, _, ⟨T52, L52, k52, n52⟩, -, X52, ⟨Lc52, hQ52, l52, y52, z52⟩, st52⟩ := Jvm.LawKit.callS X51 hx (y := own_y9) hown (mvT hZ (own_w hw 38 rfl)) (mvT hZ (own_w hw 39 rfl)) (mvT hZ (own_w hw 12 rfl)) (mvT hZ (own_w hw 40 rfl)) (by decide) (backOf (W := 0) (rm9 l Z a0 hw [] (3 : Int32) T44.heap n0 (Nat.le_trans Z0 K44.1) ) hZ (own_w hw 40 rfl) (own_w hw 12 rfl) (by decide) (by decide)) (g := (mkF m 135 #[rv a1, rv wa, iv 1, iv 1] [(.int 3)])) rfl (by rw [hml]; rfl) (argsL := [(.int 3)]) (rest := []) (lenOf pd_3_p1_3 rfl) rfl (own_wl rfl) (hb hby d3_135) (fun _ _ => ⟨rfl, e51, (by decide : 1 + 0 ≤ _), (by decide : 7 + 0 ≤ _)⟩)
  dsimp only [Pt.U, Pt.locs, Pt.cells, Pt.slots] at X52 l52 y52 z52 st52 hQ52
  subst y52 z52
  obtain ⟨rfl, N52q, e52⟩ := hQ52
  have N52 : Fr n0 L52 := by rw [l52]; exact Fr.app N44 N52q
  refine own_step st52 ?_
  show own_G p.tables e below _ (T52.setTop (mkF m 138 #[rv a1, rv wa, iv 1, iv 1] [(.int 2)]))
  refine own_step (fun t k => XS.istoreN X52.here hx rfl (hb hby d3_138) rfl (l' := #[rv a1, rv wa, iv 1, iv 2]) rfl k) ?_
  refine own_il X52.here hx rfl (hb hby d3_139) rfl ?_
  refine own_ic X52.here hx rfl (hb hby d3_140) ?_
  have hk53 : (2 : Int32) < (3 : Int32) := (by decide)
  refine own_step (fun t k => XS.icmpYes X52.here hx rfl (pc0 := 141) (pc' := 161) rfl (hb hby d3_141) rfl ((tlt hk53).1) (by decide) (by decide) k) ?_
  show own_G p.tables e below _ (T52.setTop (mkF m 161 #[rv a1, rv wa, iv 1, iv 2] []))
  obtain ⟨fs, hr, hrun, hended, hW, hsame⟩ := X52.leave (v := none) (fun _ => rfl)
  refine own_done (X52.returnOut hx Bd.returns (hb hby d3_161) hr) hrun hended ⟨_, _, rfl, ?_, ⟨_, rfl⟩, hW, hsame.mono (by decide) (by decide)⟩
  show Q3_p1 Z a1 wa wt0 h0 n0 _ T52.heap _
  rw [e52]
  exact ⟨b10, _, rfl, N52, K44, c46, c47, c48, w44_0, sz10, (by have hbq0 := own_f5b_n1 hpk; exact ⟨rfl, own_U (own_R_pk (i := 0) hnn0 hbq0 (by decide) (by decide))⟩)⟩
theorem d15_0 : decode prog_20_method_6_code 0 = .ok (.aload_n 0, 1) := by decide +kernel
theorem d15_1 : decode prog_20_method_6_code 1 = .ok (.getfield 35, 3) := by decide +kernel
theorem d15_4 : decode prog_20_method_6_code 4 = .ok (.ifnonnull 15, 3) := by decide +kernel
theorem d15_7 : decode prog_20_method_6_code 7 = .ok (.aload_n 0, 1) := by decide +kernel
theorem d15_8 : decode prog_20_method_6_code 8 = .ok (.getfield 15, 3) := by decide +kernel
theorem d15_11 : decode prog_20_method_6_code 11 = .ok (.iconst 3, 1) := by decide +kernel
theorem d15_12 : decode prog_20_method_6_code 12 = .ok (.laload, 1) := by decide +kernel
theorem d15_13 : decode prog_20_method_6_code 13 = .ok (.bipush 31, 2) := by decide +kernel
theorem d15_15 : decode prog_20_method_6_code 15 = .ok (.lushr, 1) := by decide +kernel
theorem d15_16 : decode prog_20_method_6_code 16 = .ok (.goto 9, 3) := by decide +kernel
theorem d15_25 : decode prog_20_method_6_code 25 = .ok (.lreturn, 1) := by decide +kernel
theorem pn_15_p : plainName "com/example/leafcode/leafcode/FourWayHeap" = true := by first | (simp [plainName, overriddenIn]; done) | decide +kernel
theorem ef_15_p (m : MethodId) (a1 : Addr) : entryFrame m #[(.ref a1)] 1 = mkF m 0 #[rv a1] [] := by first | (simp [entryFrame, mkF, argsToLocals, Value.category]; done) | rfl
def Q15_p (Z : State) (a1 : Addr) (ky : Addr) (vs : List Int64) (h0 : Heap) (n0 : Nat) (v : Option Value) (h : Heap) (L : List Loc) : Prop := v = some (.long (own_ush (vs.getD 3 0))) ∧ Fr n0 L ∧ h = h0
set_option maxRecDepth 65536 in
set_option maxHeartbeats 40000000 in
theorem rm15_p (l : Launch) (Z : State) (a0 : Array Value) (hw : ∀ d ∈ tables_1, d.before a0 Z = true) (ws : List Jvm.Cond) (a1 : Addr) (ky : Addr) (vs : List Int64) (h0 : Heap) (n0 : Nat) (Z0 : n0 ≤ h0.size) (fp0 : Fld Z h0 a1 own_C "keys" "[J" (.ref ky)) (fp1 : Fld Z h0 a1 own_C "nodes" "[I" .null) (fp2 : own_Arj Z h0 ky vs) (hbd3 : own_Inb (3 : Int32) vs.length) :
    MetFree l (⟨"com/example/leafcode/leafcode/FourWayHeap", "minWeight", "()J"⟩ : MethodName) (head1 (Jvm.Cond.code (⟨"com/example/leafcode/leafcode/FourWayHeap", "minWeight", "()J"⟩ : MethodName) prog_20_method_6_code 1 (some .long) :: ws) ({ frames := 0, cells := 0, slots := 0, locals := 0 } : Room)) (fun a U => a = #[(.ref a1)] ∧ Z.Warmed39 U.vm ∧ U.heap = h0) (fun _ _ _ _ _ => True) (fun _ U o U' => ∃ v L, o = .returned v ∧ Q15_p Z a1 ky vs h0 n0 v U'.heap L ∧ FrameEnd U o U' L ({ frames := 0, cells := 0, slots := 0, locals := 0 } : Room).cells ({ frames := 0, cells := 0, slots := 0, locals := 0 } : Room).slots) := by
  refine MetFree.of_bodySF (plainFor_of_name pn_15_p) hisR ?_
  intro p e s m args below meth c s₁ Bd hml0 hP hK
  obtain ⟨rfl, hZ, hh⟩ := hP
  have hx := Bd.exec
  have hby := Bd.bytes
  have hml : c.maxLocals = 1 := hml0
  have hown : s.vm.findClass "com/example/leafcode/leafcode/FourWayHeap" = some m.cls := findClass_of_methodNamed Bd.named
  have hnm := (name_of_methodNamed Bd.named Bd.method).1
  have X0 : Stand p l e ({ frames := 0, cells := 0, slots := 0, locals := 0 } : Room) s m #[(.ref a1)] below meth c s₁ [] 0 0 := Stand.of_body Bd
  have e0 : s₁.heap = h0 := by rw [← hh, Bd.state]; rfl
  have N0 := Fr.nil n0
  refine own_start (fun t k => castTop (ef_15_p m a1) k) ?_
  show own_G p.tables e below _ (s₁.setTop (mkF m 0 #[rv a1] []))
  refine own_al X0.here hx rfl (hb hby d15_0) rfl rfl ?_
  obtain ⟨T1, X1, e1, st1⟩ := getF X0 hx hZ hown (host := "") (Or.inl (own_w hw 45 rfl)) Via.refl e0 fp1 (g := (mkF m 1 #[rv a1] [(.ref a1)])) rfl rfl (hb hby d15_1)
  refine own_step st1 ?_
  refine own_step (fun t k => XS.ifnonnullNo X1.here hx rfl (hb hby d15_4) rfl k) ?_
  refine own_al X1.here hx rfl (hb hby d15_7) rfl rfl ?_
  obtain ⟨T2, X2, e2, st2⟩ := getF X1 hx hZ hown (host := "") (Or.inl (own_w hw 21 rfl)) Via.refl e1 fp0 (g := (mkF m 8 #[rv a1] [(.ref a1)])) rfl rfl (hb hby d15_8)
  refine own_step st2 ?_
  refine own_ic X2.here hx rfl (hb hby d15_11) ?_
  refine own_step (own_laload X2 hx hZ e2 fp2 hbd3 (g := (mkF m 12 #[rv a1] [(.int 3), (.ref ky)])) rfl rfl (hb hby d15_12)) ?_
  show own_G p.tables e below _ (T2.setTop (mkF m 13 #[rv a1] [(.long (vs.getD 3 0))]))
  refine own_step (fun t k => XS.bipush X2.here hx rfl (hb hby d15_13) k) ?_
  refine own_step (fun t k => XS.lushr X2.here hx rfl (hb hby d15_15) rfl k) ?_
  refine own_go X2.here hx rfl (pc0 := 16) (pc' := 25) rfl (hb hby d15_16) (by decide) (by decide) ?_
  obtain ⟨fs, hr, hrun, hended, hW, hsame⟩ := X2.leave (v := some (.long (((vs.getD 3 0).toUInt64 >>> ((31 : Int32) &&& 0x3f).toInt64.toUInt64).toInt64))) (fun h => by rw [Bd.returns] at h; cases h)
  refine own_done (own_retJ X2 hx Bd.returns (hb hby d15_25) hr) hrun hended ⟨_, _, rfl, ?_, ⟨_, rfl⟩, hW, hsame.mono (by decide) (by decide)⟩
  show Q15_p Z a1 ky vs h0 n0 _ T2.heap _
  rw [e2]
  exact ⟨congrArg (fun z => some (Value.long z)) (show (((vs.getD 3 0).toUInt64 >>> ((31 : Int32) &&& 0x3f).toInt64.toUInt64).toInt64) = (own_ush (vs.getD 3 0)) from rfl), N0, rfl⟩
theorem d3_85 : decode prog_20_method_1_code 85 = .ok (.aload_n 0, 1) := by decide +kernel
theorem d3_86 : decode prog_20_method_1_code 86 = .ok (.aload_n 0, 1) := by decide +kernel
theorem d3_87 : decode prog_20_method_1_code 87 = .ok (.getfield 15, 3) := by decide +kernel
theorem d3_90 : decode prog_20_method_1_code 90 = .ok (.arraylength, 1) := by decide +kernel
theorem d3_91 : decode prog_20_method_1_code 91 = .ok (.newarray .int, 2) := by decide +kernel
theorem d3_93 : decode prog_20_method_1_code 93 = .ok (.putfield 35, 3) := by decide +kernel
theorem d3_96 : decode prog_20_method_1_code 96 = .ok (.aload_n 1, 1) := by decide +kernel
theorem d3_97 : decode prog_20_method_1_code 97 = .ok (.iconst 0, 1) := by decide +kernel
theorem d3_98 : decode prog_20_method_1_code 98 = .ok (.aload_n 0, 1) := by decide +kernel
theorem d3_99 : decode prog_20_method_1_code 99 = .ok (.getfield 15, 3) := by decide +kernel
theorem d3_102 : decode prog_20_method_1_code 102 = .ok (.iconst 3, 1) := by decide +kernel
theorem d3_103 : decode prog_20_method_1_code 103 = .ok (.iload_n 2, 1) := by decide +kernel
theorem d3_104 : decode prog_20_method_1_code 104 = .ok (.invokestatic 39, 3) := by decide +kernel
theorem d3_107 : decode prog_20_method_1_code 107 = .ok (.iconst 0, 1) := by decide +kernel
theorem d3_108 : decode prog_20_method_1_code 108 = .ok (.istore_n 3, 1) := by decide +kernel
theorem d3_109 : decode prog_20_method_1_code 109 = .ok (.iload_n 3, 1) := by decide +kernel
theorem d3_110 : decode prog_20_method_1_code 110 = .ok (.iload_n 2, 1) := by decide +kernel
theorem d3_111 : decode prog_20_method_1_code 111 = .ok (.if_icmp .ge 18, 3) := by decide +kernel
theorem d3_114 : decode prog_20_method_1_code 114 = .ok (.aload_n 0, 1) := by decide +kernel
theorem d3_115 : decode prog_20_method_1_code 115 = .ok (.getfield 35, 3) := by decide +kernel
theorem d3_118 : decode prog_20_method_1_code 118 = .ok (.iconst 3, 1) := by decide +kernel
theorem d3_119 : decode prog_20_method_1_code 119 = .ok (.iload_n 3, 1) := by decide +kernel
theorem d3_120 : decode prog_20_method_1_code 120 = .ok (.iadd, 1) := by decide +kernel
theorem d3_121 : decode prog_20_method_1_code 121 = .ok (.iload_n 3, 1) := by decide +kernel
theorem d3_122 : decode prog_20_method_1_code 122 = .ok (.iastore, 1) := by decide +kernel
theorem d3_123 : decode prog_20_method_1_code 123 = .ok (.iinc 3 1, 3) := by decide +kernel
theorem d3_126 : decode prog_20_method_1_code 126 = .ok (.goto (-17), 3) := by decide +kernel
theorem pn_3_u1 : plainName "com/example/leafcode/leafcode/FourWayHeap" = true := by first | (simp [plainName, overriddenIn]; done) | decide +kernel
theorem pd_3_u1_0 : parseMethodDescriptor "([J)Z" = some ⟨[(.array .long)], some .boolean⟩ := by decide +kernel
theorem pd_3_u1_1 : parseMethodDescriptor "(I)I" = some ⟨[.int], some .int⟩ := by decide +kernel
theorem ef_3_u1 (m : MethodId) (a1 : Addr) (wa : Addr) : entryFrame m #[(.ref a1), (.ref wa)] 4 = mkF m 0 #[rv a1, rv wa, .unset, .unset] [] := by first | (simp [entryFrame, mkF, argsToLocals, Value.category]; done) | rfl
def Q3_u1 (Z : State) (a1 : Addr) (wa : Addr) (wt0 : Int64) (h0 : Heap) (n0 : Nat) (v : Option Value) (h : Heap) (L : List Loc) : Prop := ∃ (x1 : Addr) (x2 : Addr) (L_x1 : List Int64) (L_x2 : List Int32), v = none ∧ Fr n0 L ∧ Keep h0 h [a1] ∧ Fld Z h a1 own_C "end" "I" (.int 4) ∧ Fld Z h a1 own_C "keys" "[J" (.ref x1) ∧ Fld Z h a1 own_C "nodes" "[I" (.ref x2) ∧ own_Arj Z h x1 L_x1 ∧ own_Ari Z h x2 .int L_x2 ∧ h0.size ≤ x1 ∧ h0.size ≤ x2 ∧ x1 ≠ x2 ∧ (L_x1.length = 7 ∧ (L_x1.getD 3 0).toInt = wt0.toInt) ∧ (True)
set_option maxRecDepth 65536 in
set_option maxHeartbeats 40000000 in
theorem rm3_u1 (l : Launch) (Z : State) (a0 : Array Value) (hw : ∀ d ∈ tables_1, d.before a0 Z = true) (ws : List Jvm.Cond) (a1 : Addr) (wa : Addr) (wt0 : Int64) (h0 : Heap) (n0 : Nat) (Z0 : n0 ≤ h0.size) (fp0 : Exa Z h0 a1 own_C) (fp1 : Fld Z h0 a1 own_C "end" "I" (.int 0)) (fp2 : Fld Z h0 a1 own_C "keys" "[J" .null) (fp3 : Fld Z h0 a1 own_C "nodes" "[I" .null) (fp4 : own_Arj Z h0 wa [wt0]) (hpk : own_f5_n1 wt0 = 0) (g_a1 : n0 ≤ a1) (ne_wa_a1 : wa ≠ a1) :
    MetFree l (⟨"com/example/leafcode/leafcode/FourWayHeap", "<init>", "([J)V"⟩ : MethodName) (head1 (Jvm.Cond.code (⟨"com/example/leafcode/leafcode/FourWayHeap", "<init>", "([J)V"⟩ : MethodName) prog_20_method_1_code 4 none :: ws) ({ frames := 1, cells := 2, slots := 14, locals := 18 } : Room)) (fun a U => a = #[(.ref a1), (.ref wa)] ∧ Z.Warmed39 U.vm ∧ U.heap = h0) (fun _ _ _ _ _ => True) (fun _ U o U' => ∃ v L, o = .returned v ∧ Q3_u1 Z a1 wa wt0 h0 n0 v U'.heap L ∧ FrameEnd U o U' L ({ frames := 1, cells := 2, slots := 14, locals := 18 } : Room).cells ({ frames := 1, cells := 2, slots := 14, locals := 18 } : Room).slots) := by
  refine MetFree.of_bodySF (plainFor_of_name pn_3_u1) hisR ?_
  intro p e s m args below meth c s₁ Bd hml0 hP hK
  obtain ⟨rfl, hZ, hh⟩ := hP
  have hx := Bd.exec
  have hby := Bd.bytes
  have hml : c.maxLocals = 4 := hml0
  have hown : s.vm.findClass "com/example/leafcode/leafcode/FourWayHeap" = some m.cls := findClass_of_methodNamed Bd.named
  have hnm := (name_of_methodNamed Bd.named Bd.method).1
  have X0 : Stand p l e ({ frames := 1, cells := 2, slots := 14, locals := 18 } : Room) s m #[(.ref a1), (.ref wa)] below meth c s₁ [] 0 0 := Stand.of_body Bd
  have e0 : s₁.heap = h0 := by rw [← hh, Bd.state]; rfl
  have N0 := Fr.nil n0
  refine own_start (fun t k => castTop (ef_3_u1 m a1 wa) k) ?_
  show own_G p.tables e below _ (s₁.setTop (mkF m 0 #[rv a1, rv wa, .unset, .unset] []))
  refine own_al X0.here hx rfl (hb hby d3_0) rfl rfl ?_
  obtain ⟨T1, X1, e1, st1⟩ := initO X0 hx hZ hown (own_w hw 16 rfl) (own_w hw 17 rfl) (own_w hw 18 rfl) e0 (g := (mkF m 1 #[rv a1, rv wa, .unset, .unset] [(.ref a1)])) rfl (by rw [hml]; rfl) rfl (hb hby d3_1) (by decide) (W := 0) (by show 2 * 0 + _ ≤ _; exact Nat.le_of_eq rfl) (by decide)
  refine own_step st1 ?_
  refine own_al X1.here hx rfl (hb hby d3_4) rfl rfl ?_
  refine own_step (own_lenJ X1 hx hZ e1 fp4 (g := (mkF m 5 #[rv a1, rv wa, .unset, .unset] [(.ref wa)])) rfl rfl (hb hby d3_5)) ?_
  refine own_step (fun t k => XS.istoreN X1.here hx rfl (hb hby d3_6) rfl (l' := #[rv a1, rv wa, iv 1, .unset]) rfl k) ?_
  refine own_al X1.here hx rfl (hb hby d3_7) rfl rfl ?_
  refine own_ic X1.here hx rfl (hb hby d3_8) ?_
  show own_G p.tables e below _ (T1.setTop (mkF m 9 #[rv a1, rv wa, iv 1, .unset] [(.int 3), (.ref a1)]))
  refine own_il X1.here hx rfl (hb hby d3_9) rfl ?_
  refine own_step (fun t k => XS.iadd X1.here hx rfl (hb hby d3_10) rfl k) ?_
  obtain ⟨T2, h2, X2, e2, W2, st2⟩ := putF X1 hx hZ hown (host := "") (Or.inl (own_w hw 19 rfl)) Via.refl e1 fp1 fp0 (Or.inl (own_w hw 20 rfl)) (own_w hw 11 rfl) (ty := .int) (by decide) rfl rfl (g := (mkF m 11 #[rv a1, rv wa, iv 1, .unset] [(.int 4), (.ref a1)])) rfl rfl (hb hby d3_11)
  have N2 := Fr.snoc X2 N0 g_a1
  have c3 : Fld Z h2 a1 own_C "end" "I" (.int 4) := fp1.same W2
  have c4 : Exa Z h2 a1 own_C := fp0.wr W2
  have c6 : Fld Z h2 a1 own_C "keys" "[J" .null := fp2.other W2 (Or.inr (slot_ne (Or.inl (own_w hw 22 rfl)) (Or.inl (own_w hw 20 rfl)) (by decide) (t := (.array .long)) (t' := .int) (by decide) (by decide)))
  have c7 : Fld Z h2 a1 own_C "nodes" "[I" .null := fp3.other W2 (Or.inr (slot_ne (Or.inl (own_w hw 46 rfl)) (Or.inl (own_w hw 20 rfl)) (by decide) (t := (.array .int)) (t' := .int) (by decide) (by decide)))
  have c8 : own_Arj Z h2 wa [wt0] := fp4.other W2 ne_wa_a1
  have K2 : Keep h0 h2 [a1] := (Keep.refl h0 [a1]).wr W2 (Or.inl (List.mem_of_getElem? (i := 0) rfl))
  refine own_step st2 ?_
  refine own_al X2.here hx rfl (hb hby d3_14) rfl rfl ?_
  refine own_al X2.here hx rfl (hb hby d3_15) rfl rfl ?_
  obtain ⟨T9, X9, e9, st9⟩ := getF X2 hx hZ hown (host := "") (Or.inl (own_w hw 19 rfl)) Via.refl e2 c3 (g := (mkF m 16 #[rv a1, rv wa, iv 1, .unset] [(.ref a1), (.ref a1)])) rfl rfl (hb hby d3_16)
  refine own_step st9 ?_
  refine own_ic X9.here hx rfl (hb hby d3_19) ?_
  show own_G p.tables e below _ (T9.setTop (mkF m 20 #[rv a1, rv wa, iv 1, .unset] [(.int 4), (.int 4), (.ref a1)]))
  refine own_step (fun t k => XS.iadd X9.here hx rfl (hb hby d3_20) rfl k) ?_
  refine own_ic X9.here hx rfl (hb hby d3_21) ?_
  refine own_step (fun t k => XS.isub X9.here hx rfl (hb hby d3_22) rfl k) ?_
  obtain ⟨T10, h10, k10, X10, e10, E10, A10, st10⟩ := newP X9 hx hZ (own_w hw 5 rfl) e9 (g := (mkF m 23 #[rv a1, rv wa, iv 1, .unset] [(.int 7), (.ref a1)])) rfl (hb hby d3_23) rfl (by decide) (cap := 7) (by decide) (by decide) (by decide) (by decide)
  obtain ⟨b10, g10⟩ : ∃ z, z = h2.size := ⟨_, rfl⟩
  have ne11 : a1 ≠ b10 := Nat.ne_of_lt (Nat.lt_of_lt_of_le c4.lt (Nat.le_of_eq g10.symm))
  have ne12 : wa ≠ b10 := Nat.ne_of_lt (Nat.lt_of_lt_of_le c8.lt (Nat.le_of_eq g10.symm))
  have sz10 : h0.size ≤ b10 := Nat.le_trans K2.1 (Nat.le_of_eq g10.symm)
  have ge10 : n0 ≤ b10 := Nat.le_trans Z0 sz10
  have c13 : Exa Z h10 a1 own_C := c4.ext E10
  have c14 : Fld Z h10 a1 own_C "end" "I" (.int 4) := c3.ext E10
  have c15 : Fld Z h10 a1 own_C "keys" "[J" .null := c6.ext E10
  have c16 : Fld Z h10 a1 own_C "nodes" "[I" .null := c7.ext E10
  have c17 : own_Arj Z h10 wa [wt0] := c8.ext E10
  have K10 : Keep h0 h10 [a1] := K2.ext E10
  rw [← g10] at A10 st10
  have c18 : own_Arj Z h10 b10 [0, 0, 0, 0, 0, 0, 0] := own_Arj_new A10 (by decide)
  refine own_step st10 ?_
  obtain ⟨T19, h19, X19, e19, W19, st19⟩ := putF X10 hx hZ hown (host := "") (Or.inl (own_w hw 21 rfl)) Via.refl e10 c15 c13 (Or.inl (own_w hw 22 rfl)) (own_w hw 11 rfl) (ty := (.array .long)) (by decide) rfl rfl (g := (mkF m 25 #[rv a1, rv wa, iv 1, .unset] [(.ref b10), (.ref a1)])) rfl rfl (hb hby d3_25)
  have N19 := Fr.snoc X19 N2 g_a1
  have c20 : Fld Z h19 a1 own_C "keys" "[J" (.ref b10) := c15.same W19
  have c21 : Exa Z h19 a1 own_C := c13.wr W19
  have c22 : Fld Z h19 a1 own_C "end" "I" (.int 4) := c14.other W19 (Or.inr (slot_ne (Or.inl (own_w hw 20 rfl)) (Or.inl (own_w hw 22 rfl)) (by decide) (t := .int) (t' := (.array .long)) (by decide) (by decide)))
  have c24 : Fld Z h19 a1 own_C "nodes" "[I" .null := c16.other W19 (Or.inr (slot_ne (Or.inl (own_w hw 46 rfl)) (Or.inl (own_w hw 22 rfl)) (by decide) (t := (.array .int)) (t' := (.array .long)) (by decide) (by decide)))
  have c25 : own_Arj Z h19 wa [wt0] := c17.other W19 ne_wa_a1
  have c26 : own_Arj Z h19 b10 [0, 0, 0, 0, 0, 0, 0] := c18.other W19 (Ne.symm ne11)
  have K19 : Keep h0 h19 [a1] := K10.wr W19 (Or.inl (List.mem_of_getElem? (i := 0) rfl))
  refine own_step st19 ?_
  refine own_al X19.here hx rfl (hb hby d3_28) rfl rfl ?_
  obtain ⟨_, _, ⟨T27, L27, k27, n27⟩, -, X27, ⟨Lc27, hQ27, l27, y27, z27⟩, st27⟩ := Jvm.LawKit.callS X19 hx (y := own_y5) hown (mvT hZ (own_w hw 23 rfl)) (mvT hZ (own_w hw 24 rfl)) (mvT hZ (own_w hw 12 rfl)) (mvT hZ (own_w hw 25 rfl)) (by decide) (backOf (W := 0) (rm5_n1 l Z a0 hw [] wa wt0 h19 n0 (Nat.le_trans Z0 K19.1) c25) hZ (own_w hw 25 rfl) (own_w hw 12 rfl) (by decide) (by decide)) (g := (mkF m 29 #[rv a1, rv wa, iv 1, .unset] [(.ref wa)])) rfl (by rw [hml]; rfl) (argsL := [(.ref wa)]) (rest := []) (lenOf pd_3_u1_0 rfl) rfl (own_wl rfl) (hb hby d3_29) (fun _ _ => ⟨rfl, e19, (by decide : 1 + 0 ≤ _), (by decide : 7 + 0 ≤ _)⟩)
  dsimp only [Pt.U, Pt.locs, Pt.cells, Pt.slots] at X27 l27 y27 z27 st27 hQ27
  subst y27 z27
  obtain ⟨rfl, N27q, e27⟩ := hQ27
  have N27 : Fr n0 L27 := by rw [l27]; exact Fr.app N19 N27q
  refine own_step st27 ?_
  clear A10 E10 K10 K2 N19 N2 N27q W19 W2 X1 X10 X19 X2 X9 c13 c14 c15 c16 c17 c18 c3 c4 c6 c7 c8 e1 e10 e19 e2 e9 g10 st1 st10 st19 st2 st27 st9
  show own_G p.tables e below _ (T27.setTop (mkF m 32 #[rv a1, rv wa, iv 1, .unset] [(.int (own_f5_n1 wt0))]))
  have hk28 : (own_f5_n1 wt0) = (0 : Int32) := hpk
  refine own_step (fun t k => XS.ifYes X27.here hx rfl (pc0 := 32) (pc' := 85) rfl (hb hby d3_32) rfl ((if0 _ _).trans (teq hk28).1) (by decide) (by decide) k) ?_
  show own_G p.tables e below _ (T27.setTop (mkF m 85 #[rv a1, rv wa, iv 1, .unset] []))
  refine own_al X27.here hx rfl (hb hby d3_85) rfl rfl ?_
  refine own_al X27.here hx rfl (hb hby d3_86) rfl rfl ?_
  obtain ⟨T29, X29, e29, st29⟩ := getF X27 hx hZ hown (host := "") (Or.inl (own_w hw 21 rfl)) Via.refl e27 c20 (g := (mkF m 87 #[rv a1, rv wa, iv 1, .unset] [(.ref a1), (.ref a1)])) rfl rfl (hb hby d3_87)
  refine own_step st29 ?_
  refine own_step (own_lenJ X29 hx hZ e29 c26 (g := (mkF m 90 #[rv a1, rv wa, iv 1, .unset] [(.ref b10), (.ref a1)])) rfl rfl (hb hby d3_90)) ?_
  obtain ⟨T30, h30, k30, X30, e30, E30, A30, st30⟩ := newP X29 hx hZ (own_w hw 68 rfl) e29 (g := (mkF m 91 #[rv a1, rv wa, iv 1, .unset] [(.int 7), (.ref a1)])) rfl (hb hby d3_91) rfl (by decide) (cap := 7) (by decide) (by decide) (by decide) (by decide)
  obtain ⟨b30, g30⟩ : ∃ z, z = h19.size := ⟨_, rfl⟩
  have ne31 : a1 ≠ b30 := Nat.ne_of_lt (Nat.lt_of_lt_of_le c21.lt (Nat.le_of_eq g30.symm))
  have ne32 : wa ≠ b30 := Nat.ne_of_lt (Nat.lt_of_lt_of_le c25.lt (Nat.le_of_eq g30.symm))
  have ne33 : b10 ≠ b30 := Nat.ne_of_lt (Nat.lt_of_lt_of_le c26.lt (Nat.le_of_eq g30.symm))
  have sz30 : h0.size ≤ b30 := Nat.le_trans K19.1 (Nat.le_of_eq g30.symm)
  have ge30 : n0 ≤ b30 := Nat.le_trans Z0 sz30
  have c34 : Exa Z h30 a1 own_C := c21.ext E30
  have c35 : Fld Z h30 a1 own_C "end" "I" (.int 4) := c22.ext E30
  have c36 : Fld Z h30 a1 own_C "keys" "[J" (.ref b10) := c20.ext E30
  have c37 : Fld Z h30 a1 own_C "nodes" "[I" .null := c24.ext E30
  have c38 : own_Arj Z h30 wa [wt0] := c25.ext E30
  have c39 : own_Arj Z h30 b10 [0, 0, 0, 0, 0, 0, 0] := c26.ext E30
  have K30 : Keep h0 h30 [a1] := K19.ext E30
  rw [← g30] at A30 st30
  have c40 : own_Ari Z h30 b30 .int [0, 0, 0, 0, 0, 0, 0] := own_Ari_new (ty := .int) A30 (by decide) rfl
  refine own_step st30 ?_
  obtain ⟨T41, h41, X41, e41, W41, st41⟩ := putF X30 hx hZ hown (host := "") (Or.inl (own_w hw 45 rfl)) Via.refl e30 c37 c34 (Or.inl (own_w hw 46 rfl)) (own_w hw 11 rfl) (ty := (.array .int)) (by decide) rfl rfl (g := (mkF m 93 #[rv a1, rv wa, iv 1, .unset] [(.ref b30), (.ref a1)])) rfl rfl (hb hby d3_93)
  have N41 := Fr.snoc X41 N27 g_a1
  have c42 : Fld Z h41 a1 own_C "nodes" "[I" (.ref b30) := c37.same W41
  have c43 : Exa Z h41 a1 own_C := c34.wr W41
  have c44 : Fld Z h41 a1 own_C "end" "I" (.int 4) := c35.other W41 (Or.inr (slot_ne (Or.inl (own_w hw 20 rfl)) (Or.inl (own_w hw 46 rfl)) (by decide) (t := .int) (t' := (.array .int)) (by decide) (by decide)))
  have c45 : Fld Z h41 a1 own_C "keys" "[J" (.ref b10) := c36.other W41 (Or.inr (slot_ne (Or.inl (own_w hw 22 rfl)) (Or.inl (own_w hw 46 rfl)) (by decide) (t := (.array .long)) (t' := (.array .int)) (by decide) (by decide)))
  have c47 : own_Arj Z h41 wa [wt0] := c38.other W41 ne_wa_a1
  have c48 : own_Arj Z h41 b10 [0, 0, 0, 0, 0, 0, 0] := c39.other W41 (Ne.symm ne11)
  have c49 : own_Ari Z h41 b30 .int [0, 0, 0, 0, 0, 0, 0] := c40.other W41 (Ne.symm ne31)
  have K41 : Keep h0 h41 [a1] := K30.wr W41 (Or.inl (List.mem_of_getElem? (i := 0) rfl))
  refine own_step st41 ?_
  refine own_al X41.here hx rfl (hb hby d3_96) rfl rfl ?_
  clear A30 E30 K19 K30 N27 W41 X27 X29 X30 c20 c21 c22 c24 c25 c26 c34 c35 c36 c37 c38 c39 c40 e27 e29 e30 g30 hk28 st29 st30 st41
  show own_G p.tables e below _ (T41.setTop (mkF m 97 #[rv a1, rv wa, iv 1, .unset] [(.ref wa)]))
  refine own_ic X41.here hx rfl (hb hby d3_97) ?_
  refine own_al X41.here hx rfl (hb hby d3_98) rfl rfl ?_
  obtain ⟨T50, X50, e50, st50⟩ := getF X41 hx hZ hown (host := "") (Or.inl (own_w hw 21 rfl)) Via.refl e41 c45 (g := (mkF m 99 #[rv a1, rv wa, iv 1, .unset] [(.ref a1), (.int 0), (.ref wa)])) rfl rfl (hb hby d3_99)
  refine own_step st50 ?_
  refine own_ic X50.here hx rfl (hb hby d3_102) ?_
  refine own_il X50.here hx rfl (hb hby d3_103) rfl ?_
  obtain ⟨T51, h51, L51, X51, e51, N51, K51q, A51, st51⟩ := own_cpJ X50 hx hZ hown (own_w hw 69 rfl) (own_w hw 72 rfl) (own_w hw 70 rfl) (own_w hw 71 rfl) e50 c47 c48 (by decide) (by decide) (by decide) (Nat.le_of_ble_eq_true rfl) (Nat.le_of_ble_eq_true rfl) N41 ge10 (g := (mkF m 104 #[rv a1, rv wa, iv 1, .unset] [(.int 1), (.int 3), (.ref b10), (.int 0), (.ref wa)])) rfl (by rw [hml]; rfl) rfl (hb hby d3_104) (by decide) (W := 0) (by show 2 * 0 + _ ≤ _; exact Nat.le_of_eq rfl) (by decide)
  have c52 : Exa Z h51 a1 own_C := c43.keep K51q
  have c53 : Fld Z h51 a1 own_C "end" "I" (.int 4) := c44.keep K51q (ninS ne11 nin0)
  have c54 : Fld Z h51 a1 own_C "keys" "[J" (.ref b10) := c45.keep K51q (ninS ne11 nin0)
  have c55 : Fld Z h51 a1 own_C "nodes" "[I" (.ref b30) := c42.keep K51q (ninS ne11 nin0)
  have c56 : own_Arj Z h51 wa [wt0] := c47.keep K51q (ninS ne12 nin0)
  have c58 : own_Ari Z h51 b30 .int [0, 0, 0, 0, 0, 0, 0] := c49.keep K51q (ninS (Ne.symm ne33) nin0)
  have c59 : own_Arj Z h51 b10 [0, 0, 0, wt0, 0, 0, 0] := A51
  have K51 : Keep h0 h51 [a1] := K41.trans K51q (allS (Or.inr sz10) all0)
  refine own_step st51 ?_
  refine own_ic X51.here hx rfl (hb hby d3_107) ?_
  clear A51 K41 K51q N41 X41 X50 c42 c43 c44 c45 c47 c48 c49 e41 e50 st50 st51
  show own_G p.tables e below _ (T51.setTop (mkF m 108 #[rv a1, rv wa, iv 1, .unset] [(.int 0)]))
  refine own_step (fun t k => XS.istoreN X51.here hx rfl (hb hby d3_108) rfl (l' := #[rv a1, rv wa, iv 1, iv 0]) rfl k) ?_
  refine own_il X51.here hx rfl (hb hby d3_109) rfl ?_
  refine own_il X51.here hx rfl (hb hby d3_110) rfl ?_
  have hk60 : (0 : Int32) < (1 : Int32) := (by decide)
  refine own_step (fun t k => XS.icmpNo X51.here hx rfl (hb hby d3_111) rfl ((tlt hk60).2.1) k) ?_
  show own_G p.tables e below _ (T51.setTop (mkF m 114 #[rv a1, rv wa, iv 1, iv 0] []))
  refine own_al X51.here hx rfl (hb hby d3_114) rfl rfl ?_
  obtain ⟨T61, X61, e61, st61⟩ := getF X51 hx hZ hown (host := "") (Or.inl (own_w hw 45 rfl)) Via.refl e51 c55 (g := (mkF m 115 #[rv a1, rv wa, iv 1, iv 0] [(.ref a1)])) rfl rfl (hb hby d3_115)
  refine own_step st61 ?_
  refine own_ic X61.here hx rfl (hb hby d3_118) ?_
  refine own_il X61.here hx rfl (hb hby d3_119) rfl ?_
  refine own_step (fun t k => XS.iadd X61.here hx rfl (hb hby d3_120) rfl k) ?_
  refine own_il X61.here hx rfl (hb hby d3_121) rfl ?_
  obtain ⟨T62, h62, X62, e62, W62, c62, st62⟩ := own_iastore X61 hx hZ e61 c58 (own_inb (by decide) (Nat.le_of_ble_eq_true rfl)) (g := (mkF m 122 #[rv a1, rv wa, iv 1, iv 0] [(.int 0), (.int 3), (.ref b30)])) rfl rfl (hb hby d3_122)
  have N62 := Fr.snoc X62 N51 ge30
  have c63 : own_Ari Z h62 b30 .int [0, 0, 0, 0, 0, 0, 0] := c62
  have c64 : Exa Z h62 a1 own_C := c52.wr W62
  have c65 : Fld Z h62 a1 own_C "end" "I" (.int 4) := c53.other W62 (Or.inl ne31)
  have c66 : Fld Z h62 a1 own_C "keys" "[J" (.ref b10) := c54.other W62 (Or.inl ne31)
  have c67 : Fld Z h62 a1 own_C "nodes" "[I" (.ref b30) := c55.other W62 (Or.inl ne31)
  have c68 : own_Arj Z h62 wa [wt0] := c56.other W62 ne32
  have c69 : own_Arj Z h62 b10 [0, 0, 0, wt0, 0, 0, 0] := c59.other W62 ne33
  have K62 : Keep h0 h62 [a1] := K51.wr W62 (Or.inr sz30)
  refine own_step st62 ?_
  clear K51 N51 W62 X51 X61 c52 c53 c54 c55 c56 c58 c59 c62 e51 e61 hk60 st61 st62
  show own_G p.tables e below _ (T62.setTop (mkF m 123 #[rv a1, rv wa, iv 1, iv 0] []))
  refine own_step (fun t k => XS.iinc X62.here hx rfl (hb hby d3_123) rfl (l' := #[rv a1, rv wa, iv 1, iv 1]) rfl k) ?_
  refine own_go X62.here hx rfl (pc0 := 126) (pc' := 109) rfl (hb hby d3_126) (by decide) (by decide) ?_
  refine own_il X62.here hx rfl (hb hby d3_109) rfl ?_
  refine own_il X62.here hx rfl (hb hby d3_110) rfl ?_
  have hk71 : ¬ ((1 : Int32) < (1 : Int32)) := (by decide)
  refine own_step (fun t k => XS.icmpYes X62.here hx rfl (pc0 := 111) (pc' := 129) rfl (hb hby d3_111) rfl ((flt hk71).2.1) (by decide) (by decide) k) ?_
  show own_G p.tables e below _ (T62.setTop (mkF m 129 #[rv a1, rv wa, iv 1, iv 1] []))
  refine own_al X62.here hx rfl (hb hby d3_129) rfl rfl ?_
  obtain ⟨T72, X72, e72, st72⟩ := getF X62 hx hZ hown (host := "") (Or.inl (own_w hw 19 rfl)) Via.refl e62 c65 (g := (mkF m 130 #[rv a1, rv wa, iv 1, iv 1] [(.ref a1)])) rfl rfl (hb hby d3_130)
  refine own_step st72 ?_
  refine own_ic X72.here hx rfl (hb hby d3_133) ?_
  refine own_step (fun t k => XS.isub X72.here hx rfl (hb hby d3_134) rfl k) ?_
  obtain ⟨_, _, ⟨T73, L73, k73, n73⟩, -, X73, ⟨Lc73, hQ73, l73, y73, z73⟩, st73⟩ := Jvm.LawKit.callS X72 hx (y := own_y9) hown (mvT hZ (own_w hw 38 rfl)) (mvT hZ (own_w hw 39 rfl)) (mvT hZ (own_w hw 12 rfl)) (mvT hZ (own_w hw 40 rfl)) (by decide) (backOf (W := 0) (rm9 l Z a0 hw [] (3 : Int32) h62 n0 (Nat.le_trans Z0 K62.1) ) hZ (own_w hw 40 rfl) (own_w hw 12 rfl) (by decide) (by decide)) (g := (mkF m 135 #[rv a1, rv wa, iv 1, iv 1] [(.int 3)])) rfl (by rw [hml]; rfl) (argsL := [(.int 3)]) (rest := []) (lenOf pd_3_u1_1 rfl) rfl (own_wl rfl) (hb hby d3_135) (fun _ _ => ⟨rfl, e72, (by decide : 2 + 0 ≤ _), (by decide : 14 + 0 ≤ _)⟩)
  dsimp only [Pt.U, Pt.locs, Pt.cells, Pt.slots] at X73 l73 y73 z73 st73 hQ73
  subst y73 z73
  obtain ⟨rfl, N73q, e73⟩ := hQ73
  have N73 : Fr n0 L73 := by rw [l73]; exact Fr.app N62 N73q
  refine own_step st73 ?_
  show own_G p.tables e below _ (T73.setTop (mkF m 138 #[rv a1, rv wa, iv 1, iv 1] [(.int 2)]))
  refine own_step (fun t k => XS.istoreN X73.here hx rfl (hb hby d3_138) rfl (l' := #[rv a1, rv wa, iv 1, iv 2]) rfl k) ?_
  refine own_il X73.here hx rfl (hb hby d3_139) rfl ?_
  refine own_ic X73.here hx rfl (hb hby d3_140) ?_
  have hk74 : (2 : Int32) < (3 : Int32) := (by decide)
  refine own_step (fun t k => XS.icmpYes X73.here hx rfl (pc0 := 141) (pc' := 161) rfl (hb hby d3_141) rfl ((tlt hk74).1) (by decide) (by decide) k) ?_
  clear N62 N73q X62 X72 e62 e72 hk71 hk74 st72 st73
  show own_G p.tables e below _ (T73.setTop (mkF m 161 #[rv a1, rv wa, iv 1, iv 2] []))
  obtain ⟨fs, hr, hrun, hended, hW, hsame⟩ := X73.leave (v := none) (fun _ => rfl)
  refine own_done (X73.returnOut hx Bd.returns (hb hby d3_161) hr) hrun hended ⟨_, _, rfl, ?_, ⟨_, rfl⟩, hW, hsame.mono (by decide) (by decide)⟩
  show Q3_u1 Z a1 wa wt0 h0 n0 _ T73.heap _
  rw [e73]
  exact ⟨b10, b30, _, _, rfl, N73, K62, c65, c66, c67, c69, c63, sz10, sz30, ne33, (⟨rfl, rfl⟩), (trivial)⟩
theorem d15_19 : decode prog_20_method_6_code 19 = .ok (.aload_n 0, 1) := by decide +kernel
theorem d15_20 : decode prog_20_method_6_code 20 = .ok (.getfield 15, 3) := by decide +kernel
theorem d15_23 : decode prog_20_method_6_code 23 = .ok (.iconst 3, 1) := by decide +kernel
theorem d15_24 : decode prog_20_method_6_code 24 = .ok (.laload, 1) := by decide +kernel
theorem pn_15_u : plainName "com/example/leafcode/leafcode/FourWayHeap" = true := by first | (simp [plainName, overriddenIn]; done) | decide +kernel
theorem ef_15_u (m : MethodId) (a1 : Addr) : entryFrame m #[(.ref a1)] 1 = mkF m 0 #[rv a1] [] := by first | (simp [entryFrame, mkF, argsToLocals, Value.category]; done) | rfl
def Q15_u (Z : State) (a1 : Addr) (ky : Addr) (nd : Addr) (vs : List Int64) (h0 : Heap) (n0 : Nat) (v : Option Value) (h : Heap) (L : List Loc) : Prop := v = some (.long (vs.getD 3 0)) ∧ Fr n0 L ∧ h = h0
set_option maxRecDepth 65536 in
set_option maxHeartbeats 40000000 in
theorem rm15_u (l : Launch) (Z : State) (a0 : Array Value) (hw : ∀ d ∈ tables_1, d.before a0 Z = true) (ws : List Jvm.Cond) (a1 : Addr) (ky : Addr) (nd : Addr) (vs : List Int64) (h0 : Heap) (n0 : Nat) (Z0 : n0 ≤ h0.size) (fp0 : Fld Z h0 a1 own_C "keys" "[J" (.ref ky)) (fp1 : Fld Z h0 a1 own_C "nodes" "[I" (.ref nd)) (fp2 : own_Arj Z h0 ky vs) (hbd3 : own_Inb (3 : Int32) vs.length) :
    MetFree l (⟨"com/example/leafcode/leafcode/FourWayHeap", "minWeight", "()J"⟩ : MethodName) (head1 (Jvm.Cond.code (⟨"com/example/leafcode/leafcode/FourWayHeap", "minWeight", "()J"⟩ : MethodName) prog_20_method_6_code 1 (some .long) :: ws) ({ frames := 0, cells := 0, slots := 0, locals := 0 } : Room)) (fun a U => a = #[(.ref a1)] ∧ Z.Warmed39 U.vm ∧ U.heap = h0) (fun _ _ _ _ _ => True) (fun _ U o U' => ∃ v L, o = .returned v ∧ Q15_u Z a1 ky nd vs h0 n0 v U'.heap L ∧ FrameEnd U o U' L ({ frames := 0, cells := 0, slots := 0, locals := 0 } : Room).cells ({ frames := 0, cells := 0, slots := 0, locals := 0 } : Room).slots) := by
  refine MetFree.of_bodySF (plainFor_of_name pn_15_u) hisR ?_
  intro p e s m args below meth c s₁ Bd hml0 hP hK
  obtain ⟨rfl, hZ, hh⟩ := hP
  have hx := Bd.exec
  have hby := Bd.bytes
  have hml : c.maxLocals = 1 := hml0
  have hown : s.vm.findClass "com/example/leafcode/leafcode/FourWayHeap" = some m.cls := findClass_of_methodNamed Bd.named
  have hnm := (name_of_methodNamed Bd.named Bd.method).1
  have X0 : Stand p l e ({ frames := 0, cells := 0, slots := 0, locals := 0 } : Room) s m #[(.ref a1)] below meth c s₁ [] 0 0 := Stand.of_body Bd
  have e0 : s₁.heap = h0 := by rw [← hh, Bd.state]; rfl
  have N0 := Fr.nil n0
  refine own_start (fun t k => castTop (ef_15_u m a1) k) ?_
  show own_G p.tables e below _ (s₁.setTop (mkF m 0 #[rv a1] []))
  refine own_al X0.here hx rfl (hb hby d15_0) rfl rfl ?_
  obtain ⟨T1, X1, e1, st1⟩ := getF X0 hx hZ hown (host := "") (Or.inl (own_w hw 45 rfl)) Via.refl e0 fp1 (g := (mkF m 1 #[rv a1] [(.ref a1)])) rfl rfl (hb hby d15_1)
  refine own_step st1 ?_
  refine own_step (fun t k => XS.ifnonnullYes X1.here hx rfl (pc0 := 4) (pc' := 19) rfl (hb hby d15_4) rfl (by decide) (by decide) k) ?_
  refine own_al X1.here hx rfl (hb hby d15_19) rfl rfl ?_
  obtain ⟨T2, X2, e2, st2⟩ := getF X1 hx hZ hown (host := "") (Or.inl (own_w hw 21 rfl)) Via.refl e1 fp0 (g := (mkF m 20 #[rv a1] [(.ref a1)])) rfl rfl (hb hby d15_20)
  refine own_step st2 ?_
  refine own_ic X2.here hx rfl (hb hby d15_23) ?_
  refine own_step (own_laload X2 hx hZ e2 fp2 hbd3 (g := (mkF m 24 #[rv a1] [(.int 3), (.ref ky)])) rfl rfl (hb hby d15_24)) ?_
  show own_G p.tables e below _ (T2.setTop (mkF m 25 #[rv a1] [(.long (vs.getD 3 0))]))
  obtain ⟨fs, hr, hrun, hended, hW, hsame⟩ := X2.leave (v := some (.long (vs.getD 3 0))) (fun h => by rw [Bd.returns] at h; cases h)
  refine own_done (own_retJ X2 hx Bd.returns (hb hby d15_25) hr) hrun hended ⟨_, _, rfl, ?_, ⟨_, rfl⟩, hW, hsame.mono (by decide) (by decide)⟩
  show Q15_u Z a1 ky nd vs h0 n0 _ T2.heap _
  rw [e2]
  exact ⟨congrArg (fun z => some (Value.long z)) (show (vs.getD 3 0) = (vs.getD 3 0) from rfl), N0, rfl⟩
theorem d1_13 : decode method_3_code 13 = .ok (.iload_n 0, 1) := by decide +kernel
theorem d1_14 : decode method_3_code 14 = .ok (.iconst 2, 1) := by decide +kernel
theorem d1_15 : decode method_3_code 15 = .ok (.if_icmp .ne 15, 3) := by decide +kernel
theorem d1_18 : decode method_3_code 18 = .ok (.iconst 2, 1) := by decide +kernel
theorem d1_19 : decode method_3_code 19 = .ok (.newarray .long, 2) := by decide +kernel
theorem d1_21 : decode method_3_code 21 = .ok (.dup, 1) := by decide +kernel
theorem d1_22 : decode method_3_code 22 = .ok (.iconst 0, 1) := by decide +kernel
theorem d1_23 : decode method_3_code 23 = .ok (.lload_n 1, 1) := by decide +kernel
theorem d1_24 : decode method_3_code 24 = .ok (.lastore, 1) := by decide +kernel
theorem d1_25 : decode method_3_code 25 = .ok (.dup, 1) := by decide +kernel
theorem d1_26 : decode method_3_code 26 = .ok (.iconst 1, 1) := by decide +kernel
theorem d1_27 : decode method_3_code 27 = .ok (.lload_n 3, 1) := by decide +kernel
theorem d1_28 : decode method_3_code 28 = .ok (.lastore, 1) := by decide +kernel
theorem d1_29 : decode method_3_code 29 = .ok (.areturn, 1) := by decide +kernel
theorem pn_1_n2 : plainName "com/example/leafcode/leafcode/FourWayHeapMinWeightPinLaw" = true := by first | (simp [plainName, overriddenIn]; done) | decide +kernel
theorem ef_1_n2 (m : MethodId) (wt0 : Int64) (wt1 : Int64) (wt2 : Int64) (wt3 : Int64) (wt4 : Int64) : entryFrame m #[(.int (2 : Int32)), (.long wt0), (.long wt1), (.long wt2), (.long wt3), (.long wt4)] 11 = mkF m 0 #[iv (2 : Int32), .val (.long wt0), .second, .val (.long wt1), .second, .val (.long wt2), .second, .val (.long wt3), .second, .val (.long wt4), .second] [] := by first | (simp [entryFrame, mkF, argsToLocals, Value.category]; done) | rfl
def Q1_n2 (Z : State) (wt0 : Int64) (wt1 : Int64) (wt2 : Int64) (wt3 : Int64) (wt4 : Int64) (h0 : Heap) (n0 : Nat) (v : Option Value) (h : Heap) (L : List Loc) : Prop := ∃ (rb : Addr), v = some (.ref rb) ∧ Fr n0 L ∧ Keep h0 h [] ∧ own_Arj Z h rb [wt0, wt1] ∧ h0.size ≤ rb
set_option maxRecDepth 65536 in
set_option maxHeartbeats 40000000 in
theorem rm1_n2 (l : Launch) (Z : State) (a0 : Array Value) (hw : ∀ d ∈ tables_1, d.before a0 Z = true) (ws : List Jvm.Cond) (wt0 : Int64) (wt1 : Int64) (wt2 : Int64) (wt3 : Int64) (wt4 : Int64) (h0 : Heap) (n0 : Nat) (Z0 : n0 ≤ h0.size) :
    MetFree l (⟨"com/example/leafcode/leafcode/FourWayHeapMinWeightPinLaw", "build", "(IJJJJJ)[J"⟩ : MethodName) (head1 (Jvm.Cond.code (⟨"com/example/leafcode/leafcode/FourWayHeapMinWeightPinLaw", "build", "(IJJJJJ)[J"⟩ : MethodName) method_3_code 11 (some (.array .long)) :: ws) ({ frames := 0, cells := 1, slots := 2, locals := 0 } : Room)) (fun a U => a = #[(.int (2 : Int32)), (.long wt0), (.long wt1), (.long wt2), (.long wt3), (.long wt4)] ∧ Z.Warmed39 U.vm ∧ U.heap = h0) (fun _ _ _ _ _ => True) (fun _ U o U' => ∃ v L, o = .returned v ∧ Q1_n2 Z wt0 wt1 wt2 wt3 wt4 h0 n0 v U'.heap L ∧ FrameEnd U o U' L ({ frames := 0, cells := 1, slots := 2, locals := 0 } : Room).cells ({ frames := 0, cells := 1, slots := 2, locals := 0 } : Room).slots) := by
  refine MetFree.of_bodySF (plainFor_of_name pn_1_n2) hisR ?_
  intro p e s m args below meth c s₁ Bd hml0 hP hK
  obtain ⟨rfl, hZ, hh⟩ := hP
  have hx := Bd.exec
  have hby := Bd.bytes
  have hml : c.maxLocals = 11 := hml0
  have hown : s.vm.findClass "com/example/leafcode/leafcode/FourWayHeapMinWeightPinLaw" = some m.cls := findClass_of_methodNamed Bd.named
  have hnm := (name_of_methodNamed Bd.named Bd.method).1
  have X0 : Stand p l e ({ frames := 0, cells := 1, slots := 2, locals := 0 } : Room) s m #[(.int (2 : Int32)), (.long wt0), (.long wt1), (.long wt2), (.long wt3), (.long wt4)] below meth c s₁ [] 0 0 := Stand.of_body Bd
  have e0 : s₁.heap = h0 := by rw [← hh, Bd.state]; rfl
  have N0 := Fr.nil n0
  refine own_start (fun t k => castTop (ef_1_n2 m wt0 wt1 wt2 wt3 wt4) k) ?_
  show own_G p.tables e below _ (s₁.setTop (mkF m 0 #[iv 2, .val (.long wt0), .second, .val (.long wt1), .second, .val (.long wt2), .second, .val (.long wt3), .second, .val (.long wt4), .second] []))
  refine own_il X0.here hx rfl (hb hby d1_0) rfl ?_
  refine own_ic X0.here hx rfl (hb hby d1_1) ?_
  have hk1 : ¬ ((2 : Int32) = (1 : Int32)) := (by decide)
  refine own_step (fun t k => XS.icmpYes X0.here hx rfl (pc0 := 2) (pc' := 13) rfl (hb hby d1_2) rfl ((feq hk1).2) (by decide) (by decide) k) ?_
  show own_G p.tables e below _ (s₁.setTop (mkF m 13 #[iv 2, .val (.long wt0), .second, .val (.long wt1), .second, .val (.long wt2), .second, .val (.long wt3), .second, .val (.long wt4), .second] []))
  refine own_il X0.here hx rfl (hb hby d1_13) rfl ?_
  refine own_ic X0.here hx rfl (hb hby d1_14) ?_
  have hk2 : (2 : Int32) = (2 : Int32) := rfl
  refine own_step (fun t k => XS.icmpNo X0.here hx rfl (hb hby d1_15) rfl ((teq hk2).2) k) ?_
  show own_G p.tables e below _ (s₁.setTop (mkF m 18 #[iv 2, .val (.long wt0), .second, .val (.long wt1), .second, .val (.long wt2), .second, .val (.long wt3), .second, .val (.long wt4), .second] []))
  refine own_ic X0.here hx rfl (hb hby d1_18) ?_
  obtain ⟨T3, h3, k3, X3, e3, E3, A3, st3⟩ := newP X0 hx hZ (own_w hw 5 rfl) e0 (g := (mkF m 19 #[iv 2, .val (.long wt0), .second, .val (.long wt1), .second, .val (.long wt2), .second, .val (.long wt3), .second, .val (.long wt4), .second] [(.int 2)])) rfl (hb hby d1_19) rfl (by decide) (cap := 2) (by decide) (by decide) (by decide) (by decide)
  obtain ⟨b3, g3⟩ : ∃ z, z = h0.size := ⟨_, rfl⟩
  have sz3 : h0.size ≤ b3 := Nat.le_trans (Keep.refl h0 []).1 (Nat.le_of_eq g3.symm)
  have ge3 : n0 ≤ b3 := Nat.le_trans Z0 sz3
  have K3 : Keep h0 h3 [] := (Keep.refl h0 []).ext E3
  rw [← g3] at A3 st3
  have c4 : own_Arj Z h3 b3 [0, 0] := own_Arj_new A3 (by decide)
  refine own_step st3 ?_
  refine own_step (fun t k => XS.dup X3.here hx rfl (hb hby d1_21) rfl rfl k) ?_
  refine own_ic X3.here hx rfl (hb hby d1_22) ?_
  refine own_step (fun t k => XS.lloadN X3.here hx rfl (hb hby d1_23) rfl k) ?_
  obtain ⟨T5, h5, X5, e5, W5, c5, st5⟩ := own_lastore X3 hx hZ e3 c4 (own_inb (by decide) (Nat.le_of_ble_eq_true rfl)) (g := (mkF m 24 #[iv 2, .val (.long wt0), .second, .val (.long wt1), .second, .val (.long wt2), .second, .val (.long wt3), .second, .val (.long wt4), .second] [(.long wt0), (.int 0), (.ref b3), (.ref b3)])) rfl rfl (hb hby d1_24)
  have N5 := Fr.snoc X5 N0 ge3
  have c6 : own_Arj Z h5 b3 [wt0, 0] := c5
  have K5 : Keep h0 h5 [] := K3.wr W5 (Or.inr sz3)
  refine own_step st5 ?_
  refine own_step (fun t k => XS.dup X5.here hx rfl (hb hby d1_25) rfl rfl k) ?_
  clear A3 E3 K3 W5 X3 c4 c5 e3 g3 hk1 hk2 st3 st5
  show own_G p.tables e below _ (T5.setTop (mkF m 26 #[iv 2, .val (.long wt0), .second, .val (.long wt1), .second, .val (.long wt2), .second, .val (.long wt3), .second, .val (.long wt4), .second] [(.ref b3), (.ref b3)]))
  refine own_ic X5.here hx rfl (hb hby d1_26) ?_
  refine own_step (fun t k => XS.lloadN X5.here hx rfl (hb hby d1_27) rfl k) ?_
  obtain ⟨T8, h8, X8, e8, W8, c8, st8⟩ := own_lastore X5 hx hZ e5 c6 (own_inb (by decide) (Nat.le_of_ble_eq_true rfl)) (g := (mkF m 28 #[iv 2, .val (.long wt0), .second, .val (.long wt1), .second, .val (.long wt2), .second, .val (.long wt3), .second, .val (.long wt4), .second] [(.long wt1), (.int 1), (.ref b3), (.ref b3)])) rfl rfl (hb hby d1_28)
  have N8 := Fr.snoc X8 N5 ge3
  have c9 : own_Arj Z h8 b3 [wt0, wt1] := c8
  have K8 : Keep h0 h8 [] := K5.wr W8 (Or.inr sz3)
  refine own_step st8 ?_
  obtain ⟨fs, hr, hrun, hended, hW, hsame⟩ := X8.leave (v := some (.ref b3)) (fun h => by rw [Bd.returns] at h; cases h)
  refine own_done (own_retA X8 hx Bd.returns (by decide) rfl (hb hby d1_29) hr) hrun hended ⟨_, _, rfl, ?_, ⟨_, rfl⟩, hW, hsame.mono (by decide) (by decide)⟩
  show Q1_n2 Z wt0 wt1 wt2 wt3 wt4 h0 n0 _ T8.heap _
  rw [e8]
  exact ⟨b3, rfl, N8, K8, c9, sz3⟩
theorem d2_0 : decode jdk_29_method_70_code 0 = .ok (.lload_n 0, 1) := by decide +kernel
theorem d2_1 : decode jdk_29_method_70_code 1 = .ok (.lload_n 2, 1) := by decide +kernel
theorem d2_2 : decode jdk_29_method_70_code 2 = .ok (.lcmp, 1) := by decide +kernel
theorem d2_3 : decode jdk_29_method_70_code 3 = .ok (.ifCond .gt 7, 3) := by decide +kernel
theorem d2_6 : decode jdk_29_method_70_code 6 = .ok (.lload_n 0, 1) := by decide +kernel
theorem d2_7 : decode jdk_29_method_70_code 7 = .ok (.goto 4, 3) := by decide +kernel
theorem d2_10 : decode jdk_29_method_70_code 10 = .ok (.lload_n 2, 1) := by decide +kernel
theorem d2_11 : decode jdk_29_method_70_code 11 = .ok (.lreturn, 1) := by decide +kernel
theorem ef_2 (m : MethodId) (xa : Int64) (xb : Int64) : entryFrame m #[(.long xa), (.long xb)] 4 = mkF m 0 #[.val (.long xa), .second, .val (.long xb), .second] [] := by first | (simp [entryFrame, mkF, argsToLocals, Value.category]; done) | rfl
def own_f2 (xa : Int64) (xb : Int64) : Int64 :=
  (if xb < xa then xb else xa)
theorem own_f2_int (a b : Int64) : (own_f2 a b).toInt = min a.toInt b.toInt := by
  unfold own_f2
  split <;> rename_i q <;> rw [Int64.lt_iff_toInt_lt] at q <;> omega
def Q2 (Z : State) (xa : Int64) (xb : Int64) (h0 : Heap) (n0 : Nat) (v : Option Value) (h : Heap) (L : List Loc) : Prop := v = some (.long (own_f2 xa xb)) ∧ Fr n0 L ∧ h = h0
set_option maxRecDepth 65536 in
set_option maxHeartbeats 40000000 in
theorem rm2 (l : Launch) (Z : State) (a0 : Array Value) (hw : ∀ d ∈ tables_1, d.before a0 Z = true) (ws : List Jvm.Cond) (xa : Int64) (xb : Int64) (h0 : Heap) (n0 : Nat) (Z0 : n0 ≤ h0.size) :
    MetFree l (⟨"java/lang/Math", "min", "(JJ)J"⟩ : MethodName) (head1 (Jvm.Cond.code (⟨"java/lang/Math", "min", "(JJ)J"⟩ : MethodName) jdk_29_method_70_code 4 (some .long) :: ws) ({ frames := 0, cells := 0, slots := 0, locals := 0 } : Room)) (fun a U => a = #[(.long xa), (.long xb)] ∧ Z.Warmed39 U.vm ∧ U.heap = h0) (fun _ _ _ _ _ => True) (fun _ U o U' => ∃ v L, o = .returned v ∧ Q2 Z xa xb h0 n0 v U'.heap L ∧ FrameEnd U o U' L ({ frames := 0, cells := 0, slots := 0, locals := 0 } : Room).cells ({ frames := 0, cells := 0, slots := 0, locals := 0 } : Room).slots) := by
  refine MetFree.of_bodySF (Jvm.Free.JP.mathPlain rfl (by decide +kernel)) hisR ?_
  intro p e s m args below meth c s₁ Bd hml0 hP hK
  obtain ⟨rfl, hZ, hh⟩ := hP
  have hx := Bd.exec
  have hby := Bd.bytes
  have hml : c.maxLocals = 4 := hml0
  have hown : s.vm.findClass "java/lang/Math" = some m.cls := findClass_of_methodNamed Bd.named
  have hnm := (name_of_methodNamed Bd.named Bd.method).1
  have X0 : Stand p l e ({ frames := 0, cells := 0, slots := 0, locals := 0 } : Room) s m #[(.long xa), (.long xb)] below meth c s₁ [] 0 0 := Stand.of_body Bd
  have e0 : s₁.heap = h0 := by rw [← hh, Bd.state]; rfl
  have N0 := Fr.nil n0
  refine own_start (fun t k => castTop (ef_2 m xa xb) k) ?_
  show own_G p.tables e below _ (s₁.setTop (mkF m 0 #[.val (.long xa), .second, .val (.long xb), .second] []))
  refine own_step (fun t k => XS.lloadN X0.here hx rfl (hb hby d2_0) rfl k) ?_
  refine own_step (fun t k => XS.lloadN X0.here hx rfl (hb hby d2_1) rfl k) ?_
  refine own_step (fun t k => XS.lcmp X0.here hx rfl (hb hby d2_2) rfl k) ?_
  by_cases hc1 : xb < xa
  · skip
    refine own_step (fun t k => XS.ifYes X0.here hx rfl (pc0 := 3) (pc' := 10) rfl (hb hby d2_3) rfl ((if0 _ _).trans (tlt ((lw_gt _ _).mpr hc1)).2.2.1) (by decide) (by decide) k) ?_
    show own_G p.tables e below _ (s₁.setTop (mkF m 10 #[.val (.long xa), .second, .val (.long xb), .second] []))
    refine own_step (fun t k => XS.lloadN X0.here hx rfl (hb hby d2_10) rfl k) ?_
    obtain ⟨fs, hr, hrun, hended, hW, hsame⟩ := X0.leave (v := some (.long xb)) (fun h => by rw [Bd.returns] at h; cases h)
    refine own_done (own_retJ X0 hx Bd.returns (hb hby d2_11) hr) hrun hended ⟨_, _, rfl, ?_, ⟨_, rfl⟩, hW, hsame.mono (by decide) (by decide)⟩
    show Q2 Z xa xb h0 n0 _ s₁.heap _
    rw [e0]
    exact ⟨congrArg (fun z => some (Value.long z)) (show xb = (own_f2 xa xb) from by unfold own_f2; simp only [if_pos hc1]), N0, rfl⟩
  · skip
    refine own_step (fun t k => XS.ifNo X0.here hx rfl (hb hby d2_3) rfl ((if0 _ _).trans (flt (fun q => hc1 ((lw_gt _ _).mp q))).2.2.1) k) ?_
    show own_G p.tables e below _ (s₁.setTop (mkF m 6 #[.val (.long xa), .second, .val (.long xb), .second] []))
    refine own_step (fun t k => XS.lloadN X0.here hx rfl (hb hby d2_6) rfl k) ?_
    refine own_go X0.here hx rfl (pc0 := 7) (pc' := 11) rfl (hb hby d2_7) (by decide) (by decide) ?_
    obtain ⟨fs, hr, hrun, hended, hW, hsame⟩ := X0.leave (v := some (.long xa)) (fun h => by rw [Bd.returns] at h; cases h)
    refine own_done (own_retJ X0 hx Bd.returns (hb hby d2_11) hr) hrun hended ⟨_, _, rfl, ?_, ⟨_, rfl⟩, hW, hsame.mono (by decide) (by decide)⟩
    show Q2 Z xa xb h0 n0 _ s₁.heap _
    rw [e0]
    exact ⟨congrArg (fun z => some (Value.long z)) (show xa = (own_f2 xa xb) from by unfold own_f2; simp only [if_neg hc1]), N0, rfl⟩
theorem pn_5_n2 : plainName "com/example/leafcode/leafcode/FourWayHeap" = true := by first | (simp [plainName, overriddenIn]; done) | decide +kernel
theorem ef_5_n2 (m : MethodId) (wa : Addr) : entryFrame m #[(.ref wa)] 6 = mkF m 0 #[rv wa, .unset, .unset, .unset, .unset, .unset] [] := by first | (simp [entryFrame, mkF, argsToLocals, Value.category]; done) | rfl
def own_f5_n2 (wt0 : Int64) (wt1 : Int64) : Int32 :=
  (if (4294967294 : Int64) < wt0 then (0 : Int32) else (if (4294967294 : Int64) < wt1 then (0 : Int32) else (1 : Int32)))
theorem own_f5z_n2 (wt0 wt1 : Int64) : own_f5_n2 wt0 wt1 = 1 ∨ own_f5_n2 wt0 wt1 = 0 := by
  unfold own_f5_n2
  repeat' split
  all_goals first | exact Or.inl rfl | exact Or.inr rfl
theorem own_f5b_n2 {wt0 wt1 : Int64} (h : own_f5_n2 wt0 wt1 = 1) : wt0.toInt ≤ 4294967294 ∧ wt1.toInt ≤ 4294967294 := by
  unfold own_f5_n2 at h
  repeat' split at h
  all_goals first | (cases h; done) | (simp only [Int64.lt_iff_toInt_lt, show (4294967294 : Int64).toInt = 4294967294 from by decide] at *; omega)
def Q5_n2 (Z : State) (wa : Addr) (wt0 : Int64) (wt1 : Int64) (h0 : Heap) (n0 : Nat) (v : Option Value) (h : Heap) (L : List Loc) : Prop := v = some (.int (own_f5_n2 wt0 wt1)) ∧ Fr n0 L ∧ h = h0
set_option maxRecDepth 65536 in
set_option maxHeartbeats 40000000 in
theorem rm5_n2 (l : Launch) (Z : State) (a0 : Array Value) (hw : ∀ d ∈ tables_1, d.before a0 Z = true) (ws : List Jvm.Cond) (wa : Addr) (wt0 : Int64) (wt1 : Int64) (h0 : Heap) (n0 : Nat) (Z0 : n0 ≤ h0.size) (fp0 : own_Arj Z h0 wa [wt0, wt1]) :
    MetFree l (⟨"com/example/leafcode/leafcode/FourWayHeap", "packable", "([J)Z"⟩ : MethodName) (head1 (Jvm.Cond.code (⟨"com/example/leafcode/leafcode/FourWayHeap", "packable", "([J)Z"⟩ : MethodName) prog_20_method_2_code 6 (some .boolean) :: ws) ({ frames := 0, cells := 0, slots := 0, locals := 0 } : Room)) (fun a U => a = #[(.ref wa)] ∧ Z.Warmed39 U.vm ∧ U.heap = h0) (fun _ _ _ _ _ => True) (fun _ U o U' => ∃ v L, o = .returned v ∧ Q5_n2 Z wa wt0 wt1 h0 n0 v U'.heap L ∧ FrameEnd U o U' L ({ frames := 0, cells := 0, slots := 0, locals := 0 } : Room).cells ({ frames := 0, cells := 0, slots := 0, locals := 0 } : Room).slots) := by
  refine MetFree.of_bodySF (plainFor_of_name pn_5_n2) hisR ?_
  intro p e s m args below meth c s₁ Bd hml0 hP hK
  obtain ⟨rfl, hZ, hh⟩ := hP
  have hx := Bd.exec
  have hby := Bd.bytes
  have hml : c.maxLocals = 6 := hml0
  have hown : s.vm.findClass "com/example/leafcode/leafcode/FourWayHeap" = some m.cls := findClass_of_methodNamed Bd.named
  have hnm := (name_of_methodNamed Bd.named Bd.method).1
  have X0 : Stand p l e ({ frames := 0, cells := 0, slots := 0, locals := 0 } : Room) s m #[(.ref wa)] below meth c s₁ [] 0 0 := Stand.of_body Bd
  have e0 : s₁.heap = h0 := by rw [← hh, Bd.state]; rfl
  have N0 := Fr.nil n0
  refine own_start (fun t k => castTop (ef_5_n2 m wa) k) ?_
  show own_G p.tables e below _ (s₁.setTop (mkF m 0 #[rv wa, .unset, .unset, .unset, .unset, .unset] []))
  refine own_al X0.here hx rfl (hb hby d5_0) rfl rfl ?_
  refine own_step (fun t k => XS.astoreN X0.here hx rfl (hb hby d5_1) rfl rfl (l' := #[rv wa, rv wa, .unset, .unset, .unset, .unset]) rfl k) ?_
  refine own_al X0.here hx rfl (hb hby d5_2) rfl rfl ?_
  refine own_step (own_lenJ X0 hx hZ e0 fp0 (g := (mkF m 3 #[rv wa, rv wa, .unset, .unset, .unset, .unset] [(.ref wa)])) rfl rfl (hb hby d5_3)) ?_
  refine own_step (fun t k => XS.istoreN X0.here hx rfl (hb hby d5_4) rfl (l' := #[rv wa, rv wa, iv 2, .unset, .unset, .unset]) rfl k) ?_
  refine own_ic X0.here hx rfl (hb hby d5_5) ?_
  refine own_step (fun t k => XS.istoreN X0.here hx rfl (hb hby d5_6) rfl (l' := #[rv wa, rv wa, iv 2, iv 0, .unset, .unset]) rfl k) ?_
  show own_G p.tables e below _ (s₁.setTop (mkF m 7 #[rv wa, rv wa, iv 2, iv 0, .unset, .unset] []))
  refine own_il X0.here hx rfl (hb hby d5_7) rfl ?_
  refine own_il X0.here hx rfl (hb hby d5_8) rfl ?_
  have hk1 : (0 : Int32) < (2 : Int32) := (by decide)
  refine own_step (fun t k => XS.icmpNo X0.here hx rfl (hb hby d5_9) rfl ((tlt hk1).2.1) k) ?_
  show own_G p.tables e below _ (s₁.setTop (mkF m 12 #[rv wa, rv wa, iv 2, iv 0, .unset, .unset] []))
  refine own_al X0.here hx rfl (hb hby d5_12) rfl rfl ?_
  refine own_il X0.here hx rfl (hb hby d5_13) rfl ?_
  refine own_step (own_laload X0 hx hZ e0 fp0 (own_inb (by decide) (Nat.le_of_ble_eq_true rfl)) (g := (mkF m 14 #[rv wa, rv wa, iv 2, iv 0, .unset, .unset] [(.int 0), (.ref wa)])) rfl rfl (hb hby d5_14)) ?_
  refine own_step (fun t k => XS.lstore X0.here hx rfl (hb hby d5_15) rfl (l' := #[rv wa, rv wa, iv 2, iv 0, .val (.long wt0), .second]) rfl k) ?_
  refine own_lx X0.here hx rfl (hb hby d5_17) rfl ?_
  refine own_step (X0.ldc2Long hx hown (mvT hZ (own_w hw 26 rfl)) (g := (mkF m 19 #[rv wa, rv wa, iv 2, iv 0, .val (.long wt0), .second] [(.long wt0)])) rfl (hb hby d5_19)) ?_
  refine own_step (fun t k => XS.lcmp X0.here hx rfl (hb hby d5_22) rfl k) ?_
  show own_G p.tables e below _ (s₁.setTop (mkF m 23 #[rv wa, rv wa, iv 2, iv 0, .val (.long wt0), .second] [(.int (lcmpW wt0 (4294967294 : Int64)))]))
  by_cases hc2 : (4294967294 : Int64) < wt0
  · skip
    refine own_step (fun t k => XS.ifNo X0.here hx rfl (hb hby d5_23) rfl ((if0 _ _).trans (tlt ((lw_gt _ _).mpr hc2)).2.2.2) k) ?_
    show own_G p.tables e below _ (s₁.setTop (mkF m 26 #[rv wa, rv wa, iv 2, iv 0, .val (.long wt0), .second] []))
    refine own_ic X0.here hx rfl (hb hby d5_26) ?_
    obtain ⟨fs, hr, hrun, hended, hW, hsame⟩ := X0.leave (v := some (.int (0 : Int32))) (fun h => by rw [Bd.returns] at h; cases h)
    refine own_done (retN X0 hx (t := .boolean) Bd.returns (by simp) (hb hby d5_27) hr) hrun hended ⟨_, _, rfl, ?_, ⟨_, rfl⟩, hW, hsame.mono (by decide) (by decide)⟩
    show Q5_n2 Z wa wt0 wt1 h0 n0 _ s₁.heap _
    rw [e0]
    exact ⟨congrArg (fun z => some (Value.int z)) (show (0 : Int32) = (own_f5_n2 wt0 wt1) from by unfold own_f5_n2; simp only [if_pos hc2]), N0, rfl⟩
  · skip
    refine own_step (fun t k => XS.ifYes X0.here hx rfl (pc0 := 23) (pc' := 28) rfl (hb hby d5_23) rfl ((if0 _ _).trans (flt (fun q => hc2 ((lw_gt _ _).mp q))).2.2.2) (by decide) (by decide) k) ?_
    show own_G p.tables e below _ (s₁.setTop (mkF m 28 #[rv wa, rv wa, iv 2, iv 0, .val (.long wt0), .second] []))
    refine own_step (fun t k => XS.iinc X0.here hx rfl (hb hby d5_28) rfl (l' := #[rv wa, rv wa, iv 2, iv 1, .val (.long wt0), .second]) rfl k) ?_
    refine own_go X0.here hx rfl (pc0 := 31) (pc' := 7) rfl (hb hby d5_31) (by decide) (by decide) ?_
    refine own_il X0.here hx rfl (hb hby d5_7) rfl ?_
    refine own_il X0.here hx rfl (hb hby d5_8) rfl ?_
    have hk3 : (1 : Int32) < (2 : Int32) := (by decide)
    refine own_step (fun t k => XS.icmpNo X0.here hx rfl (hb hby d5_9) rfl ((tlt hk3).2.1) k) ?_
    show own_G p.tables e below _ (s₁.setTop (mkF m 12 #[rv wa, rv wa, iv 2, iv 1, .val (.long wt0), .second] []))
    refine own_al X0.here hx rfl (hb hby d5_12) rfl rfl ?_
    refine own_il X0.here hx rfl (hb hby d5_13) rfl ?_
    refine own_step (own_laload X0 hx hZ e0 fp0 (own_inb (by decide) (Nat.le_of_ble_eq_true rfl)) (g := (mkF m 14 #[rv wa, rv wa, iv 2, iv 1, .val (.long wt0), .second] [(.int 1), (.ref wa)])) rfl rfl (hb hby d5_14)) ?_
    refine own_step (fun t k => XS.lstore X0.here hx rfl (hb hby d5_15) rfl (l' := #[rv wa, rv wa, iv 2, iv 1, .val (.long wt1), .second]) rfl k) ?_
    refine own_lx X0.here hx rfl (hb hby d5_17) rfl ?_
    refine own_step (X0.ldc2Long hx hown (mvT hZ (own_w hw 26 rfl)) (g := (mkF m 19 #[rv wa, rv wa, iv 2, iv 1, .val (.long wt1), .second] [(.long wt1)])) rfl (hb hby d5_19)) ?_
    refine own_step (fun t k => XS.lcmp X0.here hx rfl (hb hby d5_22) rfl k) ?_
    show own_G p.tables e below _ (s₁.setTop (mkF m 23 #[rv wa, rv wa, iv 2, iv 1, .val (.long wt1), .second] [(.int (lcmpW wt1 (4294967294 : Int64)))]))
    by_cases hc4 : (4294967294 : Int64) < wt1
    · skip
      refine own_step (fun t k => XS.ifNo X0.here hx rfl (hb hby d5_23) rfl ((if0 _ _).trans (tlt ((lw_gt _ _).mpr hc4)).2.2.2) k) ?_
      show own_G p.tables e below _ (s₁.setTop (mkF m 26 #[rv wa, rv wa, iv 2, iv 1, .val (.long wt1), .second] []))
      refine own_ic X0.here hx rfl (hb hby d5_26) ?_
      obtain ⟨fs, hr, hrun, hended, hW, hsame⟩ := X0.leave (v := some (.int (0 : Int32))) (fun h => by rw [Bd.returns] at h; cases h)
      refine own_done (retN X0 hx (t := .boolean) Bd.returns (by simp) (hb hby d5_27) hr) hrun hended ⟨_, _, rfl, ?_, ⟨_, rfl⟩, hW, hsame.mono (by decide) (by decide)⟩
      show Q5_n2 Z wa wt0 wt1 h0 n0 _ s₁.heap _
      rw [e0]
      exact ⟨congrArg (fun z => some (Value.int z)) (show (0 : Int32) = (own_f5_n2 wt0 wt1) from by unfold own_f5_n2; simp only [if_neg hc2, if_pos hc4]), N0, rfl⟩
    · skip
      refine own_step (fun t k => XS.ifYes X0.here hx rfl (pc0 := 23) (pc' := 28) rfl (hb hby d5_23) rfl ((if0 _ _).trans (flt (fun q => hc4 ((lw_gt _ _).mp q))).2.2.2) (by decide) (by decide) k) ?_
      show own_G p.tables e below _ (s₁.setTop (mkF m 28 #[rv wa, rv wa, iv 2, iv 1, .val (.long wt1), .second] []))
      refine own_step (fun t k => XS.iinc X0.here hx rfl (hb hby d5_28) rfl (l' := #[rv wa, rv wa, iv 2, iv 2, .val (.long wt1), .second]) rfl k) ?_
      refine own_go X0.here hx rfl (pc0 := 31) (pc' := 7) rfl (hb hby d5_31) (by decide) (by decide) ?_
      refine own_il X0.here hx rfl (hb hby d5_7) rfl ?_
      refine own_il X0.here hx rfl (hb hby d5_8) rfl ?_
      have hk5 : ¬ ((2 : Int32) < (2 : Int32)) := (by decide)
      refine own_step (fun t k => XS.icmpYes X0.here hx rfl (pc0 := 9) (pc' := 34) rfl (hb hby d5_9) rfl ((flt hk5).2.1) (by decide) (by decide) k) ?_
      show own_G p.tables e below _ (s₁.setTop (mkF m 34 #[rv wa, rv wa, iv 2, iv 2, .val (.long wt1), .second] []))
      refine own_ic X0.here hx rfl (hb hby d5_34) ?_
      obtain ⟨fs, hr, hrun, hended, hW, hsame⟩ := X0.leave (v := some (.int (1 : Int32))) (fun h => by rw [Bd.returns] at h; cases h)
      refine own_done (retN X0 hx (t := .boolean) Bd.returns (by simp) (hb hby d5_35) hr) hrun hended ⟨_, _, rfl, ?_, ⟨_, rfl⟩, hW, hsame.mono (by decide) (by decide)⟩
      show Q5_n2 Z wa wt0 wt1 h0 n0 _ s₁.heap _
      rw [e0]
      exact ⟨congrArg (fun z => some (Value.int z)) (show (1 : Int32) = (own_f5_n2 wt0 wt1) from by unfold own_f5_n2; simp only [if_neg hc2, if_neg hc4]), N0, rfl⟩
theorem pn_7_n2 : plainName "java/util/Arrays" = true := by first | (simp [plainName, overriddenIn]; done) | decide +kernel
theorem pd_7_n2_0 : parseMethodDescriptor "(III)V" = some ⟨[.int, .int, .int], none⟩ := by decide +kernel
theorem ef_7_n2 (m : MethodId) (ar : Addr) (vv : Int64) : entryFrame m #[(.ref ar), (.int (5 : Int32)), (.int (8 : Int32)), (.long vv)] 6 = mkF m 0 #[rv ar, iv (5 : Int32), iv (8 : Int32), .val (.long vv), .second, .unset] [] := by first | (simp [entryFrame, mkF, argsToLocals, Value.category]; done) | rfl
def Q7_n2 (Z : State) (ar : Addr) (vv : Int64) (kk0 : Int64) (kk1 : Int64) (kk2 : Int64) (kk3 : Int64) (kk4 : Int64) (kk5 : Int64) (kk6 : Int64) (kk7 : Int64) (h0 : Heap) (n0 : Nat) (v : Option Value) (h : Heap) (L : List Loc) : Prop := v = none ∧ Fr n0 L ∧ Keep h0 h [ar] ∧ own_Arj Z h ar [kk0, kk1, kk2, kk3, kk4, vv, vv, vv]
set_option maxRecDepth 65536 in
set_option maxHeartbeats 40000000 in
theorem rm7_n2 (l : Launch) (Z : State) (a0 : Array Value) (hw : ∀ d ∈ tables_1, d.before a0 Z = true) (ws : List Jvm.Cond) (ar : Addr) (vv : Int64) (kk0 : Int64) (kk1 : Int64) (kk2 : Int64) (kk3 : Int64) (kk4 : Int64) (kk5 : Int64) (kk6 : Int64) (kk7 : Int64) (h0 : Heap) (n0 : Nat) (Z0 : n0 ≤ h0.size) (fp0 : own_Arj Z h0 ar [kk0, kk1, kk2, kk3, kk4, kk5, kk6, kk7]) (g_ar : n0 ≤ ar) :
    MetFree l (⟨"java/util/Arrays", "fill", "([JIIJ)V"⟩ : MethodName) (head1 (Jvm.Cond.code (⟨"java/util/Arrays", "fill", "([JIIJ)V"⟩ : MethodName) jdk_65_method_102_code 6 none :: ws) ({ frames := 1, cells := 0, slots := 0, locals := 14 } : Room)) (fun a U => a = #[(.ref ar), (.int (5 : Int32)), (.int (8 : Int32)), (.long vv)] ∧ Z.Warmed39 U.vm ∧ U.heap = h0) (fun _ _ _ _ _ => True) (fun _ U o U' => ∃ v L, o = .returned v ∧ Q7_n2 Z ar vv kk0 kk1 kk2 kk3 kk4 kk5 kk6 kk7 h0 n0 v U'.heap L ∧ FrameEnd U o U' L ({ frames := 1, cells := 0, slots := 0, locals := 14 } : Room).cells ({ frames := 1, cells := 0, slots := 0, locals := 14 } : Room).slots) := by
  refine MetFree.of_bodySF (plainFor_of_name pn_7_n2) hisR ?_
  intro p e s m args below meth c s₁ Bd hml0 hP hK
  obtain ⟨rfl, hZ, hh⟩ := hP
  have hx := Bd.exec
  have hby := Bd.bytes
  have hml : c.maxLocals = 6 := hml0
  have hown : s.vm.findClass "java/util/Arrays" = some m.cls := findClass_of_methodNamed Bd.named
  have hnm := (name_of_methodNamed Bd.named Bd.method).1
  have X0 : Stand p l e ({ frames := 1, cells := 0, slots := 0, locals := 14 } : Room) s m #[(.ref ar), (.int (5 : Int32)), (.int (8 : Int32)), (.long vv)] below meth c s₁ [] 0 0 := Stand.of_body Bd
  have e0 : s₁.heap = h0 := by rw [← hh, Bd.state]; rfl
  have N0 := Fr.nil n0
  refine own_start (fun t k => castTop (ef_7_n2 m ar vv) k) ?_
  show own_G p.tables e below _ (s₁.setTop (mkF m 0 #[rv ar, iv 5, iv 8, .val (.long vv), .second, .unset] []))
  refine own_al X0.here hx rfl (hb hby d7_0) rfl rfl ?_
  refine own_step (own_lenJ X0 hx hZ e0 fp0 (g := (mkF m 1 #[rv ar, iv 5, iv 8, .val (.long vv), .second, .unset] [(.ref ar)])) rfl rfl (hb hby d7_1)) ?_
  refine own_il X0.here hx rfl (hb hby d7_2) rfl ?_
  refine own_il X0.here hx rfl (hb hby d7_3) rfl ?_
  obtain ⟨_, _, ⟨T1, L1, k1, n1⟩, -, X1, ⟨Lc1, hQ1, l1, y1, z1⟩, st1⟩ := Jvm.LawKit.callS X0 hx (y := own_y8) hown (mvT hZ (own_w hw 35 rfl)) (mvT hZ (own_w hw 36 rfl)) (mvT hZ (own_w hw 33 rfl)) (mvT hZ (own_w hw 37 rfl)) (by decide) (backOf (W := 0) (rm8 l Z a0 hw [] (8 : Int32) (5 : Int32) (8 : Int32) h0 n0 (Nat.le_trans Z0 (Keep.refl h0 [ar]).1) (by decide : ¬ (8 : Int32) < (5 : Int32)) (by decide : ¬ (5 : Int32) < (0 : Int32)) (by decide : ¬ (8 : Int32) < (8 : Int32))) hZ (own_w hw 37 rfl) (own_w hw 33 rfl) (by decide) (by decide)) (g := (mkF m 4 #[rv ar, iv 5, iv 8, .val (.long vv), .second, .unset] [(.int 8), (.int 5), (.int 8)])) rfl (by rw [hml]; rfl) (argsL := [(.int 8), (.int 5), (.int 8)]) (rest := []) (lenOf pd_7_n2_0 rfl) rfl (own_wl rfl) (hb hby d7_4) (fun _ _ => ⟨rfl, e0, (by decide : 0 + 0 ≤ _), (by decide : 0 + 0 ≤ _)⟩)
  dsimp only [Pt.U, Pt.locs, Pt.cells, Pt.slots] at X1 l1 y1 z1 st1 hQ1
  subst y1 z1
  obtain ⟨rfl, N1q, e1⟩ := hQ1
  have N1 : Fr n0 L1 := by rw [l1]; exact Fr.app N0 N1q
  refine own_step st1 ?_
  refine own_il X1.here hx rfl (hb hby d7_7) rfl ?_
  refine own_step (fun t k => XS.istore X1.here hx rfl (hb hby d7_8) rfl (l' := #[rv ar, iv 5, iv 8, .val (.long vv), .second, iv 5]) rfl k) ?_
  show own_G p.tables e below _ (T1.setTop (mkF m 10 #[rv ar, iv 5, iv 8, .val (.long vv), .second, iv 5] []))
  refine own_ix X1.here hx rfl (hb hby d7_10) rfl ?_
  refine own_il X1.here hx rfl (hb hby d7_12) rfl ?_
  have hk2 : (5 : Int32) < (8 : Int32) := (by decide)
  refine own_step (fun t k => XS.icmpNo X1.here hx rfl (hb hby d7_13) rfl ((tlt hk2).2.1) k) ?_
  show own_G p.tables e below _ (T1.setTop (mkF m 16 #[rv ar, iv 5, iv 8, .val (.long vv), .second, iv 5] []))
  refine own_al X1.here hx rfl (hb hby d7_16) rfl rfl ?_
  refine own_ix X1.here hx rfl (hb hby d7_17) rfl ?_
  refine own_step (fun t k => XS.lloadN X1.here hx rfl (hb hby d7_19) rfl k) ?_
  obtain ⟨T3, h3, X3, e3, W3, c3, st3⟩ := own_lastore X1 hx hZ e1 fp0 (own_inb (by decide) (Nat.le_of_ble_eq_true rfl)) (g := (mkF m 20 #[rv ar, iv 5, iv 8, .val (.long vv), .second, iv 5] [(.long vv), (.int 5), (.ref ar)])) rfl rfl (hb hby d7_20)
  have N3 := Fr.snoc X3 N1 g_ar
  have c4 : own_Arj Z h3 ar [kk0, kk1, kk2, kk3, kk4, vv, kk6, kk7] := c3
  have K3 : Keep h0 h3 [ar] := (Keep.refl h0 [ar]).wr W3 (Or.inl (List.mem_of_getElem? (i := 0) rfl))
  refine own_step st3 ?_
  refine own_step (fun t k => XS.iinc X3.here hx rfl (hb hby d7_21) rfl (l' := #[rv ar, iv 5, iv 8, .val (.long vv), .second, iv 6]) rfl k) ?_
  refine own_go X3.here hx rfl (pc0 := 24) (pc' := 10) rfl (hb hby d7_24) (by decide) (by decide) ?_
  refine own_ix X3.here hx rfl (hb hby d7_10) rfl ?_
  show own_G p.tables e below _ (T3.setTop (mkF m 12 #[rv ar, iv 5, iv 8, .val (.long vv), .second, iv 6] [(.int 6)]))
  refine own_il X3.here hx rfl (hb hby d7_12) rfl ?_
  have hk6 : (6 : Int32) < (8 : Int32) := (by decide)
  refine own_step (fun t k => XS.icmpNo X3.here hx rfl (hb hby d7_13) rfl ((tlt hk6).2.1) k) ?_
  clear N1 N1q W3 X1 c3 e1 hk2 hk6 st1 st3
  show own_G p.tables e below _ (T3.setTop (mkF m 16 #[rv ar, iv 5, iv 8, .val (.long vv), .second, iv 6] []))
  refine own_al X3.here hx rfl (hb hby d7_16) rfl rfl ?_
  refine own_ix X3.here hx rfl (hb hby d7_17) rfl ?_
  refine own_step (fun t k => XS.lloadN X3.here hx rfl (hb hby d7_19) rfl k) ?_
  obtain ⟨T7, h7, X7, e7, W7, c7, st7⟩ := own_lastore X3 hx hZ e3 c4 (own_inb (by decide) (Nat.le_of_ble_eq_true rfl)) (g := (mkF m 20 #[rv ar, iv 5, iv 8, .val (.long vv), .second, iv 6] [(.long vv), (.int 6), (.ref ar)])) rfl rfl (hb hby d7_20)
  have N7 := Fr.snoc X7 N3 g_ar
  have c8 : own_Arj Z h7 ar [kk0, kk1, kk2, kk3, kk4, vv, vv, kk7] := c7
  have K7 : Keep h0 h7 [ar] := K3.wr W7 (Or.inl (List.mem_of_getElem? (i := 0) rfl))
  refine own_step st7 ?_
  refine own_step (fun t k => XS.iinc X7.here hx rfl (hb hby d7_21) rfl (l' := #[rv ar, iv 5, iv 8, .val (.long vv), .second, iv 7]) rfl k) ?_
  refine own_go X7.here hx rfl (pc0 := 24) (pc' := 10) rfl (hb hby d7_24) (by decide) (by decide) ?_
  refine own_ix X7.here hx rfl (hb hby d7_10) rfl ?_
  show own_G p.tables e below _ (T7.setTop (mkF m 12 #[rv ar, iv 5, iv 8, .val (.long vv), .second, iv 7] [(.int 7)]))
  refine own_il X7.here hx rfl (hb hby d7_12) rfl ?_
  have hk10 : (7 : Int32) < (8 : Int32) := (by decide)
  refine own_step (fun t k => XS.icmpNo X7.here hx rfl (hb hby d7_13) rfl ((tlt hk10).2.1) k) ?_
  show own_G p.tables e below _ (T7.setTop (mkF m 16 #[rv ar, iv 5, iv 8, .val (.long vv), .second, iv 7] []))
  refine own_al X7.here hx rfl (hb hby d7_16) rfl rfl ?_
  refine own_ix X7.here hx rfl (hb hby d7_17) rfl ?_
  refine own_step (fun t k => XS.lloadN X7.here hx rfl (hb hby d7_19) rfl k) ?_
  obtain ⟨T11, h11, X11, e11, W11, c11, st11⟩ := own_lastore X7 hx hZ e7 c8 (own_inb (by decide) (Nat.le_of_ble_eq_true rfl)) (g := (mkF m 20 #[rv ar, iv 5, iv 8, .val (.long vv), .second, iv 7] [(.long vv), (.int 7), (.ref ar)])) rfl rfl (hb hby d7_20)
  have N11 := Fr.snoc X11 N7 g_ar
  have c12 : own_Arj Z h11 ar [kk0, kk1, kk2, kk3, kk4, vv, vv, vv] := c11
  have K11 : Keep h0 h11 [ar] := K7.wr W11 (Or.inl (List.mem_of_getElem? (i := 0) rfl))
  refine own_step st11 ?_
  refine own_step (fun t k => XS.iinc X11.here hx rfl (hb hby d7_21) rfl (l' := #[rv ar, iv 5, iv 8, .val (.long vv), .second, iv 8]) rfl k) ?_
  refine own_go X11.here hx rfl (pc0 := 24) (pc' := 10) rfl (hb hby d7_24) (by decide) (by decide) ?_
  refine own_ix X11.here hx rfl (hb hby d7_10) rfl ?_
  clear K3 K7 N3 N7 W11 W7 X3 X7 c11 c4 c7 c8 e3 e7 hk10 st11 st7
  show own_G p.tables e below _ (T11.setTop (mkF m 12 #[rv ar, iv 5, iv 8, .val (.long vv), .second, iv 8] [(.int 8)]))
  refine own_il X11.here hx rfl (hb hby d7_12) rfl ?_
  have hk14 : ¬ ((8 : Int32) < (8 : Int32)) := (by decide)
  refine own_step (fun t k => XS.icmpYes X11.here hx rfl (pc0 := 13) (pc' := 27) rfl (hb hby d7_13) rfl ((flt hk14).2.1) (by decide) (by decide) k) ?_
  show own_G p.tables e below _ (T11.setTop (mkF m 27 #[rv ar, iv 5, iv 8, .val (.long vv), .second, iv 8] []))
  obtain ⟨fs, hr, hrun, hended, hW, hsame⟩ := X11.leave (v := none) (fun _ => rfl)
  refine own_done (X11.returnOut hx Bd.returns (hb hby d7_27) hr) hrun hended ⟨_, _, rfl, ?_, ⟨_, rfl⟩, hW, hsame.mono (by decide) (by decide)⟩
  show Q7_n2 Z ar vv kk0 kk1 kk2 kk3 kk4 kk5 kk6 kk7 h0 n0 _ T11.heap _
  rw [e11]
  exact ⟨rfl, N11, K11, c12⟩
theorem d10_0 : decode prog_20_method_14_code 0 = .ok (.aload_n 0, 1) := by decide +kernel
theorem d10_1 : decode prog_20_method_14_code 1 = .ok (.getfield 15, 3) := by decide +kernel
theorem d10_4 : decode prog_20_method_14_code 4 = .ok (.iload_n 2, 1) := by decide +kernel
theorem d10_5 : decode prog_20_method_14_code 5 = .ok (.aload_n 0, 1) := by decide +kernel
theorem d10_6 : decode prog_20_method_14_code 6 = .ok (.getfield 15, 3) := by decide +kernel
theorem d10_9 : decode prog_20_method_14_code 9 = .ok (.iload_n 1, 1) := by decide +kernel
theorem d10_10 : decode prog_20_method_14_code 10 = .ok (.laload, 1) := by decide +kernel
theorem d10_11 : decode prog_20_method_14_code 11 = .ok (.lastore, 1) := by decide +kernel
theorem d10_12 : decode prog_20_method_14_code 12 = .ok (.aload_n 0, 1) := by decide +kernel
theorem d10_13 : decode prog_20_method_14_code 13 = .ok (.getfield 35, 3) := by decide +kernel
theorem d10_16 : decode prog_20_method_14_code 16 = .ok (.ifnull 15, 3) := by decide +kernel
theorem d10_31 : decode prog_20_method_14_code 31 = .ok (.return_, 1) := by decide +kernel
theorem pn_10_p : plainName "com/example/leafcode/leafcode/FourWayHeap" = true := by first | (simp [plainName, overriddenIn]; done) | decide +kernel
theorem ef_10_p (m : MethodId) (a1 : Addr) (fm : Int32) (tt : Int32) : entryFrame m #[(.ref a1), (.int fm), (.int tt)] 3 = mkF m 0 #[rv a1, iv fm, iv tt] [] := by first | (simp [entryFrame, mkF, argsToLocals, Value.category]; done) | rfl
def Q10_p (Z : State) (a1 : Addr) (fm : Int32) (tt : Int32) (ky : Addr) (vs : List Int64) (h0 : Heap) (n0 : Nat) (v : Option Value) (h : Heap) (L : List Loc) : Prop := v = none ∧ Fr n0 L ∧ Keep h0 h [ky] ∧ own_Arj Z h ky (vs.set tt.toNatClampNeg (vs.getD fm.toNatClampNeg 0))
set_option maxRecDepth 65536 in
set_option maxHeartbeats 40000000 in
theorem rm10_p (l : Launch) (Z : State) (a0 : Array Value) (hw : ∀ d ∈ tables_1, d.before a0 Z = true) (ws : List Jvm.Cond) (a1 : Addr) (fm : Int32) (tt : Int32) (ky : Addr) (vs : List Int64) (h0 : Heap) (n0 : Nat) (Z0 : n0 ≤ h0.size) (fp0 : Fld Z h0 a1 own_C "keys" "[J" (.ref ky)) (fp1 : Fld Z h0 a1 own_C "nodes" "[I" .null) (fp2 : own_Arj Z h0 ky vs) (hfm : own_Inb fm vs.length) (htt : own_Inb tt vs.length) (g_ky : n0 ≤ ky) (ne_a1_ky : a1 ≠ ky) :
    MetFree l (⟨"com/example/leafcode/leafcode/FourWayHeap", "move", "(II)V"⟩ : MethodName) (head1 (Jvm.Cond.code (⟨"com/example/leafcode/leafcode/FourWayHeap", "move", "(II)V"⟩ : MethodName) prog_20_method_14_code 3 none :: ws) ({ frames := 0, cells := 0, slots := 0, locals := 0 } : Room)) (fun a U => a = #[(.ref a1), (.int fm), (.int tt)] ∧ Z.Warmed39 U.vm ∧ U.heap = h0) (fun _ _ _ _ _ => True) (fun _ U o U' => ∃ v L, o = .returned v ∧ Q10_p Z a1 fm tt ky vs h0 n0 v U'.heap L ∧ FrameEnd U o U' L ({ frames := 0, cells := 0, slots := 0, locals := 0 } : Room).cells ({ frames := 0, cells := 0, slots := 0, locals := 0 } : Room).slots) := by
  refine MetFree.of_bodySF (plainFor_of_name pn_10_p) hisR ?_
  intro p e s m args below meth c s₁ Bd hml0 hP hK
  obtain ⟨rfl, hZ, hh⟩ := hP
  have hx := Bd.exec
  have hby := Bd.bytes
  have hml : c.maxLocals = 3 := hml0
  have hown : s.vm.findClass "com/example/leafcode/leafcode/FourWayHeap" = some m.cls := findClass_of_methodNamed Bd.named
  have hnm := (name_of_methodNamed Bd.named Bd.method).1
  have X0 : Stand p l e ({ frames := 0, cells := 0, slots := 0, locals := 0 } : Room) s m #[(.ref a1), (.int fm), (.int tt)] below meth c s₁ [] 0 0 := Stand.of_body Bd
  have e0 : s₁.heap = h0 := by rw [← hh, Bd.state]; rfl
  have N0 := Fr.nil n0
  refine own_start (fun t k => castTop (ef_10_p m a1 fm tt) k) ?_
  show own_G p.tables e below _ (s₁.setTop (mkF m 0 #[rv a1, iv fm, iv tt] []))
  refine own_al X0.here hx rfl (hb hby d10_0) rfl rfl ?_
  obtain ⟨T1, X1, e1, st1⟩ := getF X0 hx hZ hown (host := "") (Or.inl (own_w hw 21 rfl)) Via.refl e0 fp0 (g := (mkF m 1 #[rv a1, iv fm, iv tt] [(.ref a1)])) rfl rfl (hb hby d10_1)
  refine own_step st1 ?_
  refine own_il X1.here hx rfl (hb hby d10_4) rfl ?_
  refine own_al X1.here hx rfl (hb hby d10_5) rfl rfl ?_
  obtain ⟨T2, X2, e2, st2⟩ := getF X1 hx hZ hown (host := "") (Or.inl (own_w hw 21 rfl)) Via.refl e1 fp0 (g := (mkF m 6 #[rv a1, iv fm, iv tt] [(.ref a1), (.int tt), (.ref ky)])) rfl rfl (hb hby d10_6)
  refine own_step st2 ?_
  refine own_il X2.here hx rfl (hb hby d10_9) rfl ?_
  refine own_step (own_laload X2 hx hZ e2 fp2 hfm (g := (mkF m 10 #[rv a1, iv fm, iv tt] [(.int fm), (.ref ky), (.int tt), (.ref ky)])) rfl rfl (hb hby d10_10)) ?_
  show own_G p.tables e below _ (T2.setTop (mkF m 11 #[rv a1, iv fm, iv tt] [(.long (vs.getD fm.toNatClampNeg 0)), (.int tt), (.ref ky)]))
  obtain ⟨T3, h3, X3, e3, W3, c3, st3⟩ := own_lastore X2 hx hZ e2 fp2 htt (g := (mkF m 11 #[rv a1, iv fm, iv tt] [(.long (vs.getD fm.toNatClampNeg 0)), (.int tt), (.ref ky)])) rfl rfl (hb hby d10_11)
  have N3 := Fr.snoc X3 N0 g_ky
  have c4 : own_Arj Z h3 ky (vs.set tt.toNatClampNeg (vs.getD fm.toNatClampNeg 0)) := c3
  have c5 : Fld Z h3 a1 own_C "keys" "[J" (.ref ky) := fp0.other W3 (Or.inl ne_a1_ky)
  have c6 : Fld Z h3 a1 own_C "nodes" "[I" .null := fp1.other W3 (Or.inl ne_a1_ky)
  have K3 : Keep h0 h3 [ky] := (Keep.refl h0 [ky]).wr W3 (Or.inl (List.mem_of_getElem? (i := 0) rfl))
  refine own_step st3 ?_
  refine own_al X3.here hx rfl (hb hby d10_12) rfl rfl ?_
  obtain ⟨T8, X8, e8, st8⟩ := getF X3 hx hZ hown (host := "") (Or.inl (own_w hw 45 rfl)) Via.refl e3 c6 (g := (mkF m 13 #[rv a1, iv fm, iv tt] [(.ref a1)])) rfl rfl (hb hby d10_13)
  refine own_step st8 ?_
  refine own_step (fun t k => XS.ifnullYes X8.here hx rfl (pc0 := 16) (pc' := 31) rfl (hb hby d10_16) rfl (by decide) (by decide) k) ?_
  obtain ⟨fs, hr, hrun, hended, hW, hsame⟩ := X8.leave (v := none) (fun _ => rfl)
  refine own_done (X8.returnOut hx Bd.returns (hb hby d10_31) hr) hrun hended ⟨_, _, rfl, ?_, ⟨_, rfl⟩, hW, hsame.mono (by decide) (by decide)⟩
  show Q10_p Z a1 fm tt ky vs h0 n0 _ T8.heap _
  rw [e8]
  exact ⟨rfl, N3, K3, c4⟩
theorem d12_0 : decode prog_20_method_5_code 0 = .ok (.iconst 4, 1) := by decide +kernel
theorem d12_1 : decode prog_20_method_5_code 1 = .ok (.iload_n 0, 1) := by decide +kernel
theorem d12_2 : decode prog_20_method_5_code 2 = .ok (.imul, 1) := by decide +kernel
theorem d12_3 : decode prog_20_method_5_code 3 = .ok (.bipush 8, 2) := by decide +kernel
theorem d12_5 : decode prog_20_method_5_code 5 = .ok (.isub, 1) := by decide +kernel
theorem d12_6 : decode prog_20_method_5_code 6 = .ok (.ireturn, 1) := by decide +kernel
theorem pn_12 : plainName "com/example/leafcode/leafcode/FourWayHeap" = true := by first | (simp [plainName, overriddenIn]; done) | decide +kernel
theorem ef_12 (m : MethodId) (ps : Int32) : entryFrame m #[(.int ps)] 1 = mkF m 0 #[iv ps] [] := by first | (simp [entryFrame, mkF, argsToLocals, Value.category]; done) | rfl
def Q12 (Z : State) (ps : Int32) (h0 : Heap) (n0 : Nat) (v : Option Value) (h : Heap) (L : List Loc) : Prop := v = some (.int (own_fc ps)) ∧ Fr n0 L ∧ h = h0
set_option maxRecDepth 65536 in
set_option maxHeartbeats 40000000 in
theorem rm12 (l : Launch) (Z : State) (a0 : Array Value) (hw : ∀ d ∈ tables_1, d.before a0 Z = true) (ws : List Jvm.Cond) (ps : Int32) (h0 : Heap) (n0 : Nat) (Z0 : n0 ≤ h0.size) :
    MetFree l (⟨"com/example/leafcode/leafcode/FourWayHeap", "firstChild", "(I)I"⟩ : MethodName) (head1 (Jvm.Cond.code (⟨"com/example/leafcode/leafcode/FourWayHeap", "firstChild", "(I)I"⟩ : MethodName) prog_20_method_5_code 1 (some .int) :: ws) ({ frames := 0, cells := 0, slots := 0, locals := 0 } : Room)) (fun a U => a = #[(.int ps)] ∧ Z.Warmed39 U.vm ∧ U.heap = h0) (fun _ _ _ _ _ => True) (fun _ U o U' => ∃ v L, o = .returned v ∧ Q12 Z ps h0 n0 v U'.heap L ∧ FrameEnd U o U' L ({ frames := 0, cells := 0, slots := 0, locals := 0 } : Room).cells ({ frames := 0, cells := 0, slots := 0, locals := 0 } : Room).slots) := by
  refine MetFree.of_bodySF (plainFor_of_name pn_12) hisR ?_
  intro p e s m args below meth c s₁ Bd hml0 hP hK
  obtain ⟨rfl, hZ, hh⟩ := hP
  have hx := Bd.exec
  have hby := Bd.bytes
  have hml : c.maxLocals = 1 := hml0
  have hown : s.vm.findClass "com/example/leafcode/leafcode/FourWayHeap" = some m.cls := findClass_of_methodNamed Bd.named
  have hnm := (name_of_methodNamed Bd.named Bd.method).1
  have X0 : Stand p l e ({ frames := 0, cells := 0, slots := 0, locals := 0 } : Room) s m #[(.int ps)] below meth c s₁ [] 0 0 := Stand.of_body Bd
  have e0 : s₁.heap = h0 := by rw [← hh, Bd.state]; rfl
  have N0 := Fr.nil n0
  refine own_start (fun t k => castTop (ef_12 m ps) k) ?_
  show own_G p.tables e below _ (s₁.setTop (mkF m 0 #[iv ps] []))
  refine own_ic X0.here hx rfl (hb hby d12_0) ?_
  refine own_il X0.here hx rfl (hb hby d12_1) rfl ?_
  refine own_step (fun t k => XS.imul X0.here hx rfl (hb hby d12_2) rfl k) ?_
  refine own_step (fun t k => XS.bipush X0.here hx rfl (hb hby d12_3) k) ?_
  refine own_step (fun t k => XS.isub X0.here hx rfl (hb hby d12_5) rfl k) ?_
  obtain ⟨fs, hr, hrun, hended, hW, hsame⟩ := X0.leave (v := some (.int (((4 : Int32) * ps) - (8 : Int32)))) (fun h => by rw [Bd.returns] at h; cases h)
  refine own_done (retI X0 hx Bd.returns (hb hby d12_6) hr) hrun hended ⟨_, _, rfl, ?_, ⟨_, rfl⟩, hW, hsame.mono (by decide) (by decide)⟩
  show Q12 Z ps h0 n0 _ s₁.heap _
  rw [e0]
  exact ⟨congrArg (fun z => some (Value.int z)) (show (((4 : Int32) * ps) - (8 : Int32)) = (own_fc ps) from rfl), N0, rfl⟩
theorem d13_0 : decode prog_20_method_12_code 0 = .ok (.aload_n 0, 1) := by decide +kernel
theorem d13_1 : decode prog_20_method_12_code 1 = .ok (.getfield 35, 3) := by decide +kernel
theorem d13_4 : decode prog_20_method_12_code 4 = .ok (.ifnonnull 127, 3) := by decide +kernel
theorem d13_7 : decode prog_20_method_12_code 7 = .ok (.aload_n 0, 1) := by decide +kernel
theorem d13_8 : decode prog_20_method_12_code 8 = .ok (.getfield 15, 3) := by decide +kernel
theorem d13_11 : decode prog_20_method_12_code 11 = .ok (.iload_n 1, 1) := by decide +kernel
theorem d13_12 : decode prog_20_method_12_code 12 = .ok (.laload, 1) := by decide +kernel
theorem d13_13 : decode prog_20_method_12_code 13 = .ok (.lstore_n 2, 1) := by decide +kernel
theorem d13_14 : decode prog_20_method_12_code 14 = .ok (.aload_n 0, 1) := by decide +kernel
theorem d13_15 : decode prog_20_method_12_code 15 = .ok (.getfield 15, 3) := by decide +kernel
theorem d13_18 : decode prog_20_method_12_code 18 = .ok (.iload_n 1, 1) := by decide +kernel
theorem d13_19 : decode prog_20_method_12_code 19 = .ok (.iconst 1, 1) := by decide +kernel
theorem d13_20 : decode prog_20_method_12_code 20 = .ok (.iadd, 1) := by decide +kernel
theorem d13_21 : decode prog_20_method_12_code 21 = .ok (.laload, 1) := by decide +kernel
theorem d13_22 : decode prog_20_method_12_code 22 = .ok (.lstore 4, 2) := by decide +kernel
theorem d13_24 : decode prog_20_method_12_code 24 = .ok (.aload_n 0, 1) := by decide +kernel
theorem d13_25 : decode prog_20_method_12_code 25 = .ok (.getfield 15, 3) := by decide +kernel
theorem d13_28 : decode prog_20_method_12_code 28 = .ok (.iload_n 1, 1) := by decide +kernel
theorem d13_29 : decode prog_20_method_12_code 29 = .ok (.iconst 2, 1) := by decide +kernel
theorem d13_30 : decode prog_20_method_12_code 30 = .ok (.iadd, 1) := by decide +kernel
theorem d13_31 : decode prog_20_method_12_code 31 = .ok (.laload, 1) := by decide +kernel
theorem d13_32 : decode prog_20_method_12_code 32 = .ok (.lstore 6, 2) := by decide +kernel
theorem d13_34 : decode prog_20_method_12_code 34 = .ok (.aload_n 0, 1) := by decide +kernel
theorem d13_35 : decode prog_20_method_12_code 35 = .ok (.getfield 15, 3) := by decide +kernel
theorem d13_38 : decode prog_20_method_12_code 38 = .ok (.iload_n 1, 1) := by decide +kernel
theorem d13_39 : decode prog_20_method_12_code 39 = .ok (.iconst 3, 1) := by decide +kernel
theorem d13_40 : decode prog_20_method_12_code 40 = .ok (.iadd, 1) := by decide +kernel
theorem d13_41 : decode prog_20_method_12_code 41 = .ok (.laload, 1) := by decide +kernel
theorem d13_42 : decode prog_20_method_12_code 42 = .ok (.lstore 8, 2) := by decide +kernel
theorem d13_44 : decode prog_20_method_12_code 44 = .ok (.lload 4, 2) := by decide +kernel
theorem d13_46 : decode prog_20_method_12_code 46 = .ok (.lload_n 2, 1) := by decide +kernel
theorem d13_47 : decode prog_20_method_12_code 47 = .ok (.lsub, 1) := by decide +kernel
theorem d13_48 : decode prog_20_method_12_code 48 = .ok (.lstore 10, 2) := by decide +kernel
theorem d13_50 : decode prog_20_method_12_code 50 = .ok (.lload 10, 2) := by decide +kernel
theorem d13_52 : decode prog_20_method_12_code 52 = .ok (.bipush 63, 2) := by decide +kernel
theorem d13_54 : decode prog_20_method_12_code 54 = .ok (.lshr, 1) := by decide +kernel
theorem d13_55 : decode prog_20_method_12_code 55 = .ok (.lstore 12, 2) := by decide +kernel
theorem d13_57 : decode prog_20_method_12_code 57 = .ok (.lload_n 2, 1) := by decide +kernel
theorem d13_58 : decode prog_20_method_12_code 58 = .ok (.lload 10, 2) := by decide +kernel
theorem d13_60 : decode prog_20_method_12_code 60 = .ok (.lload 12, 2) := by decide +kernel
theorem d13_62 : decode prog_20_method_12_code 62 = .ok (.land, 1) := by decide +kernel
theorem d13_63 : decode prog_20_method_12_code 63 = .ok (.ladd, 1) := by decide +kernel
theorem d13_64 : decode prog_20_method_12_code 64 = .ok (.lstore 14, 2) := by decide +kernel
theorem d13_66 : decode prog_20_method_12_code 66 = .ok (.lload 8, 2) := by decide +kernel
theorem d13_68 : decode prog_20_method_12_code 68 = .ok (.lload 6, 2) := by decide +kernel
theorem d13_70 : decode prog_20_method_12_code 70 = .ok (.lsub, 1) := by decide +kernel
theorem d13_71 : decode prog_20_method_12_code 71 = .ok (.lstore 16, 2) := by decide +kernel
theorem d13_73 : decode prog_20_method_12_code 73 = .ok (.lload 16, 2) := by decide +kernel
theorem d13_75 : decode prog_20_method_12_code 75 = .ok (.bipush 63, 2) := by decide +kernel
theorem d13_77 : decode prog_20_method_12_code 77 = .ok (.lshr, 1) := by decide +kernel
theorem d13_78 : decode prog_20_method_12_code 78 = .ok (.lstore 18, 2) := by decide +kernel
theorem d13_80 : decode prog_20_method_12_code 80 = .ok (.lload 6, 2) := by decide +kernel
theorem d13_82 : decode prog_20_method_12_code 82 = .ok (.lload 16, 2) := by decide +kernel
theorem d13_84 : decode prog_20_method_12_code 84 = .ok (.lload 18, 2) := by decide +kernel
theorem d13_86 : decode prog_20_method_12_code 86 = .ok (.land, 1) := by decide +kernel
theorem d13_87 : decode prog_20_method_12_code 87 = .ok (.ladd, 1) := by decide +kernel
theorem d13_88 : decode prog_20_method_12_code 88 = .ok (.lstore 20, 2) := by decide +kernel
theorem d13_90 : decode prog_20_method_12_code 90 = .ok (.lload 12, 2) := by decide +kernel
theorem d13_92 : decode prog_20_method_12_code 92 = .ok (.lconst 1, 1) := by decide +kernel
theorem d13_93 : decode prog_20_method_12_code 93 = .ok (.land, 1) := by decide +kernel
theorem d13_94 : decode prog_20_method_12_code 94 = .ok (.l2i, 1) := by decide +kernel
theorem d13_95 : decode prog_20_method_12_code 95 = .ok (.istore 22, 2) := by decide +kernel
theorem d13_97 : decode prog_20_method_12_code 97 = .ok (.iconst 2, 1) := by decide +kernel
theorem d13_98 : decode prog_20_method_12_code 98 = .ok (.lload 18, 2) := by decide +kernel
theorem d13_100 : decode prog_20_method_12_code 100 = .ok (.lconst 1, 1) := by decide +kernel
theorem d13_101 : decode prog_20_method_12_code 101 = .ok (.land, 1) := by decide +kernel
theorem d13_102 : decode prog_20_method_12_code 102 = .ok (.l2i, 1) := by decide +kernel
theorem d13_103 : decode prog_20_method_12_code 103 = .ok (.iadd, 1) := by decide +kernel
theorem d13_104 : decode prog_20_method_12_code 104 = .ok (.istore 23, 2) := by decide +kernel
theorem d13_106 : decode prog_20_method_12_code 106 = .ok (.lload 20, 2) := by decide +kernel
theorem d13_108 : decode prog_20_method_12_code 108 = .ok (.lload 14, 2) := by decide +kernel
theorem d13_110 : decode prog_20_method_12_code 110 = .ok (.lsub, 1) := by decide +kernel
theorem d13_111 : decode prog_20_method_12_code 111 = .ok (.bipush 63, 2) := by decide +kernel
theorem d13_113 : decode prog_20_method_12_code 113 = .ok (.lshr, 1) := by decide +kernel
theorem d13_114 : decode prog_20_method_12_code 114 = .ok (.l2i, 1) := by decide +kernel
theorem d13_115 : decode prog_20_method_12_code 115 = .ok (.istore 24, 2) := by decide +kernel
theorem d13_117 : decode prog_20_method_12_code 117 = .ok (.iload_n 1, 1) := by decide +kernel
theorem d13_118 : decode prog_20_method_12_code 118 = .ok (.iload 22, 2) := by decide +kernel
theorem d13_120 : decode prog_20_method_12_code 120 = .ok (.iadd, 1) := by decide +kernel
theorem d13_121 : decode prog_20_method_12_code 121 = .ok (.iload 23, 2) := by decide +kernel
theorem d13_123 : decode prog_20_method_12_code 123 = .ok (.iload 22, 2) := by decide +kernel
theorem d13_125 : decode prog_20_method_12_code 125 = .ok (.isub, 1) := by decide +kernel
theorem d13_126 : decode prog_20_method_12_code 126 = .ok (.iload 24, 2) := by decide +kernel
theorem d13_128 : decode prog_20_method_12_code 128 = .ok (.iand, 1) := by decide +kernel
theorem d13_129 : decode prog_20_method_12_code 129 = .ok (.iadd, 1) := by decide +kernel
theorem d13_130 : decode prog_20_method_12_code 130 = .ok (.ireturn, 1) := by decide +kernel
theorem pn_13_p : plainName "com/example/leafcode/leafcode/FourWayHeap" = true := by first | (simp [plainName, overriddenIn]; done) | decide +kernel
theorem ef_13_p (m : MethodId) (a1 : Addr) : entryFrame m #[(.ref a1), (.int (4 : Int32))] 25 = mkF m 0 #[rv a1, iv (4 : Int32), .unset, .unset, .unset, .unset, .unset, .unset, .unset, .unset, .unset, .unset, .unset, .unset, .unset, .unset, .unset, .unset, .unset, .unset, .unset, .unset, .unset, .unset, .unset] [] := by first | (simp [entryFrame, mkF, argsToLocals, Value.category]; done) | rfl
def Q13_p (Z : State) (a1 : Addr) (ky : Addr) (vs : List Int64) (h0 : Heap) (n0 : Nat) (v : Option Value) (h : Heap) (L : List Loc) : Prop := v = some (.int (own_lc (vs.getD 4 0) (vs.getD 5 0) (vs.getD 6 0) (vs.getD 7 0))) ∧ Fr n0 L ∧ h = h0
set_option maxRecDepth 65536 in
set_option maxHeartbeats 40000000 in
theorem rm13_p (l : Launch) (Z : State) (a0 : Array Value) (hw : ∀ d ∈ tables_1, d.before a0 Z = true) (ws : List Jvm.Cond) (a1 : Addr) (ky : Addr) (vs : List Int64) (h0 : Heap) (n0 : Nat) (Z0 : n0 ≤ h0.size) (fp0 : Fld Z h0 a1 own_C "keys" "[J" (.ref ky)) (fp1 : Fld Z h0 a1 own_C "nodes" "[I" .null) (fp2 : own_Arj Z h0 ky vs) (hlen : 8 ≤ vs.length) :
    MetFree l (⟨"com/example/leafcode/leafcode/FourWayHeap", "leastChild", "(I)I"⟩ : MethodName) (head1 (Jvm.Cond.code (⟨"com/example/leafcode/leafcode/FourWayHeap", "leastChild", "(I)I"⟩ : MethodName) prog_20_method_12_code 25 (some .int) :: ws) ({ frames := 0, cells := 0, slots := 0, locals := 0 } : Room)) (fun a U => a = #[(.ref a1), (.int (4 : Int32))] ∧ Z.Warmed39 U.vm ∧ U.heap = h0) (fun _ _ _ _ _ => True) (fun _ U o U' => ∃ v L, o = .returned v ∧ Q13_p Z a1 ky vs h0 n0 v U'.heap L ∧ FrameEnd U o U' L ({ frames := 0, cells := 0, slots := 0, locals := 0 } : Room).cells ({ frames := 0, cells := 0, slots := 0, locals := 0 } : Room).slots) := by
  refine MetFree.of_bodySF (plainFor_of_name pn_13_p) hisR ?_
  intro p e s m args below meth c s₁ Bd hml0 hP hK
  obtain ⟨rfl, hZ, hh⟩ := hP
  have hx := Bd.exec
  have hby := Bd.bytes
  have hml : c.maxLocals = 25 := hml0
  have hown : s.vm.findClass "com/example/leafcode/leafcode/FourWayHeap" = some m.cls := findClass_of_methodNamed Bd.named
  have hnm := (name_of_methodNamed Bd.named Bd.method).1
  have X0 : Stand p l e ({ frames := 0, cells := 0, slots := 0, locals := 0 } : Room) s m #[(.ref a1), (.int (4 : Int32))] below meth c s₁ [] 0 0 := Stand.of_body Bd
  have e0 : s₁.heap = h0 := by rw [← hh, Bd.state]; rfl
  have N0 := Fr.nil n0
  refine own_start (fun t k => castTop (ef_13_p m a1) k) ?_
  show own_G p.tables e below _ (s₁.setTop (mkF m 0 #[rv a1, iv 4, .unset, .unset, .unset, .unset, .unset, .unset, .unset, .unset, .unset, .unset, .unset, .unset, .unset, .unset, .unset, .unset, .unset, .unset, .unset, .unset, .unset, .unset, .unset] []))
  refine own_al X0.here hx rfl (hb hby d13_0) rfl rfl ?_
  obtain ⟨T1, X1, e1, st1⟩ := getF X0 hx hZ hown (host := "") (Or.inl (own_w hw 45 rfl)) Via.refl e0 fp1 (g := (mkF m 1 #[rv a1, iv 4, .unset, .unset, .unset, .unset, .unset, .unset, .unset, .unset, .unset, .unset, .unset, .unset, .unset, .unset, .unset, .unset, .unset, .unset, .unset, .unset, .unset, .unset, .unset] [(.ref a1)])) rfl rfl (hb hby d13_1)
  refine own_step st1 ?_
  refine own_step (fun t k => XS.ifnonnullNo X1.here hx rfl (hb hby d13_4) rfl k) ?_
  refine own_al X1.here hx rfl (hb hby d13_7) rfl rfl ?_
  obtain ⟨T2, X2, e2, st2⟩ := getF X1 hx hZ hown (host := "") (Or.inl (own_w hw 21 rfl)) Via.refl e1 fp0 (g := (mkF m 8 #[rv a1, iv 4, .unset, .unset, .unset, .unset, .unset, .unset, .unset, .unset, .unset, .unset, .unset, .unset, .unset, .unset, .unset, .unset, .unset, .unset, .unset, .unset, .unset, .unset, .unset] [(.ref a1)])) rfl rfl (hb hby d13_8)
  refine own_step st2 ?_
  refine own_il X2.here hx rfl (hb hby d13_11) rfl ?_
  refine own_step (own_laload X2 hx hZ e2 fp2 (own_ib hlen (by decide) (by decide)) (g := (mkF m 12 #[rv a1, iv 4, .unset, .unset, .unset, .unset, .unset, .unset, .unset, .unset, .unset, .unset, .unset, .unset, .unset, .unset, .unset, .unset, .unset, .unset, .unset, .unset, .unset, .unset, .unset] [(.int 4), (.ref ky)])) rfl rfl (hb hby d13_12)) ?_
  show own_G p.tables e below _ (T2.setTop (mkF m 13 #[rv a1, iv 4, .unset, .unset, .unset, .unset, .unset, .unset, .unset, .unset, .unset, .unset, .unset, .unset, .unset, .unset, .unset, .unset, .unset, .unset, .unset, .unset, .unset, .unset, .unset] [(.long (vs.getD 4 0))]))
  refine own_nm ((vs.getD 4 0) : Int64) (fun la => T2.setTop (mkF m 13 #[rv a1, iv 4, .unset, .unset, .unset, .unset, .unset, .unset, .unset, .unset, .unset, .unset, .unset, .unset, .unset, .unset, .unset, .unset, .unset, .unset, .unset, .unset, .unset, .unset, .unset] [(.long la)])) ?_
  intro la hd_la
  show own_G p.tables e below _ (T2.setTop (mkF m 13 #[rv a1, iv 4, .unset, .unset, .unset, .unset, .unset, .unset, .unset, .unset, .unset, .unset, .unset, .unset, .unset, .unset, .unset, .unset, .unset, .unset, .unset, .unset, .unset, .unset, .unset] [(.long la)]))
  refine own_step (fun t k => XS.lstoreN X2.here hx rfl (hb hby d13_13) rfl (l' := #[rv a1, iv 4, .val (.long la), .second, .unset, .unset, .unset, .unset, .unset, .unset, .unset, .unset, .unset, .unset, .unset, .unset, .unset, .unset, .unset, .unset, .unset, .unset, .unset, .unset, .unset]) rfl k) ?_
  refine own_al X2.here hx rfl (hb hby d13_14) rfl rfl ?_
  obtain ⟨T4, X4, e4, st4⟩ := getF X2 hx hZ hown (host := "") (Or.inl (own_w hw 21 rfl)) Via.refl e2 fp0 (g := (mkF m 15 #[rv a1, iv 4, .val (.long la), .second, .unset, .unset, .unset, .unset, .unset, .unset, .unset, .unset, .unset, .unset, .unset, .unset, .unset, .unset, .unset, .unset, .unset, .unset, .unset, .unset, .unset] [(.ref a1)])) rfl rfl (hb hby d13_15)
  refine own_step st4 ?_
  refine own_il X4.here hx rfl (hb hby d13_18) rfl ?_
  refine own_ic X4.here hx rfl (hb hby d13_19) ?_
  refine own_step (fun t k => XS.iadd X4.here hx rfl (hb hby d13_20) rfl k) ?_
  refine own_step (own_laload X4 hx hZ e4 fp2 (own_ib hlen (by decide) (by decide)) (g := (mkF m 21 #[rv a1, iv 4, .val (.long la), .second, .unset, .unset, .unset, .unset, .unset, .unset, .unset, .unset, .unset, .unset, .unset, .unset, .unset, .unset, .unset, .unset, .unset, .unset, .unset, .unset, .unset] [(.int 5), (.ref ky)])) rfl rfl (hb hby d13_21)) ?_
  show own_G p.tables e below _ (T4.setTop (mkF m 22 #[rv a1, iv 4, .val (.long la), .second, .unset, .unset, .unset, .unset, .unset, .unset, .unset, .unset, .unset, .unset, .unset, .unset, .unset, .unset, .unset, .unset, .unset, .unset, .unset, .unset, .unset] [(.long (vs.getD 5 0))]))
  refine own_nm ((vs.getD 5 0) : Int64) (fun lb => T4.setTop (mkF m 22 #[rv a1, iv 4, .val (.long la), .second, .unset, .unset, .unset, .unset, .unset, .unset, .unset, .unset, .unset, .unset, .unset, .unset, .unset, .unset, .unset, .unset, .unset, .unset, .unset, .unset, .unset] [(.long lb)])) ?_
  intro lb hd_lb
  show own_G p.tables e below _ (T4.setTop (mkF m 22 #[rv a1, iv 4, .val (.long la), .second, .unset, .unset, .unset, .unset, .unset, .unset, .unset, .unset, .unset, .unset, .unset, .unset, .unset, .unset, .unset, .unset, .unset, .unset, .unset, .unset, .unset] [(.long lb)]))
  refine own_step (fun t k => XS.lstore X4.here hx rfl (hb hby d13_22) rfl (l' := #[rv a1, iv 4, .val (.long la), .second, .val (.long lb), .second, .unset, .unset, .unset, .unset, .unset, .unset, .unset, .unset, .unset, .unset, .unset, .unset, .unset, .unset, .unset, .unset, .unset, .unset, .unset]) rfl k) ?_
  refine own_al X4.here hx rfl (hb hby d13_24) rfl rfl ?_
  obtain ⟨T6, X6, e6, st6⟩ := getF X4 hx hZ hown (host := "") (Or.inl (own_w hw 21 rfl)) Via.refl e4 fp0 (g := (mkF m 25 #[rv a1, iv 4, .val (.long la), .second, .val (.long lb), .second, .unset, .unset, .unset, .unset, .unset, .unset, .unset, .unset, .unset, .unset, .unset, .unset, .unset, .unset, .unset, .unset, .unset, .unset, .unset] [(.ref a1)])) rfl rfl (hb hby d13_25)
  refine own_step st6 ?_
  refine own_il X6.here hx rfl (hb hby d13_28) rfl ?_
  refine own_ic X6.here hx rfl (hb hby d13_29) ?_
  refine own_step (fun t k => XS.iadd X6.here hx rfl (hb hby d13_30) rfl k) ?_
  refine own_step (own_laload X6 hx hZ e6 fp2 (own_ib hlen (by decide) (by decide)) (g := (mkF m 31 #[rv a1, iv 4, .val (.long la), .second, .val (.long lb), .second, .unset, .unset, .unset, .unset, .unset, .unset, .unset, .unset, .unset, .unset, .unset, .unset, .unset, .unset, .unset, .unset, .unset, .unset, .unset] [(.int 6), (.ref ky)])) rfl rfl (hb hby d13_31)) ?_
  clear X1 X2 X4 e1 e2 e4 st1 st2 st4 st6
  show own_G p.tables e below _ (T6.setTop (mkF m 32 #[rv a1, iv 4, .val (.long la), .second, .val (.long lb), .second, .unset, .unset, .unset, .unset, .unset, .unset, .unset, .unset, .unset, .unset, .unset, .unset, .unset, .unset, .unset, .unset, .unset, .unset, .unset] [(.long (vs.getD 6 0))]))
  refine own_nm ((vs.getD 6 0) : Int64) (fun lc_ => T6.setTop (mkF m 32 #[rv a1, iv 4, .val (.long la), .second, .val (.long lb), .second, .unset, .unset, .unset, .unset, .unset, .unset, .unset, .unset, .unset, .unset, .unset, .unset, .unset, .unset, .unset, .unset, .unset, .unset, .unset] [(.long lc_)])) ?_
  intro lc_ hd_lc_
  show own_G p.tables e below _ (T6.setTop (mkF m 32 #[rv a1, iv 4, .val (.long la), .second, .val (.long lb), .second, .unset, .unset, .unset, .unset, .unset, .unset, .unset, .unset, .unset, .unset, .unset, .unset, .unset, .unset, .unset, .unset, .unset, .unset, .unset] [(.long lc_)]))
  refine own_step (fun t k => XS.lstore X6.here hx rfl (hb hby d13_32) rfl (l' := #[rv a1, iv 4, .val (.long la), .second, .val (.long lb), .second, .val (.long lc_), .second, .unset, .unset, .unset, .unset, .unset, .unset, .unset, .unset, .unset, .unset, .unset, .unset, .unset, .unset, .unset, .unset, .unset]) rfl k) ?_
  refine own_al X6.here hx rfl (hb hby d13_34) rfl rfl ?_
  obtain ⟨T8, X8, e8, st8⟩ := getF X6 hx hZ hown (host := "") (Or.inl (own_w hw 21 rfl)) Via.refl e6 fp0 (g := (mkF m 35 #[rv a1, iv 4, .val (.long la), .second, .val (.long lb), .second, .val (.long lc_), .second, .unset, .unset, .unset, .unset, .unset, .unset, .unset, .unset, .unset, .unset, .unset, .unset, .unset, .unset, .unset, .unset, .unset] [(.ref a1)])) rfl rfl (hb hby d13_35)
  refine own_step st8 ?_
  refine own_il X8.here hx rfl (hb hby d13_38) rfl ?_
  refine own_ic X8.here hx rfl (hb hby d13_39) ?_
  refine own_step (fun t k => XS.iadd X8.here hx rfl (hb hby d13_40) rfl k) ?_
  refine own_step (own_laload X8 hx hZ e8 fp2 (own_ib hlen (by decide) (by decide)) (g := (mkF m 41 #[rv a1, iv 4, .val (.long la), .second, .val (.long lb), .second, .val (.long lc_), .second, .unset, .unset, .unset, .unset, .unset, .unset, .unset, .unset, .unset, .unset, .unset, .unset, .unset, .unset, .unset, .unset, .unset] [(.int 7), (.ref ky)])) rfl rfl (hb hby d13_41)) ?_
  show own_G p.tables e below _ (T8.setTop (mkF m 42 #[rv a1, iv 4, .val (.long la), .second, .val (.long lb), .second, .val (.long lc_), .second, .unset, .unset, .unset, .unset, .unset, .unset, .unset, .unset, .unset, .unset, .unset, .unset, .unset, .unset, .unset, .unset, .unset] [(.long (vs.getD 7 0))]))
  refine own_nm ((vs.getD 7 0) : Int64) (fun ld => T8.setTop (mkF m 42 #[rv a1, iv 4, .val (.long la), .second, .val (.long lb), .second, .val (.long lc_), .second, .unset, .unset, .unset, .unset, .unset, .unset, .unset, .unset, .unset, .unset, .unset, .unset, .unset, .unset, .unset, .unset, .unset] [(.long ld)])) ?_
  intro ld hd_ld
  show own_G p.tables e below _ (T8.setTop (mkF m 42 #[rv a1, iv 4, .val (.long la), .second, .val (.long lb), .second, .val (.long lc_), .second, .unset, .unset, .unset, .unset, .unset, .unset, .unset, .unset, .unset, .unset, .unset, .unset, .unset, .unset, .unset, .unset, .unset] [(.long ld)]))
  refine own_step (fun t k => XS.lstore X8.here hx rfl (hb hby d13_42) rfl (l' := #[rv a1, iv 4, .val (.long la), .second, .val (.long lb), .second, .val (.long lc_), .second, .val (.long ld), .second, .unset, .unset, .unset, .unset, .unset, .unset, .unset, .unset, .unset, .unset, .unset, .unset, .unset, .unset, .unset]) rfl k) ?_
  refine own_lx X8.here hx rfl (hb hby d13_44) rfl ?_
  refine own_step (fun t k => XS.lloadN X8.here hx rfl (hb hby d13_46) rfl k) ?_
  refine own_step (fun t k => XS.lsub X8.here hx rfl (hb hby d13_47) rfl k) ?_
  refine own_nm ((lb - la) : Int64) (fun dab => T8.setTop (mkF m 48 #[rv a1, iv 4, .val (.long la), .second, .val (.long lb), .second, .val (.long lc_), .second, .val (.long ld), .second, .unset, .unset, .unset, .unset, .unset, .unset, .unset, .unset, .unset, .unset, .unset, .unset, .unset, .unset, .unset] [(.long dab)])) ?_
  intro dab hd_dab
  show own_G p.tables e below _ (T8.setTop (mkF m 48 #[rv a1, iv 4, .val (.long la), .second, .val (.long lb), .second, .val (.long lc_), .second, .val (.long ld), .second, .unset, .unset, .unset, .unset, .unset, .unset, .unset, .unset, .unset, .unset, .unset, .unset, .unset, .unset, .unset] [(.long dab)]))
  refine own_step (fun t k => XS.lstore X8.here hx rfl (hb hby d13_48) rfl (l' := #[rv a1, iv 4, .val (.long la), .second, .val (.long lb), .second, .val (.long lc_), .second, .val (.long ld), .second, .val (.long dab), .second, .unset, .unset, .unset, .unset, .unset, .unset, .unset, .unset, .unset, .unset, .unset, .unset, .unset]) rfl k) ?_
  refine own_lx X8.here hx rfl (hb hby d13_50) rfl ?_
  refine own_step (fun t k => XS.bipush X8.here hx rfl (hb hby d13_52) k) ?_
  refine own_step (fun t k => XS.lshr X8.here hx rfl (hb hby d13_54) rfl k) ?_
  refine own_nm ((dab >>> ((63 : Int32) &&& 0x3f).toInt64) : Int64) (fun sab => T8.setTop (mkF m 55 #[rv a1, iv 4, .val (.long la), .second, .val (.long lb), .second, .val (.long lc_), .second, .val (.long ld), .second, .val (.long dab), .second, .unset, .unset, .unset, .unset, .unset, .unset, .unset, .unset, .unset, .unset, .unset, .unset, .unset] [(.long sab)])) ?_
  intro sab hd_sab
  show own_G p.tables e below _ (T8.setTop (mkF m 55 #[rv a1, iv 4, .val (.long la), .second, .val (.long lb), .second, .val (.long lc_), .second, .val (.long ld), .second, .val (.long dab), .second, .unset, .unset, .unset, .unset, .unset, .unset, .unset, .unset, .unset, .unset, .unset, .unset, .unset] [(.long sab)]))
  refine own_step (fun t k => XS.lstore X8.here hx rfl (hb hby d13_55) rfl (l' := #[rv a1, iv 4, .val (.long la), .second, .val (.long lb), .second, .val (.long lc_), .second, .val (.long ld), .second, .val (.long dab), .second, .val (.long sab), .second, .unset, .unset, .unset, .unset, .unset, .unset, .unset, .unset, .unset, .unset, .unset]) rfl k) ?_
  refine own_step (fun t k => XS.lloadN X8.here hx rfl (hb hby d13_57) rfl k) ?_
  refine own_lx X8.here hx rfl (hb hby d13_58) rfl ?_
  refine own_lx X8.here hx rfl (hb hby d13_60) rfl ?_
  refine own_step (fun t k => XS.land X8.here hx rfl (hb hby d13_62) rfl k) ?_
  refine own_step (fun t k => XS.ladd X8.here hx rfl (hb hby d13_63) rfl k) ?_
  refine own_nm ((la + (dab &&& sab)) : Int64) (fun mab => T8.setTop (mkF m 64 #[rv a1, iv 4, .val (.long la), .second, .val (.long lb), .second, .val (.long lc_), .second, .val (.long ld), .second, .val (.long dab), .second, .val (.long sab), .second, .unset, .unset, .unset, .unset, .unset, .unset, .unset, .unset, .unset, .unset, .unset] [(.long mab)])) ?_
  intro mab hd_mab
  show own_G p.tables e below _ (T8.setTop (mkF m 64 #[rv a1, iv 4, .val (.long la), .second, .val (.long lb), .second, .val (.long lc_), .second, .val (.long ld), .second, .val (.long dab), .second, .val (.long sab), .second, .unset, .unset, .unset, .unset, .unset, .unset, .unset, .unset, .unset, .unset, .unset] [(.long mab)]))
  refine own_step (fun t k => XS.lstore X8.here hx rfl (hb hby d13_64) rfl (l' := #[rv a1, iv 4, .val (.long la), .second, .val (.long lb), .second, .val (.long lc_), .second, .val (.long ld), .second, .val (.long dab), .second, .val (.long sab), .second, .val (.long mab), .second, .unset, .unset, .unset, .unset, .unset, .unset, .unset, .unset, .unset]) rfl k) ?_
  refine own_lx X8.here hx rfl (hb hby d13_66) rfl ?_
  refine own_lx X8.here hx rfl (hb hby d13_68) rfl ?_
  refine own_step (fun t k => XS.lsub X8.here hx rfl (hb hby d13_70) rfl k) ?_
  refine own_nm ((ld - lc_) : Int64) (fun dcd => T8.setTop (mkF m 71 #[rv a1, iv 4, .val (.long la), .second, .val (.long lb), .second, .val (.long lc_), .second, .val (.long ld), .second, .val (.long dab), .second, .val (.long sab), .second, .val (.long mab), .second, .unset, .unset, .unset, .unset, .unset, .unset, .unset, .unset, .unset] [(.long dcd)])) ?_
  intro dcd hd_dcd
  show own_G p.tables e below _ (T8.setTop (mkF m 71 #[rv a1, iv 4, .val (.long la), .second, .val (.long lb), .second, .val (.long lc_), .second, .val (.long ld), .second, .val (.long dab), .second, .val (.long sab), .second, .val (.long mab), .second, .unset, .unset, .unset, .unset, .unset, .unset, .unset, .unset, .unset] [(.long dcd)]))
  refine own_step (fun t k => XS.lstore X8.here hx rfl (hb hby d13_71) rfl (l' := #[rv a1, iv 4, .val (.long la), .second, .val (.long lb), .second, .val (.long lc_), .second, .val (.long ld), .second, .val (.long dab), .second, .val (.long sab), .second, .val (.long mab), .second, .val (.long dcd), .second, .unset, .unset, .unset, .unset, .unset, .unset, .unset]) rfl k) ?_
  refine own_lx X8.here hx rfl (hb hby d13_73) rfl ?_
  refine own_step (fun t k => XS.bipush X8.here hx rfl (hb hby d13_75) k) ?_
  refine own_step (fun t k => XS.lshr X8.here hx rfl (hb hby d13_77) rfl k) ?_
  refine own_nm ((dcd >>> ((63 : Int32) &&& 0x3f).toInt64) : Int64) (fun scd => T8.setTop (mkF m 78 #[rv a1, iv 4, .val (.long la), .second, .val (.long lb), .second, .val (.long lc_), .second, .val (.long ld), .second, .val (.long dab), .second, .val (.long sab), .second, .val (.long mab), .second, .val (.long dcd), .second, .unset, .unset, .unset, .unset, .unset, .unset, .unset] [(.long scd)])) ?_
  intro scd hd_scd
  show own_G p.tables e below _ (T8.setTop (mkF m 78 #[rv a1, iv 4, .val (.long la), .second, .val (.long lb), .second, .val (.long lc_), .second, .val (.long ld), .second, .val (.long dab), .second, .val (.long sab), .second, .val (.long mab), .second, .val (.long dcd), .second, .unset, .unset, .unset, .unset, .unset, .unset, .unset] [(.long scd)]))
  refine own_step (fun t k => XS.lstore X8.here hx rfl (hb hby d13_78) rfl (l' := #[rv a1, iv 4, .val (.long la), .second, .val (.long lb), .second, .val (.long lc_), .second, .val (.long ld), .second, .val (.long dab), .second, .val (.long sab), .second, .val (.long mab), .second, .val (.long dcd), .second, .val (.long scd), .second, .unset, .unset, .unset, .unset, .unset]) rfl k) ?_
  refine own_lx X8.here hx rfl (hb hby d13_80) rfl ?_
  refine own_lx X8.here hx rfl (hb hby d13_82) rfl ?_
  refine own_lx X8.here hx rfl (hb hby d13_84) rfl ?_
  refine own_step (fun t k => XS.land X8.here hx rfl (hb hby d13_86) rfl k) ?_
  refine own_step (fun t k => XS.ladd X8.here hx rfl (hb hby d13_87) rfl k) ?_
  refine own_nm ((lc_ + (dcd &&& scd)) : Int64) (fun mcd => T8.setTop (mkF m 88 #[rv a1, iv 4, .val (.long la), .second, .val (.long lb), .second, .val (.long lc_), .second, .val (.long ld), .second, .val (.long dab), .second, .val (.long sab), .second, .val (.long mab), .second, .val (.long dcd), .second, .val (.long scd), .second, .unset, .unset, .unset, .unset, .unset] [(.long mcd)])) ?_
  intro mcd hd_mcd
  show own_G p.tables e below _ (T8.setTop (mkF m 88 #[rv a1, iv 4, .val (.long la), .second, .val (.long lb), .second, .val (.long lc_), .second, .val (.long ld), .second, .val (.long dab), .second, .val (.long sab), .second, .val (.long mab), .second, .val (.long dcd), .second, .val (.long scd), .second, .unset, .unset, .unset, .unset, .unset] [(.long mcd)]))
  refine own_step (fun t k => XS.lstore X8.here hx rfl (hb hby d13_88) rfl (l' := #[rv a1, iv 4, .val (.long la), .second, .val (.long lb), .second, .val (.long lc_), .second, .val (.long ld), .second, .val (.long dab), .second, .val (.long sab), .second, .val (.long mab), .second, .val (.long dcd), .second, .val (.long scd), .second, .val (.long mcd), .second, .unset, .unset, .unset]) rfl k) ?_
  refine own_lx X8.here hx rfl (hb hby d13_90) rfl ?_
  refine own_step (fun t k => XS.lconst X8.here hx rfl (hb hby d13_92) k) ?_
  refine own_step (fun t k => XS.land X8.here hx rfl (hb hby d13_93) rfl k) ?_
  refine own_step (fun t k => XS.l2i X8.here hx rfl (hb hby d13_94) rfl k) ?_
  refine own_nm (((sab &&& (1 : Int64)).toInt32) : Int32) (fun oab => T8.setTop (mkF m 95 #[rv a1, iv 4, .val (.long la), .second, .val (.long lb), .second, .val (.long lc_), .second, .val (.long ld), .second, .val (.long dab), .second, .val (.long sab), .second, .val (.long mab), .second, .val (.long dcd), .second, .val (.long scd), .second, .val (.long mcd), .second, .unset, .unset, .unset] [(.int oab)])) ?_
  intro oab hd_oab
  show own_G p.tables e below _ (T8.setTop (mkF m 95 #[rv a1, iv 4, .val (.long la), .second, .val (.long lb), .second, .val (.long lc_), .second, .val (.long ld), .second, .val (.long dab), .second, .val (.long sab), .second, .val (.long mab), .second, .val (.long dcd), .second, .val (.long scd), .second, .val (.long mcd), .second, .unset, .unset, .unset] [(.int oab)]))
  refine own_step (fun t k => XS.istore X8.here hx rfl (hb hby d13_95) rfl (l' := #[rv a1, iv 4, .val (.long la), .second, .val (.long lb), .second, .val (.long lc_), .second, .val (.long ld), .second, .val (.long dab), .second, .val (.long sab), .second, .val (.long mab), .second, .val (.long dcd), .second, .val (.long scd), .second, .val (.long mcd), .second, iv oab, .unset, .unset]) rfl k) ?_
  refine own_ic X8.here hx rfl (hb hby d13_97) ?_
  refine own_lx X8.here hx rfl (hb hby d13_98) rfl ?_
  refine own_step (fun t k => XS.lconst X8.here hx rfl (hb hby d13_100) k) ?_
  refine own_step (fun t k => XS.land X8.here hx rfl (hb hby d13_101) rfl k) ?_
  refine own_step (fun t k => XS.l2i X8.here hx rfl (hb hby d13_102) rfl k) ?_
  refine own_step (fun t k => XS.iadd X8.here hx rfl (hb hby d13_103) rfl k) ?_
  show own_G p.tables e below _ (T8.setTop (mkF m 104 #[rv a1, iv 4, .val (.long la), .second, .val (.long lb), .second, .val (.long lc_), .second, .val (.long ld), .second, .val (.long dab), .second, .val (.long sab), .second, .val (.long mab), .second, .val (.long dcd), .second, .val (.long scd), .second, .val (.long mcd), .second, iv oab, .unset, .unset] [(.int ((2 : Int32) + ((scd &&& (1 : Int64)).toInt32)))]))
  refine own_nm (((2 : Int32) + ((scd &&& (1 : Int64)).toInt32)) : Int32) (fun ocd => T8.setTop (mkF m 104 #[rv a1, iv 4, .val (.long la), .second, .val (.long lb), .second, .val (.long lc_), .second, .val (.long ld), .second, .val (.long dab), .second, .val (.long sab), .second, .val (.long mab), .second, .val (.long dcd), .second, .val (.long scd), .second, .val (.long mcd), .second, iv oab, .unset, .unset] [(.int ocd)])) ?_
  intro ocd hd_ocd
  show own_G p.tables e below _ (T8.setTop (mkF m 104 #[rv a1, iv 4, .val (.long la), .second, .val (.long lb), .second, .val (.long lc_), .second, .val (.long ld), .second, .val (.long dab), .second, .val (.long sab), .second, .val (.long mab), .second, .val (.long dcd), .second, .val (.long scd), .second, .val (.long mcd), .second, iv oab, .unset, .unset] [(.int ocd)]))
  refine own_step (fun t k => XS.istore X8.here hx rfl (hb hby d13_104) rfl (l' := #[rv a1, iv 4, .val (.long la), .second, .val (.long lb), .second, .val (.long lc_), .second, .val (.long ld), .second, .val (.long dab), .second, .val (.long sab), .second, .val (.long mab), .second, .val (.long dcd), .second, .val (.long scd), .second, .val (.long mcd), .second, iv oab, iv ocd, .unset]) rfl k) ?_
  refine own_lx X8.here hx rfl (hb hby d13_106) rfl ?_
  refine own_lx X8.here hx rfl (hb hby d13_108) rfl ?_
  refine own_step (fun t k => XS.lsub X8.here hx rfl (hb hby d13_110) rfl k) ?_
  refine own_step (fun t k => XS.bipush X8.here hx rfl (hb hby d13_111) k) ?_
  refine own_step (fun t k => XS.lshr X8.here hx rfl (hb hby d13_113) rfl k) ?_
  refine own_step (fun t k => XS.l2i X8.here hx rfl (hb hby d13_114) rfl k) ?_
  show own_G p.tables e below _ (T8.setTop (mkF m 115 #[rv a1, iv 4, .val (.long la), .second, .val (.long lb), .second, .val (.long lc_), .second, .val (.long ld), .second, .val (.long dab), .second, .val (.long sab), .second, .val (.long mab), .second, .val (.long dcd), .second, .val (.long scd), .second, .val (.long mcd), .second, iv oab, iv ocd, .unset] [(.int (((mcd - mab) >>> ((63 : Int32) &&& 0x3f).toInt64).toInt32))]))
  refine own_nm ((((mcd - mab) >>> ((63 : Int32) &&& 0x3f).toInt64).toInt32) : Int32) (fun csm => T8.setTop (mkF m 115 #[rv a1, iv 4, .val (.long la), .second, .val (.long lb), .second, .val (.long lc_), .second, .val (.long ld), .second, .val (.long dab), .second, .val (.long sab), .second, .val (.long mab), .second, .val (.long dcd), .second, .val (.long scd), .second, .val (.long mcd), .second, iv oab, iv ocd, .unset] [(.int csm)])) ?_
  intro csm hd_csm
  show own_G p.tables e below _ (T8.setTop (mkF m 115 #[rv a1, iv 4, .val (.long la), .second, .val (.long lb), .second, .val (.long lc_), .second, .val (.long ld), .second, .val (.long dab), .second, .val (.long sab), .second, .val (.long mab), .second, .val (.long dcd), .second, .val (.long scd), .second, .val (.long mcd), .second, iv oab, iv ocd, .unset] [(.int csm)]))
  refine own_step (fun t k => XS.istore X8.here hx rfl (hb hby d13_115) rfl (l' := #[rv a1, iv 4, .val (.long la), .second, .val (.long lb), .second, .val (.long lc_), .second, .val (.long ld), .second, .val (.long dab), .second, .val (.long sab), .second, .val (.long mab), .second, .val (.long dcd), .second, .val (.long scd), .second, .val (.long mcd), .second, iv oab, iv ocd, iv csm]) rfl k) ?_
  refine own_il X8.here hx rfl (hb hby d13_117) rfl ?_
  refine own_ix X8.here hx rfl (hb hby d13_118) rfl ?_
  refine own_step (fun t k => XS.iadd X8.here hx rfl (hb hby d13_120) rfl k) ?_
  refine own_ix X8.here hx rfl (hb hby d13_121) rfl ?_
  refine own_ix X8.here hx rfl (hb hby d13_123) rfl ?_
  refine own_step (fun t k => XS.isub X8.here hx rfl (hb hby d13_125) rfl k) ?_
  show own_G p.tables e below _ (T8.setTop (mkF m 126 #[rv a1, iv 4, .val (.long la), .second, .val (.long lb), .second, .val (.long lc_), .second, .val (.long ld), .second, .val (.long dab), .second, .val (.long sab), .second, .val (.long mab), .second, .val (.long dcd), .second, .val (.long scd), .second, .val (.long mcd), .second, iv oab, iv ocd, iv csm] [(.int (ocd - oab)), (.int ((4 : Int32) + oab))]))
  refine own_ix X8.here hx rfl (hb hby d13_126) rfl ?_
  refine own_step (fun t k => XS.iand X8.here hx rfl (hb hby d13_128) rfl k) ?_
  refine own_step (fun t k => XS.iadd X8.here hx rfl (hb hby d13_129) rfl k) ?_
  obtain ⟨fs, hr, hrun, hended, hW, hsame⟩ := X8.leave (v := some (.int (((4 : Int32) + oab) + ((ocd - oab) &&& csm)))) (fun h => by rw [Bd.returns] at h; cases h)
  refine own_done (retI X8 hx Bd.returns (hb hby d13_130) hr) hrun hended ⟨_, _, rfl, ?_, ⟨_, rfl⟩, hW, hsame.mono (by decide) (by decide)⟩
  show Q13_p Z a1 ky vs h0 n0 _ T8.heap _
  rw [e8]
  exact ⟨congrArg (fun z => some (Value.int z)) (show (((4 : Int32) + oab) + ((ocd - oab) &&& csm)) = (own_lc (vs.getD 4 0) (vs.getD 5 0) (vs.getD 6 0) (vs.getD 7 0)) from by subst hd_la hd_lb hd_lc_ hd_ld hd_dab hd_sab hd_mab hd_dcd hd_scd hd_mcd hd_oab hd_ocd hd_csm; rfl), N0, rfl⟩
theorem d14_0 : decode prog_20_method_13_code 0 = .ok (.aload_n 0, 1) := by decide +kernel
theorem d14_1 : decode prog_20_method_13_code 1 = .ok (.getfield 35, 3) := by decide +kernel
theorem d14_4 : decode prog_20_method_13_code 4 = .ok (.ifnonnull 25, 3) := by decide +kernel
theorem d14_7 : decode prog_20_method_13_code 7 = .ok (.aload_n 0, 1) := by decide +kernel
theorem d14_8 : decode prog_20_method_13_code 8 = .ok (.getfield 15, 3) := by decide +kernel
theorem d14_11 : decode prog_20_method_13_code 11 = .ok (.iload_n 1, 1) := by decide +kernel
theorem d14_12 : decode prog_20_method_13_code 12 = .ok (.laload, 1) := by decide +kernel
theorem d14_13 : decode prog_20_method_13_code 13 = .ok (.aload_n 0, 1) := by decide +kernel
theorem d14_14 : decode prog_20_method_13_code 14 = .ok (.getfield 15, 3) := by decide +kernel
theorem d14_17 : decode prog_20_method_13_code 17 = .ok (.iload_n 2, 1) := by decide +kernel
theorem d14_18 : decode prog_20_method_13_code 18 = .ok (.laload, 1) := by decide +kernel
theorem d14_19 : decode prog_20_method_13_code 19 = .ok (.lcmp, 1) := by decide +kernel
theorem d14_20 : decode prog_20_method_13_code 20 = .ok (.ifCond .ge 7, 3) := by decide +kernel
theorem d14_23 : decode prog_20_method_13_code 23 = .ok (.iconst 1, 1) := by decide +kernel
theorem d14_24 : decode prog_20_method_13_code 24 = .ok (.goto 4, 3) := by decide +kernel
theorem d14_27 : decode prog_20_method_13_code 27 = .ok (.iconst 0, 1) := by decide +kernel
theorem d14_28 : decode prog_20_method_13_code 28 = .ok (.ireturn, 1) := by decide +kernel
theorem pn_14_p : plainName "com/example/leafcode/leafcode/FourWayHeap" = true := by first | (simp [plainName, overriddenIn]; done) | decide +kernel
theorem ef_14_p (m : MethodId) (a1 : Addr) (pa : Int32) (pb : Int32) : entryFrame m #[(.ref a1), (.int pa), (.int pb)] 3 = mkF m 0 #[rv a1, iv pa, iv pb] [] := by first | (simp [entryFrame, mkF, argsToLocals, Value.category]; done) | rfl
def Q14_p (Z : State) (a1 : Addr) (pa : Int32) (pb : Int32) (ky : Addr) (vs : List Int64) (h0 : Heap) (n0 : Nat) (v : Option Value) (h : Heap) (L : List Loc) : Prop := v = some (.int (own_lt (vs.getD pa.toNatClampNeg 0) (vs.getD pb.toNatClampNeg 0))) ∧ Fr n0 L ∧ h = h0
set_option maxRecDepth 65536 in
set_option maxHeartbeats 40000000 in
theorem rm14_p (l : Launch) (Z : State) (a0 : Array Value) (hw : ∀ d ∈ tables_1, d.before a0 Z = true) (ws : List Jvm.Cond) (a1 : Addr) (pa : Int32) (pb : Int32) (ky : Addr) (vs : List Int64) (h0 : Heap) (n0 : Nat) (Z0 : n0 ≤ h0.size) (fp0 : Fld Z h0 a1 own_C "keys" "[J" (.ref ky)) (fp1 : Fld Z h0 a1 own_C "nodes" "[I" .null) (fp2 : own_Arj Z h0 ky vs) (hpa : own_Inb pa vs.length) (hpb : own_Inb pb vs.length) :
    MetFree l (⟨"com/example/leafcode/leafcode/FourWayHeap", "precedes", "(II)Z"⟩ : MethodName) (head1 (Jvm.Cond.code (⟨"com/example/leafcode/leafcode/FourWayHeap", "precedes", "(II)Z"⟩ : MethodName) prog_20_method_13_code 3 (some .boolean) :: ws) ({ frames := 0, cells := 0, slots := 0, locals := 0 } : Room)) (fun a U => a = #[(.ref a1), (.int pa), (.int pb)] ∧ Z.Warmed39 U.vm ∧ U.heap = h0) (fun _ _ _ _ _ => True) (fun _ U o U' => ∃ v L, o = .returned v ∧ Q14_p Z a1 pa pb ky vs h0 n0 v U'.heap L ∧ FrameEnd U o U' L ({ frames := 0, cells := 0, slots := 0, locals := 0 } : Room).cells ({ frames := 0, cells := 0, slots := 0, locals := 0 } : Room).slots) := by
  refine MetFree.of_bodySF (plainFor_of_name pn_14_p) hisR ?_
  intro p e s m args below meth c s₁ Bd hml0 hP hK
  obtain ⟨rfl, hZ, hh⟩ := hP
  have hx := Bd.exec
  have hby := Bd.bytes
  have hml : c.maxLocals = 3 := hml0
  have hown : s.vm.findClass "com/example/leafcode/leafcode/FourWayHeap" = some m.cls := findClass_of_methodNamed Bd.named
  have hnm := (name_of_methodNamed Bd.named Bd.method).1
  have X0 : Stand p l e ({ frames := 0, cells := 0, slots := 0, locals := 0 } : Room) s m #[(.ref a1), (.int pa), (.int pb)] below meth c s₁ [] 0 0 := Stand.of_body Bd
  have e0 : s₁.heap = h0 := by rw [← hh, Bd.state]; rfl
  have N0 := Fr.nil n0
  refine own_start (fun t k => castTop (ef_14_p m a1 pa pb) k) ?_
  show own_G p.tables e below _ (s₁.setTop (mkF m 0 #[rv a1, iv pa, iv pb] []))
  refine own_al X0.here hx rfl (hb hby d14_0) rfl rfl ?_
  obtain ⟨T1, X1, e1, st1⟩ := getF X0 hx hZ hown (host := "") (Or.inl (own_w hw 45 rfl)) Via.refl e0 fp1 (g := (mkF m 1 #[rv a1, iv pa, iv pb] [(.ref a1)])) rfl rfl (hb hby d14_1)
  refine own_step st1 ?_
  refine own_step (fun t k => XS.ifnonnullNo X1.here hx rfl (hb hby d14_4) rfl k) ?_
  refine own_al X1.here hx rfl (hb hby d14_7) rfl rfl ?_
  obtain ⟨T2, X2, e2, st2⟩ := getF X1 hx hZ hown (host := "") (Or.inl (own_w hw 21 rfl)) Via.refl e1 fp0 (g := (mkF m 8 #[rv a1, iv pa, iv pb] [(.ref a1)])) rfl rfl (hb hby d14_8)
  refine own_step st2 ?_
  refine own_il X2.here hx rfl (hb hby d14_11) rfl ?_
  refine own_step (own_laload X2 hx hZ e2 fp2 hpa (g := (mkF m 12 #[rv a1, iv pa, iv pb] [(.int pa), (.ref ky)])) rfl rfl (hb hby d14_12)) ?_
  show own_G p.tables e below _ (T2.setTop (mkF m 13 #[rv a1, iv pa, iv pb] [(.long (vs.getD pa.toNatClampNeg 0))]))
  refine own_al X2.here hx rfl (hb hby d14_13) rfl rfl ?_
  obtain ⟨T3, X3, e3, st3⟩ := getF X2 hx hZ hown (host := "") (Or.inl (own_w hw 21 rfl)) Via.refl e2 fp0 (g := (mkF m 14 #[rv a1, iv pa, iv pb] [(.ref a1), (.long (vs.getD pa.toNatClampNeg 0))])) rfl rfl (hb hby d14_14)
  refine own_step st3 ?_
  refine own_il X3.here hx rfl (hb hby d14_17) rfl ?_
  refine own_step (own_laload X3 hx hZ e3 fp2 hpb (g := (mkF m 18 #[rv a1, iv pa, iv pb] [(.int pb), (.ref ky), (.long (vs.getD pa.toNatClampNeg 0))])) rfl rfl (hb hby d14_18)) ?_
  refine own_step (fun t k => XS.lcmp X3.here hx rfl (hb hby d14_19) rfl k) ?_
  by_cases hc4 : (vs.getD pa.toNatClampNeg 0) < (vs.getD pb.toNatClampNeg 0)
  · skip
    refine own_step (fun t k => XS.ifNo X3.here hx rfl (hb hby d14_20) rfl ((if0 _ _).trans (tlt ((lw_lt _ _).mpr hc4)).2.1) k) ?_
    show own_G p.tables e below _ (T3.setTop (mkF m 23 #[rv a1, iv pa, iv pb] []))
    refine own_ic X3.here hx rfl (hb hby d14_23) ?_
    refine own_go X3.here hx rfl (pc0 := 24) (pc' := 28) rfl (hb hby d14_24) (by decide) (by decide) ?_
    obtain ⟨fs, hr, hrun, hended, hW, hsame⟩ := X3.leave (v := some (.int (1 : Int32))) (fun h => by rw [Bd.returns] at h; cases h)
    refine own_done (retN X3 hx (t := .boolean) Bd.returns (by simp) (hb hby d14_28) hr) hrun hended ⟨_, _, rfl, ?_, ⟨_, rfl⟩, hW, hsame.mono (by decide) (by decide)⟩
    show Q14_p Z a1 pa pb ky vs h0 n0 _ T3.heap _
    rw [e3]
    exact ⟨congrArg (fun z => some (Value.int z)) (show (1 : Int32) = (own_lt (vs.getD pa.toNatClampNeg 0) (vs.getD pb.toNatClampNeg 0)) from by unfold own_lt; simp only [if_pos hc4]), N0, rfl⟩
  · skip
    refine own_step (fun t k => XS.ifYes X3.here hx rfl (pc0 := 20) (pc' := 27) rfl (hb hby d14_20) rfl ((if0 _ _).trans (flt (fun q => hc4 ((lw_lt _ _).mp q))).2.1) (by decide) (by decide) k) ?_
    show own_G p.tables e below _ (T3.setTop (mkF m 27 #[rv a1, iv pa, iv pb] []))
    refine own_ic X3.here hx rfl (hb hby d14_27) ?_
    obtain ⟨fs, hr, hrun, hended, hW, hsame⟩ := X3.leave (v := some (.int (0 : Int32))) (fun h => by rw [Bd.returns] at h; cases h)
    refine own_done (retN X3 hx (t := .boolean) Bd.returns (by simp) (hb hby d14_28) hr) hrun hended ⟨_, _, rfl, ?_, ⟨_, rfl⟩, hW, hsame.mono (by decide) (by decide)⟩
    show Q14_p Z a1 pa pb ky vs h0 n0 _ T3.heap _
    rw [e3]
    exact ⟨congrArg (fun z => some (Value.int z)) (show (0 : Int32) = (own_lt (vs.getD pa.toNatClampNeg 0) (vs.getD pb.toNatClampNeg 0)) from by unfold own_lt; simp only [if_neg hc4]), N0, rfl⟩
theorem d11_0 : decode prog_20_method_11_code 0 = .ok (.iload_n 1, 1) := by decide +kernel
theorem d11_1 : decode prog_20_method_11_code 1 = .ok (.istore_n 2, 1) := by decide +kernel
theorem d11_2 : decode prog_20_method_11_code 2 = .ok (.iload_n 1, 1) := by decide +kernel
theorem d11_3 : decode prog_20_method_11_code 3 = .ok (.invokestatic 66, 3) := by decide +kernel
theorem d11_6 : decode prog_20_method_11_code 6 = .ok (.istore_n 3, 1) := by decide +kernel
theorem d11_7 : decode prog_20_method_11_code 7 = .ok (.iload_n 3, 1) := by decide +kernel
theorem d11_8 : decode prog_20_method_11_code 8 = .ok (.aload_n 0, 1) := by decide +kernel
theorem d11_9 : decode prog_20_method_11_code 9 = .ok (.getfield 11, 3) := by decide +kernel
theorem d11_12 : decode prog_20_method_11_code 12 = .ok (.if_icmp .lt 6, 3) := by decide +kernel
theorem d11_15 : decode prog_20_method_11_code 15 = .ok (.goto 23, 3) := by decide +kernel
theorem d11_18 : decode prog_20_method_11_code 18 = .ok (.aload_n 0, 1) := by decide +kernel
theorem d11_19 : decode prog_20_method_11_code 19 = .ok (.iload_n 3, 1) := by decide +kernel
theorem d11_20 : decode prog_20_method_11_code 20 = .ok (.invokevirtual 69, 3) := by decide +kernel
theorem d11_23 : decode prog_20_method_11_code 23 = .ok (.istore 4, 2) := by decide +kernel
theorem d11_25 : decode prog_20_method_11_code 25 = .ok (.aload_n 0, 1) := by decide +kernel
theorem d11_26 : decode prog_20_method_11_code 26 = .ok (.iload 4, 2) := by decide +kernel
theorem d11_28 : decode prog_20_method_11_code 28 = .ok (.iload_n 1, 1) := by decide +kernel
theorem d11_29 : decode prog_20_method_11_code 29 = .ok (.invokevirtual 49, 3) := by decide +kernel
theorem d11_32 : decode prog_20_method_11_code 32 = .ok (.iload 4, 2) := by decide +kernel
theorem d11_34 : decode prog_20_method_11_code 34 = .ok (.istore_n 1, 1) := by decide +kernel
theorem d11_35 : decode prog_20_method_11_code 35 = .ok (.goto (-33), 3) := by decide +kernel
theorem d11_38 : decode prog_20_method_11_code 38 = .ok (.iload_n 1, 1) := by decide +kernel
theorem d11_39 : decode prog_20_method_11_code 39 = .ok (.iload_n 2, 1) := by decide +kernel
theorem d11_40 : decode prog_20_method_11_code 40 = .ok (.if_icmp .le 31, 3) := by decide +kernel
theorem d11_43 : decode prog_20_method_11_code 43 = .ok (.iload_n 1, 1) := by decide +kernel
theorem d11_44 : decode prog_20_method_11_code 44 = .ok (.invokestatic 45, 3) := by decide +kernel
theorem d11_47 : decode prog_20_method_11_code 47 = .ok (.istore_n 3, 1) := by decide +kernel
theorem d11_48 : decode prog_20_method_11_code 48 = .ok (.aload_n 0, 1) := by decide +kernel
theorem d11_49 : decode prog_20_method_11_code 49 = .ok (.iconst 0, 1) := by decide +kernel
theorem d11_50 : decode prog_20_method_11_code 50 = .ok (.iload_n 3, 1) := by decide +kernel
theorem d11_51 : decode prog_20_method_11_code 51 = .ok (.invokevirtual 72, 3) := by decide +kernel
theorem d11_54 : decode prog_20_method_11_code 54 = .ok (.ifCond .ne 6, 3) := by decide +kernel
theorem d11_57 : decode prog_20_method_11_code 57 = .ok (.goto 14, 3) := by decide +kernel
theorem d11_60 : decode prog_20_method_11_code 60 = .ok (.aload_n 0, 1) := by decide +kernel
theorem d11_61 : decode prog_20_method_11_code 61 = .ok (.iload_n 3, 1) := by decide +kernel
theorem d11_62 : decode prog_20_method_11_code 62 = .ok (.iload_n 1, 1) := by decide +kernel
theorem d11_63 : decode prog_20_method_11_code 63 = .ok (.invokevirtual 49, 3) := by decide +kernel
theorem d11_66 : decode prog_20_method_11_code 66 = .ok (.iload_n 3, 1) := by decide +kernel
theorem d11_67 : decode prog_20_method_11_code 67 = .ok (.istore_n 1, 1) := by decide +kernel
theorem d11_68 : decode prog_20_method_11_code 68 = .ok (.goto (-30), 3) := by decide +kernel
theorem d11_71 : decode prog_20_method_11_code 71 = .ok (.aload_n 0, 1) := by decide +kernel
theorem d11_72 : decode prog_20_method_11_code 72 = .ok (.iconst 0, 1) := by decide +kernel
theorem d11_73 : decode prog_20_method_11_code 73 = .ok (.iload_n 1, 1) := by decide +kernel
theorem d11_74 : decode prog_20_method_11_code 74 = .ok (.invokevirtual 49, 3) := by decide +kernel
theorem d11_77 : decode prog_20_method_11_code 77 = .ok (.return_, 1) := by decide +kernel
theorem pn_11_p : plainName "com/example/leafcode/leafcode/FourWayHeap" = true := by first | (simp [plainName, overriddenIn]; done) | decide +kernel
theorem pd_11_p_0 : parseMethodDescriptor "(I)I" = some ⟨[.int], some .int⟩ := by decide +kernel
theorem pd_11_p_1 : parseMethodDescriptor "(II)V" = some ⟨[.int, .int], none⟩ := by decide +kernel
theorem pd_11_p_2 : parseMethodDescriptor "(II)Z" = some ⟨[.int, .int], some .boolean⟩ := by decide +kernel
theorem ef_11_p (m : MethodId) (a1 : Addr) : entryFrame m #[(.ref a1), (.int (3 : Int32))] 5 = mkF m 0 #[rv a1, iv (3 : Int32), .unset, .unset, .unset] [] := by first | (simp [entryFrame, mkF, argsToLocals, Value.category]; done) | rfl
def Q11_p (Z : State) (a1 : Addr) (ky : Addr) (en : Int32) (vs : List Int64) (h0 : Heap) (n0 : Nat) (v : Option Value) (h : Heap) (L : List Loc) : Prop := ∃ (L_ky : List Int64), v = none ∧ Fr n0 L ∧ Keep h0 h [ky] ∧ own_Arj Z h ky L_ky ∧ (L_ky.length = vs.length ∧ (L_ky.getD 3 0).toInt = min (vs.getD 0 0).toInt (own_sel (own_lc (vs.getD 4 0) (vs.getD 5 0) (vs.getD 6 0) (vs.getD 7 0)) (vs.getD 4 0) (vs.getD 5 0) (vs.getD 6 0) (vs.getD 7 0)).toInt)
set_option maxRecDepth 65536 in
set_option maxHeartbeats 40000000 in
theorem rm11_p (l : Launch) (Z : State) (a0 : Array Value) (hw : ∀ d ∈ tables_1, d.before a0 Z = true) (ws : List Jvm.Cond) (a1 : Addr) (ky : Addr) (en : Int32) (vs : List Int64) (h0 : Heap) (n0 : Nat) (Z0 : n0 ≤ h0.size) (fp0 : Exa Z h0 a1 own_C) (fp1 : Fld Z h0 a1 own_C "keys" "[J" (.ref ky)) (fp2 : Fld Z h0 a1 own_C "end" "I" (.int en)) (fp3 : Fld Z h0 a1 own_C "nodes" "[I" .null) (fp4 : own_Arj Z h0 ky vs) (hen4 : (4 : Int32) < en) (hen8 : ¬ (8 : Int32) < en) (hlen : 8 ≤ vs.length) (g_ky : n0 ≤ ky) (ne_a1_ky : a1 ≠ ky) :
    MetFree l (⟨"com/example/leafcode/leafcode/FourWayHeap", "fill", "(I)V"⟩ : MethodName) (head1 (Jvm.Cond.code (⟨"com/example/leafcode/leafcode/FourWayHeap", "fill", "(I)V"⟩ : MethodName) prog_20_method_11_code 5 none :: ws) ({ frames := 1, cells := 0, slots := 0, locals := 36 } : Room)) (fun a U => a = #[(.ref a1), (.int (3 : Int32))] ∧ Z.Warmed39 U.vm ∧ U.heap = h0) (fun _ _ _ _ _ => True) (fun _ U o U' => ∃ v L, o = .returned v ∧ Q11_p Z a1 ky en vs h0 n0 v U'.heap L ∧ FrameEnd U o U' L ({ frames := 1, cells := 0, slots := 0, locals := 36 } : Room).cells ({ frames := 1, cells := 0, slots := 0, locals := 36 } : Room).slots) := by
  refine MetFree.of_bodySF (plainFor_of_name pn_11_p) hisR ?_
  intro p e s m args below meth c s₁ Bd hml0 hP hK
  obtain ⟨rfl, hZ, hh⟩ := hP
  have hx := Bd.exec
  have hby := Bd.bytes
  have hml : c.maxLocals = 5 := hml0
  have hown : s.vm.findClass "com/example/leafcode/leafcode/FourWayHeap" = some m.cls := findClass_of_methodNamed Bd.named
  have hnm := (name_of_methodNamed Bd.named Bd.method).1
  have X0 : Stand p l e ({ frames := 1, cells := 0, slots := 0, locals := 36 } : Room) s m #[(.ref a1), (.int (3 : Int32))] below meth c s₁ [] 0 0 := Stand.of_body Bd
  have e0 : s₁.heap = h0 := by rw [← hh, Bd.state]; rfl
  have N0 := Fr.nil n0
  refine own_start (fun t k => castTop (ef_11_p m a1) k) ?_
  show own_G p.tables e below _ (s₁.setTop (mkF m 0 #[rv a1, iv 3, .unset, .unset, .unset] []))
  refine own_il X0.here hx rfl (hb hby d11_0) rfl ?_
  refine own_step (fun t k => XS.istoreN X0.here hx rfl (hb hby d11_1) rfl (l' := #[rv a1, iv 3, iv 3, .unset, .unset]) rfl k) ?_
  refine own_il X0.here hx rfl (hb hby d11_2) rfl ?_
  obtain ⟨_, _, ⟨T1, L1, k1, n1⟩, -, X1, ⟨Lc1, hQ1, l1, y1, z1⟩, st1⟩ := Jvm.LawKit.callS X0 hx (y := own_y12) hown (mvT hZ (own_w hw 51 rfl)) (mvT hZ (own_w hw 52 rfl)) (mvT hZ (own_w hw 12 rfl)) (mvT hZ (own_w hw 53 rfl)) (by decide) (backOf (W := 0) (rm12 l Z a0 hw [] (3 : Int32) h0 n0 (Nat.le_trans Z0 (Keep.refl h0 [ky]).1) ) hZ (own_w hw 53 rfl) (own_w hw 12 rfl) (by decide) (by decide)) (g := (mkF m 3 #[rv a1, iv 3, iv 3, .unset, .unset] [(.int 3)])) rfl (by rw [hml]; rfl) (argsL := [(.int 3)]) (rest := []) (lenOf pd_11_p_0 rfl) rfl (own_wl rfl) (hb hby d11_3) (fun _ _ => ⟨rfl, e0, (by decide : 0 + 0 ≤ _), (by decide : 0 + 0 ≤ _)⟩)
  dsimp only [Pt.U, Pt.locs, Pt.cells, Pt.slots] at X1 l1 y1 z1 st1 hQ1
  subst y1 z1
  obtain ⟨rfl, N1q, e1⟩ := hQ1
  have N1 : Fr n0 L1 := by rw [l1]; exact Fr.app N0 N1q
  refine own_step st1 ?_
  show own_G p.tables e below _ (T1.setTop (mkF m 6 #[rv a1, iv 3, iv 3, .unset, .unset] [(.int 4)]))
  refine own_step (fun t k => XS.istoreN X1.here hx rfl (hb hby d11_6) rfl (l' := #[rv a1, iv 3, iv 3, iv 4, .unset]) rfl k) ?_
  refine own_il X1.here hx rfl (hb hby d11_7) rfl ?_
  refine own_al X1.here hx rfl (hb hby d11_8) rfl rfl ?_
  obtain ⟨T2, X2, e2, st2⟩ := getF X1 hx hZ hown (host := "") (Or.inl (own_w hw 19 rfl)) Via.refl e1 fp2 (g := (mkF m 9 #[rv a1, iv 3, iv 3, iv 4, .unset] [(.ref a1), (.int 4)])) rfl rfl (hb hby d11_9)
  refine own_step st2 ?_
  have hk3 : (4 : Int32) < en := hen4
  refine own_step (fun t k => XS.icmpYes X2.here hx rfl (pc0 := 12) (pc' := 18) rfl (hb hby d11_12) rfl ((tlt hk3).1) (by decide) (by decide) k) ?_
  show own_G p.tables e below _ (T2.setTop (mkF m 18 #[rv a1, iv 3, iv 3, iv 4, .unset] []))
  refine own_al X2.here hx rfl (hb hby d11_18) rfl rfl ?_
  refine own_il X2.here hx rfl (hb hby d11_19) rfl ?_
  obtain ⟨cq4, q4, q4'⟩ := fp0.cell
  obtain ⟨_, _, ⟨T4, L4, k4, n4⟩, -, X4, ⟨Lc4, hQ4, l4, y4, z4⟩, st4⟩ := X2.privateBack hx (y := own_y13) hown (mvT hZ (own_w hw 54 rfl)) (mvT hZ (own_w hw 55 rfl)) (mvT hZ (own_sp13 hw)) (Cond.privateMethod_at (mvP hZ (own_w hw 56 rfl) (args := #[]))) (mvT hZ (own_w hw 57 rfl)) (by decide) (backOf (W := 0) (rm13_p l Z a0 hw [] a1 ky vs h0 n0 (Nat.le_trans Z0 (Keep.refl h0 [ky]).1) fp1 fp3 fp4 (hlen : 8 ≤ vs.length)) hZ (own_w hw 57 rfl) (own_w hw 12 rfl) (by decide) (by decide)) (g := (mkF m 20 #[rv a1, iv 3, iv 3, iv 4, .unset] [(.int 4), (.ref a1)])) rfl (by rw [hml]; rfl) (Steps.refl _) (a := a1) (by rw [e2]; exact q4) q4' (argsL := [(.int 4)]) (rest := []) (lenOf pd_11_p_0 rfl) rfl (own_wl rfl) (hb hby d11_20) (fun _ _ => ⟨rfl, e2, (by decide : 0 + 0 ≤ _), (by decide : 0 + 0 ≤ _)⟩)
  dsimp only [Pt.U, Pt.locs, Pt.cells, Pt.slots] at X4 l4 y4 z4 st4 hQ4
  subst y4 z4
  obtain ⟨rfl, N4q, e4⟩ := hQ4
  have N4 : Fr n0 L4 := by rw [l4]; exact Fr.app N1 N4q
  refine own_step (fun t k => st4.trans k) ?_
  refine own_nm ((own_lc (vs.getD 4 0) (vs.getD 5 0) (vs.getD 6 0) (vs.getD 7 0)) : Int32) (fun chd => T4.setTop (mkF m 23 #[rv a1, iv 3, iv 3, iv 4, .unset] [(.int chd)])) ?_
  intro chd hd_chd
  clear N1 N1q N4q X1 X2 e1 e2 hk3 q4 q4' st1 st2 st4
  show own_G p.tables e below _ (T4.setTop (mkF m 23 #[rv a1, iv 3, iv 3, iv 4, .unset] [(.int chd)]))
  refine own_step (fun t k => XS.istore X4.here hx rfl (hb hby d11_23) rfl (l' := #[rv a1, iv 3, iv 3, iv 4, iv chd]) rfl k) ?_
  have hch := own_lc4 hd_chd
  refine own_al X4.here hx rfl (hb hby d11_25) rfl rfl ?_
  refine own_ix X4.here hx rfl (hb hby d11_26) rfl ?_
  refine own_il X4.here hx rfl (hb hby d11_28) rfl ?_
  obtain ⟨cq6, q6, q6'⟩ := fp0.cell
  obtain ⟨_, _, ⟨T6, L6, k6, n6⟩, -, X6, ⟨Lc6, hQ6, l6, y6, z6⟩, st6⟩ := X4.privateBack hx (y := own_y10) hown (mvT hZ (own_w hw 41 rfl)) (mvT hZ (own_w hw 42 rfl)) (mvT hZ (own_sp10 hw)) (Cond.privateMethod_at (mvP hZ (own_w hw 43 rfl) (args := #[]))) (mvT hZ (own_w hw 44 rfl)) (by decide) (backOf (W := 0) (rm10_p l Z a0 hw [] a1 chd (3 : Int32) ky vs h0 n0 (Nat.le_trans Z0 (Keep.refl h0 [ky]).1) fp1 fp3 fp4 ((by first | exact (own_ich hlen hch) | exact own_ibs (own_ich hlen hch) | exact own_ibs (own_ibs (own_ich hlen hch))) : own_Inb chd vs.length) ((by first | exact (own_ib hlen (by decide) (by decide)) | exact own_ibs (own_ib hlen (by decide) (by decide)) | exact own_ibs (own_ibs (own_ib hlen (by decide) (by decide)))) : own_Inb (3 : Int32) vs.length) g_ky ne_a1_ky) hZ (own_w hw 44 rfl) (own_w hw 12 rfl) (by decide) (by decide)) (g := (mkF m 29 #[rv a1, iv 3, iv 3, iv 4, iv chd] [(.int 3), (.int chd), (.ref a1)])) rfl (by rw [hml]; rfl) (Steps.refl _) (a := a1) (by rw [e4]; exact q6) q6' (argsL := [(.int chd), (.int 3)]) (rest := []) (lenOf pd_11_p_1 rfl) rfl (own_wl rfl) (hb hby d11_29) (fun _ _ => ⟨rfl, e4, (by decide : 0 + 0 ≤ _), (by decide : 0 + 0 ≤ _)⟩)
  dsimp only [Pt.U, Pt.locs, Pt.cells, Pt.slots] at X6 l6 y6 z6 st6 hQ6
  subst y6 z6
  obtain ⟨rfl, N6q, K6q, w6_0⟩ := hQ6
  have c7 : Exa Z T6.heap a1 own_C := fp0.keep K6q
  have c8 : Fld Z T6.heap a1 own_C "keys" "[J" (.ref ky) := fp1.keep K6q (ninS ne_a1_ky nin0)
  have c9 : Fld Z T6.heap a1 own_C "end" "I" (.int en) := fp2.keep K6q (ninS ne_a1_ky nin0)
  have c10 : Fld Z T6.heap a1 own_C "nodes" "[I" .null := fp3.keep K6q (ninS ne_a1_ky nin0)
  have K6 : Keep h0 T6.heap [ky] := (Keep.refl h0 [ky]).trans K6q (allS (Or.inl (List.mem_of_getElem? (i := 0) rfl)) all0)
  have c12 : own_Arj Z T6.heap ky (vs.set 3 (vs.getD chd.toNatClampNeg 0)) := w6_0
  have N6 : Fr n0 L6 := by rw [l6]; exact Fr.app N4 N6q
  refine own_step (fun t k => st6.trans k) ?_
  refine own_ix X6.here hx rfl (hb hby d11_32) rfl ?_
  refine own_step (fun t k => XS.istoreN X6.here hx rfl (hb hby d11_34) rfl (l' := #[rv a1, iv chd, iv 3, iv 4, iv chd]) rfl k) ?_
  show own_G p.tables e below _ (T6.setTop (mkF m 35 #[rv a1, iv chd, iv 3, iv 4, iv chd] []))
  refine own_go X6.here hx rfl (pc0 := 35) (pc' := 2) rfl (hb hby d11_35) (by decide) (by decide) ?_
  refine own_il X6.here hx rfl (hb hby d11_2) rfl ?_
  obtain ⟨_, _, ⟨T13, L13, k13, n13⟩, -, X13, ⟨Lc13, hQ13, l13, y13, z13⟩, st13⟩ := Jvm.LawKit.callS X6 hx (y := own_y12) hown (mvT hZ (own_w hw 51 rfl)) (mvT hZ (own_w hw 52 rfl)) (mvT hZ (own_w hw 12 rfl)) (mvT hZ (own_w hw 53 rfl)) (by decide) (backOf (W := 0) (rm12 l Z a0 hw [] chd T6.heap n0 (Nat.le_trans Z0 K6.1) ) hZ (own_w hw 53 rfl) (own_w hw 12 rfl) (by decide) (by decide)) (g := (mkF m 3 #[rv a1, iv chd, iv 3, iv 4, iv chd] [(.int chd)])) rfl (by rw [hml]; rfl) (argsL := [(.int chd)]) (rest := []) (lenOf pd_11_p_0 rfl) rfl (own_wl rfl) (hb hby d11_3) (fun _ _ => ⟨rfl, rfl, (by decide : 0 + 0 ≤ _), (by decide : 0 + 0 ≤ _)⟩)
  dsimp only [Pt.U, Pt.locs, Pt.cells, Pt.slots] at X13 l13 y13 z13 st13 hQ13
  subst y13 z13
  obtain ⟨rfl, N13q, e13⟩ := hQ13
  have N13 : Fr n0 L13 := by rw [l13]; exact Fr.app N6 N13q
  refine own_step st13 ?_
  refine own_step (fun t k => XS.istoreN X13.here hx rfl (hb hby d11_6) rfl (l' := #[rv a1, iv chd, iv 3, iv (own_fc chd), iv chd]) rfl k) ?_
  refine own_il X13.here hx rfl (hb hby d11_7) rfl ?_
  refine own_al X13.here hx rfl (hb hby d11_8) rfl rfl ?_
  obtain ⟨T14, X14, e14, st14⟩ := getF X13 hx hZ hown (host := "") (Or.inl (own_w hw 19 rfl)) Via.refl e13 c9 (g := (mkF m 9 #[rv a1, iv chd, iv 3, iv (own_fc chd), iv chd] [(.ref a1), (.int (own_fc chd))])) rfl rfl (hb hby d11_9)
  refine own_step st14 ?_
  clear K6q N13q N4 N6 N6q X13 X4 X6 e13 e4 q6 q6' st13 st14 st6 w6_0
  show own_G p.tables e below _ (T14.setTop (mkF m 12 #[rv a1, iv chd, iv 3, iv (own_fc chd), iv chd] [(.int en), (.int (own_fc chd))]))
  have hk15 : ¬ ((own_fc chd) < en) := own_fcn hch hen8
  refine own_step (fun t k => XS.icmpNo X14.here hx rfl (hb hby d11_12) rfl ((flt hk15).1) k) ?_
  show own_G p.tables e below _ (T14.setTop (mkF m 15 #[rv a1, iv chd, iv 3, iv (own_fc chd), iv chd] []))
  refine own_go X14.here hx rfl (pc0 := 15) (pc' := 38) rfl (hb hby d11_15) (by decide) (by decide) ?_
  refine own_il X14.here hx rfl (hb hby d11_38) rfl ?_
  refine own_il X14.here hx rfl (hb hby d11_39) rfl ?_
  have hk16 : (3 : Int32) < chd := own_ch3 hch
  refine own_step (fun t k => XS.icmpNo X14.here hx rfl (hb hby d11_40) rfl ((tlt hk16).2.2.2) k) ?_
  show own_G p.tables e below _ (T14.setTop (mkF m 43 #[rv a1, iv chd, iv 3, iv (own_fc chd), iv chd] []))
  refine own_il X14.here hx rfl (hb hby d11_43) rfl ?_
  obtain ⟨_, _, ⟨T17, L17, k17, n17⟩, -, X17, ⟨Lc17, hQ17, l17, y17, z17⟩, st17⟩ := Jvm.LawKit.callS X14 hx (y := own_y9) hown (mvT hZ (own_w hw 38 rfl)) (mvT hZ (own_w hw 39 rfl)) (mvT hZ (own_w hw 12 rfl)) (mvT hZ (own_w hw 40 rfl)) (by decide) (backOf (W := 0) (rm9 l Z a0 hw [] chd T6.heap n0 (Nat.le_trans Z0 K6.1) ) hZ (own_w hw 40 rfl) (own_w hw 12 rfl) (by decide) (by decide)) (g := (mkF m 44 #[rv a1, iv chd, iv 3, iv (own_fc chd), iv chd] [(.int chd)])) rfl (by rw [hml]; rfl) (argsL := [(.int chd)]) (rest := []) (lenOf pd_11_p_0 rfl) rfl (own_wl rfl) (hb hby d11_44) (fun _ _ => ⟨rfl, e14, (by decide : 0 + 0 ≤ _), (by decide : 0 + 0 ≤ _)⟩)
  dsimp only [Pt.U, Pt.locs, Pt.cells, Pt.slots] at X17 l17 y17 z17 st17 hQ17
  subst y17 z17
  obtain ⟨rfl, N17q, e17⟩ := hQ17
  have N17 : Fr n0 L17 := by rw [l17]; exact Fr.app N13 N17q
  refine own_step st17 ?_
  show own_G p.tables e below _ (T17.setTop (mkF m 47 #[rv a1, iv chd, iv 3, iv (own_fc chd), iv chd] [(.int (own_par chd))]))
  rw [own_par3 hch]
  show own_G p.tables e below _ (T17.setTop (mkF m 47 #[rv a1, iv chd, iv 3, iv (own_fc chd), iv chd] [(.int 3)]))
  refine own_step (fun t k => XS.istoreN X17.here hx rfl (hb hby d11_47) rfl (l' := #[rv a1, iv chd, iv 3, iv 3, iv chd]) rfl k) ?_
  refine own_al X17.here hx rfl (hb hby d11_48) rfl rfl ?_
  refine own_ic X17.here hx rfl (hb hby d11_49) ?_
  refine own_il X17.here hx rfl (hb hby d11_50) rfl ?_
  obtain ⟨cq18, q18, q18'⟩ := c7.cell
  obtain ⟨_, _, ⟨T18, L18, k18, n18⟩, -, X18, ⟨Lc18, hQ18, l18, y18, z18⟩, st18⟩ := X17.privateBack hx (y := own_y14) hown (mvT hZ (own_w hw 58 rfl)) (mvT hZ (own_w hw 59 rfl)) (mvT hZ (own_sp14 hw)) (Cond.privateMethod_at (mvP hZ (own_w hw 60 rfl) (args := #[]))) (mvT hZ (own_w hw 61 rfl)) (by decide) (backOf (W := 0) (rm14_p l Z a0 hw [] a1 (0 : Int32) (3 : Int32) ky (vs.set 3 (vs.getD chd.toNatClampNeg 0)) T6.heap n0 (Nat.le_trans Z0 K6.1) c8 c10 c12 ((by first | exact (own_ib hlen (by decide) (by decide)) | exact own_ibs (own_ib hlen (by decide) (by decide)) | exact own_ibs (own_ibs (own_ib hlen (by decide) (by decide)))) : own_Inb (0 : Int32) (vs.set 3 (vs.getD chd.toNatClampNeg 0)).length) ((by first | exact (own_ib hlen (by decide) (by decide)) | exact own_ibs (own_ib hlen (by decide) (by decide)) | exact own_ibs (own_ibs (own_ib hlen (by decide) (by decide)))) : own_Inb (3 : Int32) (vs.set 3 (vs.getD chd.toNatClampNeg 0)).length)) hZ (own_w hw 61 rfl) (own_w hw 12 rfl) (by decide) (by decide)) (g := (mkF m 51 #[rv a1, iv chd, iv 3, iv 3, iv chd] [(.int 3), (.int 0), (.ref a1)])) rfl (by rw [hml]; rfl) (Steps.refl _) (a := a1) (by rw [e17]; exact q18) q18' (argsL := [(.int 0), (.int 3)]) (rest := []) (lenOf pd_11_p_2 rfl) rfl (own_wl rfl) (hb hby d11_51) (fun _ _ => ⟨rfl, e17, (by decide : 0 + 0 ≤ _), (by decide : 0 + 0 ≤ _)⟩)
  dsimp only [Pt.U, Pt.locs, Pt.cells, Pt.slots] at X18 l18 y18 z18 st18 hQ18
  subst y18 z18
  obtain ⟨rfl, N18q, e18⟩ := hQ18
  have N18 : Fr n0 L18 := by rw [l18]; exact Fr.app N17 N18q
  refine own_step (fun t k => st18.trans k) ?_
  by_cases hc19 : (own_lt ((vs.set 3 (vs.getD chd.toNatClampNeg 0)).getD 0 0) ((vs.set 3 (vs.getD chd.toNatClampNeg 0)).getD 3 0)) = (0 : Int32)
  · skip
    refine own_step (fun t k => XS.ifNo X18.here hx rfl (hb hby d11_54) rfl ((if0 _ _).trans (teq hc19).2) k) ?_
    clear N13 N17 N17q N18q X14 X17 e14 e17 hk15 hk16 q18 q18' st17 st18
    show own_G p.tables e below _ (T18.setTop (mkF m 57 #[rv a1, iv chd, iv 3, iv 3, iv chd] []))
    refine own_go X18.here hx rfl (pc0 := 57) (pc' := 71) rfl (hb hby d11_57) (by decide) (by decide) ?_
    refine own_al X18.here hx rfl (hb hby d11_71) rfl rfl ?_
    refine own_ic X18.here hx rfl (hb hby d11_72) ?_
    refine own_il X18.here hx rfl (hb hby d11_73) rfl ?_
    obtain ⟨cq20, q20, q20'⟩ := c7.cell
    obtain ⟨_, _, ⟨T20, L20, k20, n20⟩, -, X20, ⟨Lc20, hQ20, l20, y20, z20⟩, st20⟩ := X18.privateBack hx (y := own_y10) hown (mvT hZ (own_w hw 41 rfl)) (mvT hZ (own_w hw 42 rfl)) (mvT hZ (own_sp10 hw)) (Cond.privateMethod_at (mvP hZ (own_w hw 43 rfl) (args := #[]))) (mvT hZ (own_w hw 44 rfl)) (by decide) (backOf (W := 0) (rm10_p l Z a0 hw [] a1 (0 : Int32) chd ky (vs.set 3 (vs.getD chd.toNatClampNeg 0)) T6.heap n0 (Nat.le_trans Z0 K6.1) c8 c10 c12 ((by first | exact (own_ib hlen (by decide) (by decide)) | exact own_ibs (own_ib hlen (by decide) (by decide)) | exact own_ibs (own_ibs (own_ib hlen (by decide) (by decide)))) : own_Inb (0 : Int32) (vs.set 3 (vs.getD chd.toNatClampNeg 0)).length) ((by first | exact (own_ich hlen hch) | exact own_ibs (own_ich hlen hch) | exact own_ibs (own_ibs (own_ich hlen hch))) : own_Inb chd (vs.set 3 (vs.getD chd.toNatClampNeg 0)).length) g_ky ne_a1_ky) hZ (own_w hw 44 rfl) (own_w hw 12 rfl) (by decide) (by decide)) (g := (mkF m 74 #[rv a1, iv chd, iv 3, iv 3, iv chd] [(.int chd), (.int 0), (.ref a1)])) rfl (by rw [hml]; rfl) (Steps.refl _) (a := a1) (by rw [e18]; exact q20) q20' (argsL := [(.int 0), (.int chd)]) (rest := []) (lenOf pd_11_p_1 rfl) rfl (own_wl rfl) (hb hby d11_74) (fun _ _ => ⟨rfl, e18, (by decide : 0 + 0 ≤ _), (by decide : 0 + 0 ≤ _)⟩)
    dsimp only [Pt.U, Pt.locs, Pt.cells, Pt.slots] at X20 l20 y20 z20 st20 hQ20
    subst y20 z20
    obtain ⟨rfl, N20q, K20q, w20_0⟩ := hQ20
    have c21 : Exa Z T20.heap a1 own_C := c7.keep K20q
    have c22 : Fld Z T20.heap a1 own_C "keys" "[J" (.ref ky) := c8.keep K20q (ninS ne_a1_ky nin0)
    have c23 : Fld Z T20.heap a1 own_C "end" "I" (.int en) := c9.keep K20q (ninS ne_a1_ky nin0)
    have c24 : Fld Z T20.heap a1 own_C "nodes" "[I" .null := c10.keep K20q (ninS ne_a1_ky nin0)
    have K20 : Keep h0 T20.heap [ky] := K6.trans K20q (allS (Or.inl (List.mem_of_getElem? (i := 0) rfl)) all0)
    have c26 : own_Arj Z T20.heap ky ((vs.set 3 (vs.getD chd.toNatClampNeg 0)).set chd.toNatClampNeg ((vs.set 3 (vs.getD chd.toNatClampNeg 0)).getD 0 0)) := w20_0
    have N20 : Fr n0 L20 := by rw [l20]; exact Fr.app N18 N20q
    refine own_step (fun t k => st20.trans k) ?_
    obtain ⟨fs, hr, hrun, hended, hW, hsame⟩ := X20.leave (v := none) (fun _ => rfl)
    refine own_done (X20.returnOut hx Bd.returns (hb hby d11_77) hr) hrun hended ⟨_, _, rfl, ?_, ⟨_, rfl⟩, hW, hsame.mono (by decide) (by decide)⟩
    show Q11_p Z a1 ky en vs h0 n0 _ T20.heap _
    exact ⟨_, rfl, N20, K20, c26, (own_pF hlen (own_ch4 hch) (by rw [← hd_chd]; exact own_selD hch) (own_ltF hc19))⟩
  · skip
    refine own_step (fun t k => XS.ifYes X18.here hx rfl (pc0 := 54) (pc' := 60) rfl (hb hby d11_54) rfl ((if0 _ _).trans (feq hc19).2) (by decide) (by decide) k) ?_
    clear N13 N17 N17q N18q X14 X17 e14 e17 hk15 hk16 q18 q18' st17 st18
    show own_G p.tables e below _ (T18.setTop (mkF m 60 #[rv a1, iv chd, iv 3, iv 3, iv chd] []))
    refine own_al X18.here hx rfl (hb hby d11_60) rfl rfl ?_
    refine own_il X18.here hx rfl (hb hby d11_61) rfl ?_
    refine own_il X18.here hx rfl (hb hby d11_62) rfl ?_
    obtain ⟨cq27, q27, q27'⟩ := c7.cell
    obtain ⟨_, _, ⟨T27, L27, k27, n27⟩, -, X27, ⟨Lc27, hQ27, l27, y27, z27⟩, st27⟩ := X18.privateBack hx (y := own_y10) hown (mvT hZ (own_w hw 41 rfl)) (mvT hZ (own_w hw 42 rfl)) (mvT hZ (own_sp10 hw)) (Cond.privateMethod_at (mvP hZ (own_w hw 43 rfl) (args := #[]))) (mvT hZ (own_w hw 44 rfl)) (by decide) (backOf (W := 0) (rm10_p l Z a0 hw [] a1 (3 : Int32) chd ky (vs.set 3 (vs.getD chd.toNatClampNeg 0)) T6.heap n0 (Nat.le_trans Z0 K6.1) c8 c10 c12 ((by first | exact (own_ib hlen (by decide) (by decide)) | exact own_ibs (own_ib hlen (by decide) (by decide)) | exact own_ibs (own_ibs (own_ib hlen (by decide) (by decide)))) : own_Inb (3 : Int32) (vs.set 3 (vs.getD chd.toNatClampNeg 0)).length) ((by first | exact (own_ich hlen hch) | exact own_ibs (own_ich hlen hch) | exact own_ibs (own_ibs (own_ich hlen hch))) : own_Inb chd (vs.set 3 (vs.getD chd.toNatClampNeg 0)).length) g_ky ne_a1_ky) hZ (own_w hw 44 rfl) (own_w hw 12 rfl) (by decide) (by decide)) (g := (mkF m 63 #[rv a1, iv chd, iv 3, iv 3, iv chd] [(.int chd), (.int 3), (.ref a1)])) rfl (by rw [hml]; rfl) (Steps.refl _) (a := a1) (by rw [e18]; exact q27) q27' (argsL := [(.int 3), (.int chd)]) (rest := []) (lenOf pd_11_p_1 rfl) rfl (own_wl rfl) (hb hby d11_63) (fun _ _ => ⟨rfl, e18, (by decide : 0 + 0 ≤ _), (by decide : 0 + 0 ≤ _)⟩)
    dsimp only [Pt.U, Pt.locs, Pt.cells, Pt.slots] at X27 l27 y27 z27 st27 hQ27
    subst y27 z27
    obtain ⟨rfl, N27q, K27q, w27_0⟩ := hQ27
    have c28 : Exa Z T27.heap a1 own_C := c7.keep K27q
    have c29 : Fld Z T27.heap a1 own_C "keys" "[J" (.ref ky) := c8.keep K27q (ninS ne_a1_ky nin0)
    have c30 : Fld Z T27.heap a1 own_C "end" "I" (.int en) := c9.keep K27q (ninS ne_a1_ky nin0)
    have c31 : Fld Z T27.heap a1 own_C "nodes" "[I" .null := c10.keep K27q (ninS ne_a1_ky nin0)
    have K27 : Keep h0 T27.heap [ky] := K6.trans K27q (allS (Or.inl (List.mem_of_getElem? (i := 0) rfl)) all0)
    have c33 : own_Arj Z T27.heap ky ((vs.set 3 (vs.getD chd.toNatClampNeg 0)).set chd.toNatClampNeg ((vs.set 3 (vs.getD chd.toNatClampNeg 0)).getD 3 0)) := w27_0
    have N27 : Fr n0 L27 := by rw [l27]; exact Fr.app N18 N27q
    refine own_step (fun t k => st27.trans k) ?_
    refine own_il X27.here hx rfl (hb hby d11_66) rfl ?_
    refine own_step (fun t k => XS.istoreN X27.here hx rfl (hb hby d11_67) rfl (l' := #[rv a1, iv 3, iv 3, iv 3, iv chd]) rfl k) ?_
    refine own_go X27.here hx rfl (pc0 := 68) (pc' := 38) rfl (hb hby d11_68) (by decide) (by decide) ?_
    clear K27q K6 N18 N27q X18 c10 c12 c7 c8 c9 e18 q27 q27' st27 w27_0
    show own_G p.tables e below _ (T27.setTop (mkF m 38 #[rv a1, iv 3, iv 3, iv 3, iv chd] []))
    refine own_il X27.here hx rfl (hb hby d11_38) rfl ?_
    refine own_il X27.here hx rfl (hb hby d11_39) rfl ?_
    have hk34 : ¬ ((3 : Int32) < (3 : Int32)) := (by decide)
    refine own_step (fun t k => XS.icmpYes X27.here hx rfl (pc0 := 40) (pc' := 71) rfl (hb hby d11_40) rfl ((flt hk34).2.2.2) (by decide) (by decide) k) ?_
    show own_G p.tables e below _ (T27.setTop (mkF m 71 #[rv a1, iv 3, iv 3, iv 3, iv chd] []))
    refine own_al X27.here hx rfl (hb hby d11_71) rfl rfl ?_
    refine own_ic X27.here hx rfl (hb hby d11_72) ?_
    refine own_il X27.here hx rfl (hb hby d11_73) rfl ?_
    obtain ⟨cq35, q35, q35'⟩ := c28.cell
    obtain ⟨_, _, ⟨T35, L35, k35, n35⟩, -, X35, ⟨Lc35, hQ35, l35, y35, z35⟩, st35⟩ := X27.privateBack hx (y := own_y10) hown (mvT hZ (own_w hw 41 rfl)) (mvT hZ (own_w hw 42 rfl)) (mvT hZ (own_sp10 hw)) (Cond.privateMethod_at (mvP hZ (own_w hw 43 rfl) (args := #[]))) (mvT hZ (own_w hw 44 rfl)) (by decide) (backOf (W := 0) (rm10_p l Z a0 hw [] a1 (0 : Int32) (3 : Int32) ky ((vs.set 3 (vs.getD chd.toNatClampNeg 0)).set chd.toNatClampNeg ((vs.set 3 (vs.getD chd.toNatClampNeg 0)).getD 3 0)) T27.heap n0 (Nat.le_trans Z0 K27.1) c29 c31 c33 ((by first | exact (own_ib hlen (by decide) (by decide)) | exact own_ibs (own_ib hlen (by decide) (by decide)) | exact own_ibs (own_ibs (own_ib hlen (by decide) (by decide)))) : own_Inb (0 : Int32) ((vs.set 3 (vs.getD chd.toNatClampNeg 0)).set chd.toNatClampNeg ((vs.set 3 (vs.getD chd.toNatClampNeg 0)).getD 3 0)).length) ((by first | exact (own_ib hlen (by decide) (by decide)) | exact own_ibs (own_ib hlen (by decide) (by decide)) | exact own_ibs (own_ibs (own_ib hlen (by decide) (by decide)))) : own_Inb (3 : Int32) ((vs.set 3 (vs.getD chd.toNatClampNeg 0)).set chd.toNatClampNeg ((vs.set 3 (vs.getD chd.toNatClampNeg 0)).getD 3 0)).length) g_ky ne_a1_ky) hZ (own_w hw 44 rfl) (own_w hw 12 rfl) (by decide) (by decide)) (g := (mkF m 74 #[rv a1, iv 3, iv 3, iv 3, iv chd] [(.int 3), (.int 0), (.ref a1)])) rfl (by rw [hml]; rfl) (Steps.refl _) (a := a1) q35 q35' (argsL := [(.int 0), (.int 3)]) (rest := []) (lenOf pd_11_p_1 rfl) rfl (own_wl rfl) (hb hby d11_74) (fun _ _ => ⟨rfl, rfl, (by decide : 0 + 0 ≤ _), (by decide : 0 + 0 ≤ _)⟩)
    dsimp only [Pt.U, Pt.locs, Pt.cells, Pt.slots] at X35 l35 y35 z35 st35 hQ35
    subst y35 z35
    obtain ⟨rfl, N35q, K35q, w35_0⟩ := hQ35
    have c36 : Exa Z T35.heap a1 own_C := c28.keep K35q
    have c37 : Fld Z T35.heap a1 own_C "keys" "[J" (.ref ky) := c29.keep K35q (ninS ne_a1_ky nin0)
    have c38 : Fld Z T35.heap a1 own_C "end" "I" (.int en) := c30.keep K35q (ninS ne_a1_ky nin0)
    have c39 : Fld Z T35.heap a1 own_C "nodes" "[I" .null := c31.keep K35q (ninS ne_a1_ky nin0)
    have K35 : Keep h0 T35.heap [ky] := K27.trans K35q (allS (Or.inl (List.mem_of_getElem? (i := 0) rfl)) all0)
    have c41 : own_Arj Z T35.heap ky (((vs.set 3 (vs.getD chd.toNatClampNeg 0)).set chd.toNatClampNeg ((vs.set 3 (vs.getD chd.toNatClampNeg 0)).getD 3 0)).set 3 (((vs.set 3 (vs.getD chd.toNatClampNeg 0)).set chd.toNatClampNeg ((vs.set 3 (vs.getD chd.toNatClampNeg 0)).getD 3 0)).getD 0 0)) := w35_0
    have N35 : Fr n0 L35 := by rw [l35]; exact Fr.app N27 N35q
    refine own_step (fun t k => st35.trans k) ?_
    obtain ⟨fs, hr, hrun, hended, hW, hsame⟩ := X35.leave (v := none) (fun _ => rfl)
    refine own_done (X35.returnOut hx Bd.returns (hb hby d11_77) hr) hrun hended ⟨_, _, rfl, ?_, ⟨_, rfl⟩, hW, hsame.mono (by decide) (by decide)⟩
    show Q11_p Z a1 ky en vs h0 n0 _ T35.heap _
    exact ⟨_, rfl, N35, K35, c41, (own_pT hlen (own_ch4 hch) (by rw [← hd_chd]; exact own_selD hch) (own_ltT hc19))⟩
theorem d3_144 : decode prog_20_method_1_code 144 = .ok (.aload_n 0, 1) := by decide +kernel
theorem d3_145 : decode prog_20_method_1_code 145 = .ok (.iload_n 3, 1) := by decide +kernel
theorem d3_146 : decode prog_20_method_1_code 146 = .ok (.iconst 0, 1) := by decide +kernel
theorem d3_147 : decode prog_20_method_1_code 147 = .ok (.invokevirtual 49, 3) := by decide +kernel
theorem d3_150 : decode prog_20_method_1_code 150 = .ok (.aload_n 0, 1) := by decide +kernel
theorem d3_151 : decode prog_20_method_1_code 151 = .ok (.iload_n 3, 1) := by decide +kernel
theorem d3_152 : decode prog_20_method_1_code 152 = .ok (.invokevirtual 53, 3) := by decide +kernel
theorem d3_155 : decode prog_20_method_1_code 155 = .ok (.iinc 3 (-1), 3) := by decide +kernel
theorem d3_158 : decode prog_20_method_1_code 158 = .ok (.goto (-19), 3) := by decide +kernel
theorem pn_3_p2 : plainName "com/example/leafcode/leafcode/FourWayHeap" = true := by first | (simp [plainName, overriddenIn]; done) | decide +kernel
theorem pd_3_p2_0 : parseMethodDescriptor "([J)Z" = some ⟨[(.array .long)], some .boolean⟩ := by decide +kernel
theorem pd_3_p2_1 : parseMethodDescriptor "(JI)J" = some ⟨[.long, .int], some .long⟩ := by decide +kernel
theorem pd_3_p2_2 : parseMethodDescriptor "([JIIJ)V" = some ⟨[(.array .long), .int, .int, .long], none⟩ := by decide +kernel
theorem pd_3_p2_3 : parseMethodDescriptor "(I)I" = some ⟨[.int], some .int⟩ := by decide +kernel
theorem pd_3_p2_4 : parseMethodDescriptor "(II)V" = some ⟨[.int, .int], none⟩ := by decide +kernel
theorem pd_3_p2_5 : parseMethodDescriptor "(I)V" = some ⟨[.int], none⟩ := by decide +kernel
theorem ef_3_p2 (m : MethodId) (a1 : Addr) (wa : Addr) : entryFrame m #[(.ref a1), (.ref wa)] 4 = mkF m 0 #[rv a1, rv wa, .unset, .unset] [] := by first | (simp [entryFrame, mkF, argsToLocals, Value.category]; done) | rfl
def Q3_p2 (Z : State) (a1 : Addr) (wa : Addr) (wt0 : Int64) (wt1 : Int64) (h0 : Heap) (n0 : Nat) (v : Option Value) (h : Heap) (L : List Loc) : Prop := ∃ (x1 : Addr) (L_x1 : List Int64), v = none ∧ Fr n0 L ∧ Keep h0 h [a1] ∧ Fld Z h a1 own_C "end" "I" (.int 5) ∧ Fld Z h a1 own_C "keys" "[J" (.ref x1) ∧ Fld Z h a1 own_C "nodes" "[I" .null ∧ own_Arj Z h x1 L_x1 ∧ h0.size ≤ x1 ∧ (L_x1.length = 8 ∧ (own_ush (L_x1.getD 3 0)).toInt = (min wt0.toInt wt1.toInt))
set_option maxRecDepth 65536 in
set_option maxHeartbeats 40000000 in
theorem rm3_p2 (l : Launch) (Z : State) (a0 : Array Value) (hw : ∀ d ∈ tables_1, d.before a0 Z = true) (ws : List Jvm.Cond) (a1 : Addr) (wa : Addr) (wt0 : Int64) (wt1 : Int64) (h0 : Heap) (n0 : Nat) (Z0 : n0 ≤ h0.size) (fp0 : Exa Z h0 a1 own_C) (fp1 : Fld Z h0 a1 own_C "end" "I" (.int 0)) (fp2 : Fld Z h0 a1 own_C "keys" "[J" .null) (fp3 : Fld Z h0 a1 own_C "nodes" "[I" .null) (fp4 : own_Arj Z h0 wa [wt0, wt1]) (hpk : own_f5_n2 wt0 wt1 = 1) (hnn0 : 0 ≤ wt0.toInt) (hnn1 : 0 ≤ wt1.toInt) (g_a1 : n0 ≤ a1) (ne_wa_a1 : wa ≠ a1) :
    MetFree l (⟨"com/example/leafcode/leafcode/FourWayHeap", "<init>", "([J)V"⟩ : MethodName) (head1 (Jvm.Cond.code (⟨"com/example/leafcode/leafcode/FourWayHeap", "<init>", "([J)V"⟩ : MethodName) prog_20_method_1_code 4 none :: ws) ({ frames := 2, cells := 1, slots := 8, locals := 52 } : Room)) (fun a U => a = #[(.ref a1), (.ref wa)] ∧ Z.Warmed39 U.vm ∧ U.heap = h0) (fun _ _ _ _ _ => True) (fun _ U o U' => ∃ v L, o = .returned v ∧ Q3_p2 Z a1 wa wt0 wt1 h0 n0 v U'.heap L ∧ FrameEnd U o U' L ({ frames := 2, cells := 1, slots := 8, locals := 52 } : Room).cells ({ frames := 2, cells := 1, slots := 8, locals := 52 } : Room).slots) := by
  refine MetFree.of_bodySF (plainFor_of_name pn_3_p2) hisR ?_
  intro p e s m args below meth c s₁ Bd hml0 hP hK
  obtain ⟨rfl, hZ, hh⟩ := hP
  have hx := Bd.exec
  have hby := Bd.bytes
  have hml : c.maxLocals = 4 := hml0
  have hown : s.vm.findClass "com/example/leafcode/leafcode/FourWayHeap" = some m.cls := findClass_of_methodNamed Bd.named
  have hnm := (name_of_methodNamed Bd.named Bd.method).1
  have X0 : Stand p l e ({ frames := 2, cells := 1, slots := 8, locals := 52 } : Room) s m #[(.ref a1), (.ref wa)] below meth c s₁ [] 0 0 := Stand.of_body Bd
  have e0 : s₁.heap = h0 := by rw [← hh, Bd.state]; rfl
  have N0 := Fr.nil n0
  refine own_start (fun t k => castTop (ef_3_p2 m a1 wa) k) ?_
  show own_G p.tables e below _ (s₁.setTop (mkF m 0 #[rv a1, rv wa, .unset, .unset] []))
  refine own_al X0.here hx rfl (hb hby d3_0) rfl rfl ?_
  obtain ⟨T1, X1, e1, st1⟩ := initO X0 hx hZ hown (own_w hw 16 rfl) (own_w hw 17 rfl) (own_w hw 18 rfl) e0 (g := (mkF m 1 #[rv a1, rv wa, .unset, .unset] [(.ref a1)])) rfl (by rw [hml]; rfl) rfl (hb hby d3_1) (by decide) (W := 0) (by show 2 * 0 + _ ≤ _; exact Nat.le_of_eq rfl) (by decide)
  refine own_step st1 ?_
  refine own_al X1.here hx rfl (hb hby d3_4) rfl rfl ?_
  refine own_step (own_lenJ X1 hx hZ e1 fp4 (g := (mkF m 5 #[rv a1, rv wa, .unset, .unset] [(.ref wa)])) rfl rfl (hb hby d3_5)) ?_
  refine own_step (fun t k => XS.istoreN X1.here hx rfl (hb hby d3_6) rfl (l' := #[rv a1, rv wa, iv 2, .unset]) rfl k) ?_
  refine own_al X1.here hx rfl (hb hby d3_7) rfl rfl ?_
  refine own_ic X1.here hx rfl (hb hby d3_8) ?_
  show own_G p.tables e below _ (T1.setTop (mkF m 9 #[rv a1, rv wa, iv 2, .unset] [(.int 3), (.ref a1)]))
  refine own_il X1.here hx rfl (hb hby d3_9) rfl ?_
  refine own_step (fun t k => XS.iadd X1.here hx rfl (hb hby d3_10) rfl k) ?_
  obtain ⟨T2, h2, X2, e2, W2, st2⟩ := putF X1 hx hZ hown (host := "") (Or.inl (own_w hw 19 rfl)) Via.refl e1 fp1 fp0 (Or.inl (own_w hw 20 rfl)) (own_w hw 11 rfl) (ty := .int) (by decide) rfl rfl (g := (mkF m 11 #[rv a1, rv wa, iv 2, .unset] [(.int 5), (.ref a1)])) rfl rfl (hb hby d3_11)
  have N2 := Fr.snoc X2 N0 g_a1
  have c3 : Fld Z h2 a1 own_C "end" "I" (.int 5) := fp1.same W2
  have c4 : Exa Z h2 a1 own_C := fp0.wr W2
  have c6 : Fld Z h2 a1 own_C "keys" "[J" .null := fp2.other W2 (Or.inr (slot_ne (Or.inl (own_w hw 22 rfl)) (Or.inl (own_w hw 20 rfl)) (by decide) (t := (.array .long)) (t' := .int) (by decide) (by decide)))
  have c7 : Fld Z h2 a1 own_C "nodes" "[I" .null := fp3.other W2 (Or.inr (slot_ne (Or.inl (own_w hw 46 rfl)) (Or.inl (own_w hw 20 rfl)) (by decide) (t := (.array .int)) (t' := .int) (by decide) (by decide)))
  have c8 : own_Arj Z h2 wa [wt0, wt1] := fp4.other W2 ne_wa_a1
  have K2 : Keep h0 h2 [a1] := (Keep.refl h0 [a1]).wr W2 (Or.inl (List.mem_of_getElem? (i := 0) rfl))
  refine own_step st2 ?_
  refine own_al X2.here hx rfl (hb hby d3_14) rfl rfl ?_
  refine own_al X2.here hx rfl (hb hby d3_15) rfl rfl ?_
  obtain ⟨T9, X9, e9, st9⟩ := getF X2 hx hZ hown (host := "") (Or.inl (own_w hw 19 rfl)) Via.refl e2 c3 (g := (mkF m 16 #[rv a1, rv wa, iv 2, .unset] [(.ref a1), (.ref a1)])) rfl rfl (hb hby d3_16)
  refine own_step st9 ?_
  refine own_ic X9.here hx rfl (hb hby d3_19) ?_
  show own_G p.tables e below _ (T9.setTop (mkF m 20 #[rv a1, rv wa, iv 2, .unset] [(.int 4), (.int 5), (.ref a1)]))
  refine own_step (fun t k => XS.iadd X9.here hx rfl (hb hby d3_20) rfl k) ?_
  refine own_ic X9.here hx rfl (hb hby d3_21) ?_
  refine own_step (fun t k => XS.isub X9.here hx rfl (hb hby d3_22) rfl k) ?_
  obtain ⟨T10, h10, k10, X10, e10, E10, A10, st10⟩ := newP X9 hx hZ (own_w hw 5 rfl) e9 (g := (mkF m 23 #[rv a1, rv wa, iv 2, .unset] [(.int 8), (.ref a1)])) rfl (hb hby d3_23) rfl (by decide) (cap := 8) (by decide) (by decide) (by decide) (by decide)
  obtain ⟨b10, g10⟩ : ∃ z, z = h2.size := ⟨_, rfl⟩
  have ne11 : a1 ≠ b10 := Nat.ne_of_lt (Nat.lt_of_lt_of_le c4.lt (Nat.le_of_eq g10.symm))
  have ne12 : wa ≠ b10 := Nat.ne_of_lt (Nat.lt_of_lt_of_le c8.lt (Nat.le_of_eq g10.symm))
  have sz10 : h0.size ≤ b10 := Nat.le_trans K2.1 (Nat.le_of_eq g10.symm)
  have ge10 : n0 ≤ b10 := Nat.le_trans Z0 sz10
  have c13 : Exa Z h10 a1 own_C := c4.ext E10
  have c14 : Fld Z h10 a1 own_C "end" "I" (.int 5) := c3.ext E10
  have c15 : Fld Z h10 a1 own_C "keys" "[J" .null := c6.ext E10
  have c16 : Fld Z h10 a1 own_C "nodes" "[I" .null := c7.ext E10
  have c17 : own_Arj Z h10 wa [wt0, wt1] := c8.ext E10
  have K10 : Keep h0 h10 [a1] := K2.ext E10
  rw [← g10] at A10 st10
  have c18 : own_Arj Z h10 b10 [0, 0, 0, 0, 0, 0, 0, 0] := own_Arj_new A10 (by decide)
  refine own_step st10 ?_
  obtain ⟨T19, h19, X19, e19, W19, st19⟩ := putF X10 hx hZ hown (host := "") (Or.inl (own_w hw 21 rfl)) Via.refl e10 c15 c13 (Or.inl (own_w hw 22 rfl)) (own_w hw 11 rfl) (ty := (.array .long)) (by decide) rfl rfl (g := (mkF m 25 #[rv a1, rv wa, iv 2, .unset] [(.ref b10), (.ref a1)])) rfl rfl (hb hby d3_25)
  have N19 := Fr.snoc X19 N2 g_a1
  have c20 : Fld Z h19 a1 own_C "keys" "[J" (.ref b10) := c15.same W19
  have c21 : Exa Z h19 a1 own_C := c13.wr W19
  have c22 : Fld Z h19 a1 own_C "end" "I" (.int 5) := c14.other W19 (Or.inr (slot_ne (Or.inl (own_w hw 20 rfl)) (Or.inl (own_w hw 22 rfl)) (by decide) (t := .int) (t' := (.array .long)) (by decide) (by decide)))
  have c24 : Fld Z h19 a1 own_C "nodes" "[I" .null := c16.other W19 (Or.inr (slot_ne (Or.inl (own_w hw 46 rfl)) (Or.inl (own_w hw 22 rfl)) (by decide) (t := (.array .int)) (t' := (.array .long)) (by decide) (by decide)))
  have c25 : own_Arj Z h19 wa [wt0, wt1] := c17.other W19 ne_wa_a1
  have c26 : own_Arj Z h19 b10 [0, 0, 0, 0, 0, 0, 0, 0] := c18.other W19 (Ne.symm ne11)
  have K19 : Keep h0 h19 [a1] := K10.wr W19 (Or.inl (List.mem_of_getElem? (i := 0) rfl))
  refine own_step st19 ?_
  refine own_al X19.here hx rfl (hb hby d3_28) rfl rfl ?_
  obtain ⟨_, _, ⟨T27, L27, k27, n27⟩, -, X27, ⟨Lc27, hQ27, l27, y27, z27⟩, st27⟩ := Jvm.LawKit.callS X19 hx (y := own_y5) hown (mvT hZ (own_w hw 23 rfl)) (mvT hZ (own_w hw 24 rfl)) (mvT hZ (own_w hw 12 rfl)) (mvT hZ (own_w hw 25 rfl)) (by decide) (backOf (W := 0) (rm5_n2 l Z a0 hw [] wa wt0 wt1 h19 n0 (Nat.le_trans Z0 K19.1) c25) hZ (own_w hw 25 rfl) (own_w hw 12 rfl) (by decide) (by decide)) (g := (mkF m 29 #[rv a1, rv wa, iv 2, .unset] [(.ref wa)])) rfl (by rw [hml]; rfl) (argsL := [(.ref wa)]) (rest := []) (lenOf pd_3_p2_0 rfl) rfl (own_wl rfl) (hb hby d3_29) (fun _ _ => ⟨rfl, e19, (by decide : 1 + 0 ≤ _), (by decide : 8 + 0 ≤ _)⟩)
  dsimp only [Pt.U, Pt.locs, Pt.cells, Pt.slots] at X27 l27 y27 z27 st27 hQ27
  subst y27 z27
  obtain ⟨rfl, N27q, e27⟩ := hQ27
  have N27 : Fr n0 L27 := by rw [l27]; exact Fr.app N19 N27q
  refine own_step st27 ?_
  clear A10 E10 K10 K2 N19 N2 N27q W19 W2 X1 X10 X19 X2 X9 c13 c14 c15 c16 c17 c18 c3 c4 c6 c7 c8 e1 e10 e19 e2 e9 g10 st1 st10 st19 st2 st27 st9
  show own_G p.tables e below _ (T27.setTop (mkF m 32 #[rv a1, rv wa, iv 2, .unset] [(.int (own_f5_n2 wt0 wt1))]))
  have hk28 : ¬ ((own_f5_n2 wt0 wt1) = (0 : Int32)) := (by rw [hpk]; decide)
  refine own_step (fun t k => XS.ifNo X27.here hx rfl (hb hby d3_32) rfl ((if0 _ _).trans (feq hk28).1) k) ?_
  show own_G p.tables e below _ (T27.setTop (mkF m 35 #[rv a1, rv wa, iv 2, .unset] []))
  refine own_ic X27.here hx rfl (hb hby d3_35) ?_
  refine own_step (fun t k => XS.istoreN X27.here hx rfl (hb hby d3_36) rfl (l' := #[rv a1, rv wa, iv 2, iv 0]) rfl k) ?_
  refine own_il X27.here hx rfl (hb hby d3_37) rfl ?_
  refine own_il X27.here hx rfl (hb hby d3_38) rfl ?_
  have hk29 : (0 : Int32) < (2 : Int32) := (by decide)
  refine own_step (fun t k => XS.icmpNo X27.here hx rfl (hb hby d3_39) rfl ((tlt hk29).2.1) k) ?_
  show own_G p.tables e below _ (T27.setTop (mkF m 42 #[rv a1, rv wa, iv 2, iv 0] []))
  refine own_al X27.here hx rfl (hb hby d3_42) rfl rfl ?_
  obtain ⟨T30, X30, e30, st30⟩ := getF X27 hx hZ hown (host := "") (Or.inl (own_w hw 21 rfl)) Via.refl e27 c20 (g := (mkF m 43 #[rv a1, rv wa, iv 2, iv 0] [(.ref a1)])) rfl rfl (hb hby d3_43)
  refine own_step st30 ?_
  refine own_ic X30.here hx rfl (hb hby d3_46) ?_
  refine own_il X30.here hx rfl (hb hby d3_47) rfl ?_
  refine own_step (fun t k => XS.iadd X30.here hx rfl (hb hby d3_48) rfl k) ?_
  refine own_al X30.here hx rfl (hb hby d3_49) rfl rfl ?_
  refine own_il X30.here hx rfl (hb hby d3_50) rfl ?_
  show own_G p.tables e below _ (T30.setTop (mkF m 51 #[rv a1, rv wa, iv 2, iv 0] [(.int 0), (.ref wa), (.int 3), (.ref b10)]))
  refine own_step (own_laload X30 hx hZ e30 c25 (own_inb (by decide) (Nat.le_of_ble_eq_true rfl)) (g := (mkF m 51 #[rv a1, rv wa, iv 2, iv 0] [(.int 0), (.ref wa), (.int 3), (.ref b10)])) rfl rfl (hb hby d3_51)) ?_
  refine own_il X30.here hx rfl (hb hby d3_52) rfl ?_
  obtain ⟨_, _, ⟨T31, L31, k31, n31⟩, -, X31, ⟨Lc31, hQ31, l31, y31, z31⟩, st31⟩ := Jvm.LawKit.callS X30 hx (y := own_y6) hown (mvT hZ (own_w hw 27 rfl)) (mvT hZ (own_w hw 28 rfl)) (mvT hZ (own_w hw 12 rfl)) (mvT hZ (own_w hw 29 rfl)) (by decide) (backOf (W := 2) (rm6 l Z a0 hw [] wt0 (0 : Int32) h19 n0 (Nat.le_trans Z0 K19.1) ) hZ (own_w hw 29 rfl) (own_w hw 12 rfl) (by decide) (by decide)) (g := (mkF m 53 #[rv a1, rv wa, iv 2, iv 0] [(.int 0), (.long wt0), (.int 3), (.ref b10)])) rfl (by rw [hml]; rfl) (argsL := [(.long wt0), (.int 0)]) (rest := [(.int 3), (.ref b10)]) (lenOf pd_3_p2_1 rfl) rfl (own_wl rfl) (hb hby d3_53) (fun _ _ => ⟨rfl, e30, (by decide : 1 + 0 ≤ _), (by decide : 8 + 0 ≤ _)⟩)
  dsimp only [Pt.U, Pt.locs, Pt.cells, Pt.slots] at X31 l31 y31 z31 st31 hQ31
  subst y31 z31
  obtain ⟨rfl, N31q, e31⟩ := hQ31
  have N31 : Fr n0 L31 := by rw [l31]; exact Fr.app N27 N31q
  refine own_step st31 ?_
  obtain ⟨T32, h32, X32, e32, W32, c32, st32⟩ := own_lastore X31 hx hZ e31 c26 (own_inb (by decide) (Nat.le_of_ble_eq_true rfl)) (g := (mkF m 56 #[rv a1, rv wa, iv 2, iv 0] [(.long (own_pk wt0 (0 : Int32))), (.int 3), (.ref b10)])) rfl rfl (hb hby d3_56)
  have N32 := Fr.snoc X32 N31 ge10
  have c33 : own_Arj Z h32 b10 [0, 0, 0, (own_pk wt0 (0 : Int32)), 0, 0, 0, 0] := c32
  have c34 : Exa Z h32 a1 own_C := c21.wr W32
  have c35 : Fld Z h32 a1 own_C "end" "I" (.int 5) := c22.other W32 (Or.inl ne11)
  have c36 : Fld Z h32 a1 own_C "keys" "[J" (.ref b10) := c20.other W32 (Or.inl ne11)
  have c37 : Fld Z h32 a1 own_C "nodes" "[I" .null := c24.other W32 (Or.inl ne11)
  have c38 : own_Arj Z h32 wa [wt0, wt1] := c25.other W32 ne12
  have K32 : Keep h0 h32 [a1] := K19.wr W32 (Or.inr sz10)
  refine own_step st32 ?_
  refine own_step (fun t k => XS.iinc X32.here hx rfl (hb hby d3_57) rfl (l' := #[rv a1, rv wa, iv 2, iv 1]) rfl k) ?_
  refine own_go X32.here hx rfl (pc0 := 60) (pc' := 37) rfl (hb hby d3_60) (by decide) (by decide) ?_
  refine own_il X32.here hx rfl (hb hby d3_37) rfl ?_
  clear K19 N27 N31 N31q W32 X27 X30 X31 c20 c21 c22 c24 c25 c26 c32 e27 e30 e31 hk28 hk29 st30 st31 st32
  show own_G p.tables e below _ (T32.setTop (mkF m 38 #[rv a1, rv wa, iv 2, iv 1] [(.int 1)]))
  refine own_il X32.here hx rfl (hb hby d3_38) rfl ?_
  have hk40 : (1 : Int32) < (2 : Int32) := (by decide)
  refine own_step (fun t k => XS.icmpNo X32.here hx rfl (hb hby d3_39) rfl ((tlt hk40).2.1) k) ?_
  show own_G p.tables e below _ (T32.setTop (mkF m 42 #[rv a1, rv wa, iv 2, iv 1] []))
  refine own_al X32.here hx rfl (hb hby d3_42) rfl rfl ?_
  obtain ⟨T41, X41, e41, st41⟩ := getF X32 hx hZ hown (host := "") (Or.inl (own_w hw 21 rfl)) Via.refl e32 c36 (g := (mkF m 43 #[rv a1, rv wa, iv 2, iv 1] [(.ref a1)])) rfl rfl (hb hby d3_43)
  refine own_step st41 ?_
  refine own_ic X41.here hx rfl (hb hby d3_46) ?_
  refine own_il X41.here hx rfl (hb hby d3_47) rfl ?_
  refine own_step (fun t k => XS.iadd X41.here hx rfl (hb hby d3_48) rfl k) ?_
  refine own_al X41.here hx rfl (hb hby d3_49) rfl rfl ?_
  refine own_il X41.here hx rfl (hb hby d3_50) rfl ?_
  show own_G p.tables e below _ (T41.setTop (mkF m 51 #[rv a1, rv wa, iv 2, iv 1] [(.int 1), (.ref wa), (.int 4), (.ref b10)]))
  refine own_step (own_laload X41 hx hZ e41 c38 (own_inb (by decide) (Nat.le_of_ble_eq_true rfl)) (g := (mkF m 51 #[rv a1, rv wa, iv 2, iv 1] [(.int 1), (.ref wa), (.int 4), (.ref b10)])) rfl rfl (hb hby d3_51)) ?_
  refine own_il X41.here hx rfl (hb hby d3_52) rfl ?_
  obtain ⟨_, _, ⟨T42, L42, k42, n42⟩, -, X42, ⟨Lc42, hQ42, l42, y42, z42⟩, st42⟩ := Jvm.LawKit.callS X41 hx (y := own_y6) hown (mvT hZ (own_w hw 27 rfl)) (mvT hZ (own_w hw 28 rfl)) (mvT hZ (own_w hw 12 rfl)) (mvT hZ (own_w hw 29 rfl)) (by decide) (backOf (W := 2) (rm6 l Z a0 hw [] wt1 (1 : Int32) h32 n0 (Nat.le_trans Z0 K32.1) ) hZ (own_w hw 29 rfl) (own_w hw 12 rfl) (by decide) (by decide)) (g := (mkF m 53 #[rv a1, rv wa, iv 2, iv 1] [(.int 1), (.long wt1), (.int 4), (.ref b10)])) rfl (by rw [hml]; rfl) (argsL := [(.long wt1), (.int 1)]) (rest := [(.int 4), (.ref b10)]) (lenOf pd_3_p2_1 rfl) rfl (own_wl rfl) (hb hby d3_53) (fun _ _ => ⟨rfl, e41, (by decide : 1 + 0 ≤ _), (by decide : 8 + 0 ≤ _)⟩)
  dsimp only [Pt.U, Pt.locs, Pt.cells, Pt.slots] at X42 l42 y42 z42 st42 hQ42
  subst y42 z42
  obtain ⟨rfl, N42q, e42⟩ := hQ42
  have N42 : Fr n0 L42 := by rw [l42]; exact Fr.app N32 N42q
  refine own_step st42 ?_
  obtain ⟨T43, h43, X43, e43, W43, c43, st43⟩ := own_lastore X42 hx hZ e42 c33 (own_inb (by decide) (Nat.le_of_ble_eq_true rfl)) (g := (mkF m 56 #[rv a1, rv wa, iv 2, iv 1] [(.long (own_pk wt1 (1 : Int32))), (.int 4), (.ref b10)])) rfl rfl (hb hby d3_56)
  have N43 := Fr.snoc X43 N42 ge10
  have c44 : own_Arj Z h43 b10 [0, 0, 0, (own_pk wt0 (0 : Int32)), (own_pk wt1 (1 : Int32)), 0, 0, 0] := c43
  have c45 : Exa Z h43 a1 own_C := c34.wr W43
  have c46 : Fld Z h43 a1 own_C "end" "I" (.int 5) := c35.other W43 (Or.inl ne11)
  have c47 : Fld Z h43 a1 own_C "keys" "[J" (.ref b10) := c36.other W43 (Or.inl ne11)
  have c48 : Fld Z h43 a1 own_C "nodes" "[I" .null := c37.other W43 (Or.inl ne11)
  have c49 : own_Arj Z h43 wa [wt0, wt1] := c38.other W43 ne12
  have K43 : Keep h0 h43 [a1] := K32.wr W43 (Or.inr sz10)
  refine own_step st43 ?_
  refine own_step (fun t k => XS.iinc X43.here hx rfl (hb hby d3_57) rfl (l' := #[rv a1, rv wa, iv 2, iv 2]) rfl k) ?_
  refine own_go X43.here hx rfl (pc0 := 60) (pc' := 37) rfl (hb hby d3_60) (by decide) (by decide) ?_
  refine own_il X43.here hx rfl (hb hby d3_37) rfl ?_
  clear K32 N32 N42 N42q W43 X32 X41 X42 c33 c34 c35 c36 c37 c38 c43 e32 e41 e42 hk40 st41 st42 st43
  show own_G p.tables e below _ (T43.setTop (mkF m 38 #[rv a1, rv wa, iv 2, iv 2] [(.int 2)]))
  refine own_il X43.here hx rfl (hb hby d3_38) rfl ?_
  have hk51 : ¬ ((2 : Int32) < (2 : Int32)) := (by decide)
  refine own_step (fun t k => XS.icmpYes X43.here hx rfl (pc0 := 39) (pc' := 63) rfl (hb hby d3_39) rfl ((flt hk51).2.1) (by decide) (by decide) k) ?_
  show own_G p.tables e below _ (T43.setTop (mkF m 63 #[rv a1, rv wa, iv 2, iv 2] []))
  refine own_al X43.here hx rfl (hb hby d3_63) rfl rfl ?_
  obtain ⟨T52, X52, e52, st52⟩ := getF X43 hx hZ hown (host := "") (Or.inl (own_w hw 21 rfl)) Via.refl e43 c47 (g := (mkF m 64 #[rv a1, rv wa, iv 2, iv 2] [(.ref a1)])) rfl rfl (hb hby d3_64)
  refine own_step st52 ?_
  refine own_al X52.here hx rfl (hb hby d3_67) rfl rfl ?_
  obtain ⟨T53, X53, e53, st53⟩ := getF X52 hx hZ hown (host := "") (Or.inl (own_w hw 19 rfl)) Via.refl e52 c46 (g := (mkF m 68 #[rv a1, rv wa, iv 2, iv 2] [(.ref a1), (.ref b10)])) rfl rfl (hb hby d3_68)
  refine own_step st53 ?_
  refine own_al X53.here hx rfl (hb hby d3_71) rfl rfl ?_
  obtain ⟨T54, X54, e54, st54⟩ := getF X53 hx hZ hown (host := "") (Or.inl (own_w hw 21 rfl)) Via.refl e53 c47 (g := (mkF m 72 #[rv a1, rv wa, iv 2, iv 2] [(.ref a1), (.int 5), (.ref b10)])) rfl rfl (hb hby d3_72)
  refine own_step st54 ?_
  refine own_step (own_lenJ X54 hx hZ e54 c44 (g := (mkF m 75 #[rv a1, rv wa, iv 2, iv 2] [(.ref b10), (.int 5), (.ref b10)])) rfl rfl (hb hby d3_75)) ?_
  clear X43 X52 X53 e43 e52 e53 hk51 st52 st53 st54
  show own_G p.tables e below _ (T54.setTop (mkF m 76 #[rv a1, rv wa, iv 2, iv 2] [(.int 8), (.int 5), (.ref b10)]))
  refine own_step (X54.ldc2Long hx hown (mvT hZ (own_w hw 30 rfl)) (g := (mkF m 76 #[rv a1, rv wa, iv 2, iv 2] [(.int 8), (.int 5), (.ref b10)])) rfl (hb hby d3_76)) ?_
  obtain ⟨_, _, ⟨T55, L55, k55, n55⟩, -, X55, ⟨Lc55, hQ55, l55, y55, z55⟩, st55⟩ := Jvm.LawKit.callS X54 hx (y := own_y7) hown (mvT hZ (own_w hw 31 rfl)) (mvT hZ (own_w hw 32 rfl)) (mvT hZ (own_w hw 33 rfl)) (mvT hZ (own_w hw 34 rfl)) (by decide) (backOf (W := 0) (rm7_n2 l Z a0 hw [] b10 (9223372036854775807 : Int64) (0 : Int64) (0 : Int64) (0 : Int64) (own_pk wt0 (0 : Int32)) (own_pk wt1 (1 : Int32)) (0 : Int64) (0 : Int64) (0 : Int64) h43 n0 (Nat.le_trans Z0 K43.1) c44 ge10) hZ (own_w hw 34 rfl) (own_w hw 33 rfl) (by decide) (by decide)) (g := (mkF m 79 #[rv a1, rv wa, iv 2, iv 2] [(.long 9223372036854775807), (.int 8), (.int 5), (.ref b10)])) rfl (by rw [hml]; rfl) (argsL := [(.ref b10), (.int 5), (.int 8), (.long 9223372036854775807)]) (rest := []) (lenOf pd_3_p2_2 rfl) rfl (own_wl rfl) (hb hby d3_79) (fun _ _ => ⟨rfl, e54, (by decide : 1 + 0 ≤ _), (by decide : 8 + 0 ≤ _)⟩)
  dsimp only [Pt.U, Pt.locs, Pt.cells, Pt.slots] at X55 l55 y55 z55 st55 hQ55
  subst y55 z55
  obtain ⟨rfl, N55q, K55q, w55_0⟩ := hQ55
  have c56 : Exa Z T55.heap a1 own_C := c45.keep K55q
  have c57 : Fld Z T55.heap a1 own_C "end" "I" (.int 5) := c46.keep K55q (ninS ne11 nin0)
  have c58 : Fld Z T55.heap a1 own_C "keys" "[J" (.ref b10) := c47.keep K55q (ninS ne11 nin0)
  have c59 : Fld Z T55.heap a1 own_C "nodes" "[I" .null := c48.keep K55q (ninS ne11 nin0)
  have c60 : own_Arj Z T55.heap wa [wt0, wt1] := c49.keep K55q (ninS ne12 nin0)
  have K55 : Keep h0 T55.heap [a1] := K43.trans K55q (allS (Or.inr sz10) all0)
  have N55 : Fr n0 L55 := by rw [l55]; exact Fr.app N43 N55q
  refine own_step st55 ?_
  refine own_go X55.here hx rfl (pc0 := 82) (pc' := 129) rfl (hb hby d3_82) (by decide) (by decide) ?_
  refine own_al X55.here hx rfl (hb hby d3_129) rfl rfl ?_
  obtain ⟨T62, X62, e62, st62⟩ := getF X55 hx hZ hown (host := "") (Or.inl (own_w hw 19 rfl)) Via.refl rfl c57 (g := (mkF m 130 #[rv a1, rv wa, iv 2, iv 2] [(.ref a1)])) rfl rfl (hb hby d3_130)
  refine own_step st62 ?_
  refine own_ic X62.here hx rfl (hb hby d3_133) ?_
  refine own_step (fun t k => XS.isub X62.here hx rfl (hb hby d3_134) rfl k) ?_
  clear K43 K55q N43 N55q X54 X55 c44 c45 c46 c47 c48 c49 e54 st55 st62
  show own_G p.tables e below _ (T62.setTop (mkF m 135 #[rv a1, rv wa, iv 2, iv 2] [(.int 4)]))
  obtain ⟨_, _, ⟨T63, L63, k63, n63⟩, -, X63, ⟨Lc63, hQ63, l63, y63, z63⟩, st63⟩ := Jvm.LawKit.callS X62 hx (y := own_y9) hown (mvT hZ (own_w hw 38 rfl)) (mvT hZ (own_w hw 39 rfl)) (mvT hZ (own_w hw 12 rfl)) (mvT hZ (own_w hw 40 rfl)) (by decide) (backOf (W := 0) (rm9 l Z a0 hw [] (4 : Int32) T55.heap n0 (Nat.le_trans Z0 K55.1) ) hZ (own_w hw 40 rfl) (own_w hw 12 rfl) (by decide) (by decide)) (g := (mkF m 135 #[rv a1, rv wa, iv 2, iv 2] [(.int 4)])) rfl (by rw [hml]; rfl) (argsL := [(.int 4)]) (rest := []) (lenOf pd_3_p2_3 rfl) rfl (own_wl rfl) (hb hby d3_135) (fun _ _ => ⟨rfl, e62, (by decide : 1 + 0 ≤ _), (by decide : 8 + 0 ≤ _)⟩)
  dsimp only [Pt.U, Pt.locs, Pt.cells, Pt.slots] at X63 l63 y63 z63 st63 hQ63
  subst y63 z63
  obtain ⟨rfl, N63q, e63⟩ := hQ63
  have N63 : Fr n0 L63 := by rw [l63]; exact Fr.app N55 N63q
  refine own_step st63 ?_
  show own_G p.tables e below _ (T63.setTop (mkF m 138 #[rv a1, rv wa, iv 2, iv 2] [(.int 3)]))
  refine own_step (fun t k => XS.istoreN X63.here hx rfl (hb hby d3_138) rfl (l' := #[rv a1, rv wa, iv 2, iv 3]) rfl k) ?_
  refine own_il X63.here hx rfl (hb hby d3_139) rfl ?_
  refine own_ic X63.here hx rfl (hb hby d3_140) ?_
  have hk64 : ¬ ((3 : Int32) < (3 : Int32)) := (by decide)
  refine own_step (fun t k => XS.icmpNo X63.here hx rfl (hb hby d3_141) rfl ((flt hk64).1) k) ?_
  show own_G p.tables e below _ (T63.setTop (mkF m 144 #[rv a1, rv wa, iv 2, iv 3] []))
  refine own_al X63.here hx rfl (hb hby d3_144) rfl rfl ?_
  refine own_il X63.here hx rfl (hb hby d3_145) rfl ?_
  refine own_ic X63.here hx rfl (hb hby d3_146) ?_
  obtain ⟨cq65, q65, q65'⟩ := c56.cell
  obtain ⟨_, _, ⟨T65, L65, k65, n65⟩, -, X65, ⟨Lc65, hQ65, l65, y65, z65⟩, st65⟩ := X63.privateBack hx (y := own_y10) hown (mvT hZ (own_w hw 41 rfl)) (mvT hZ (own_w hw 42 rfl)) (mvT hZ (own_sp10 hw)) (Cond.privateMethod_at (mvP hZ (own_w hw 43 rfl) (args := #[]))) (mvT hZ (own_w hw 44 rfl)) (by decide) (backOf (W := 0) (rm10_p l Z a0 hw [] a1 (3 : Int32) (0 : Int32) b10 [(0 : Int64), (0 : Int64), (0 : Int64), (own_pk wt0 (0 : Int32)), (own_pk wt1 (1 : Int32)), (9223372036854775807 : Int64), (9223372036854775807 : Int64), (9223372036854775807 : Int64)] T55.heap n0 (Nat.le_trans Z0 K55.1) c58 c59 w55_0 ((own_inb (by decide) (Nat.le_of_ble_eq_true rfl)) : own_Inb (3 : Int32) [(0 : Int64), (0 : Int64), (0 : Int64), (own_pk wt0 (0 : Int32)), (own_pk wt1 (1 : Int32)), (9223372036854775807 : Int64), (9223372036854775807 : Int64), (9223372036854775807 : Int64)].length) ((own_inb (by decide) (Nat.le_of_ble_eq_true rfl)) : own_Inb (0 : Int32) [(0 : Int64), (0 : Int64), (0 : Int64), (own_pk wt0 (0 : Int32)), (own_pk wt1 (1 : Int32)), (9223372036854775807 : Int64), (9223372036854775807 : Int64), (9223372036854775807 : Int64)].length) ge10 ne11) hZ (own_w hw 44 rfl) (own_w hw 12 rfl) (by decide) (by decide)) (g := (mkF m 147 #[rv a1, rv wa, iv 2, iv 3] [(.int 0), (.int 3), (.ref a1)])) rfl (by rw [hml]; rfl) (Steps.refl _) (a := a1) (by rw [e63]; exact q65) q65' (argsL := [(.int 3), (.int 0)]) (rest := []) (lenOf pd_3_p2_4 rfl) rfl (own_wl rfl) (hb hby d3_147) (fun _ _ => ⟨rfl, e63, (by decide : 1 + 0 ≤ _), (by decide : 8 + 0 ≤ _)⟩)
  dsimp only [Pt.U, Pt.locs, Pt.cells, Pt.slots] at X65 l65 y65 z65 st65 hQ65
  subst y65 z65
  obtain ⟨rfl, N65q, K65q, w65_0⟩ := hQ65
  have c66 : Exa Z T65.heap a1 own_C := c56.keep K65q
  have c67 : Fld Z T65.heap a1 own_C "end" "I" (.int 5) := c57.keep K65q (ninS ne11 nin0)
  have c68 : Fld Z T65.heap a1 own_C "keys" "[J" (.ref b10) := c58.keep K65q (ninS ne11 nin0)
  have c69 : Fld Z T65.heap a1 own_C "nodes" "[I" .null := c59.keep K65q (ninS ne11 nin0)
  have c70 : own_Arj Z T65.heap wa [wt0, wt1] := c60.keep K65q (ninS ne12 nin0)
  have K65 : Keep h0 T65.heap [a1] := K55.trans K65q (allS (Or.inr sz10) all0)
  have c72 : own_Arj Z T65.heap b10 [(own_pk wt0 (0 : Int32)), 0, 0, (own_pk wt0 (0 : Int32)), (own_pk wt1 (1 : Int32)), 9223372036854775807, 9223372036854775807, 9223372036854775807] := w65_0
  have N65 : Fr n0 L65 := by rw [l65]; exact Fr.app N63 N65q
  refine own_step (fun t k => st65.trans k) ?_
  refine own_al X65.here hx rfl (hb hby d3_150) rfl rfl ?_
  refine own_il X65.here hx rfl (hb hby d3_151) rfl ?_
  obtain ⟨cq73, q73, q73'⟩ := c66.cell
  obtain ⟨_, _, ⟨T73, L73, k73, n73⟩, -, X73, ⟨Lc73, hQ73, l73, y73, z73⟩, st73⟩ := X65.privateBack hx (y := own_y11) hown (mvT hZ (own_w hw 47 rfl)) (mvT hZ (own_w hw 48 rfl)) (mvT hZ (own_sp11 hw)) (Cond.privateMethod_at (mvP hZ (own_w hw 49 rfl) (args := #[]))) (mvT hZ (own_w hw 50 rfl)) (by decide) (backOf (W := 0) (rm11_p l Z a0 hw [] a1 b10 (5 : Int32) [(own_pk wt0 (0 : Int32)), (0 : Int64), (0 : Int64), (own_pk wt0 (0 : Int32)), (own_pk wt1 (1 : Int32)), (9223372036854775807 : Int64), (9223372036854775807 : Int64), (9223372036854775807 : Int64)] T65.heap n0 (Nat.le_trans Z0 K65.1) c66 c68 c67 c69 c72 ((by decide) : (4 : Int32) < (5 : Int32)) ((by decide) : ¬ (8 : Int32) < (5 : Int32)) ((Nat.le_of_ble_eq_true rfl) : 8 ≤ [(own_pk wt0 (0 : Int32)), (0 : Int64), (0 : Int64), (own_pk wt0 (0 : Int32)), (own_pk wt1 (1 : Int32)), (9223372036854775807 : Int64), (9223372036854775807 : Int64), (9223372036854775807 : Int64)].length) ge10 ne11) hZ (own_w hw 50 rfl) (own_w hw 12 rfl) (by decide) (by decide)) (g := (mkF m 152 #[rv a1, rv wa, iv 2, iv 3] [(.int 3), (.ref a1)])) rfl (by rw [hml]; rfl) (Steps.refl _) (a := a1) q73 q73' (argsL := [(.int 3)]) (rest := []) (lenOf pd_3_p2_5 rfl) rfl (own_wl rfl) (hb hby d3_152) (fun _ _ => ⟨rfl, rfl, (by decide : 1 + 0 ≤ _), (by decide : 8 + 0 ≤ _)⟩)
  dsimp only [Pt.U, Pt.locs, Pt.cells, Pt.slots] at X73 l73 y73 z73 st73 hQ73
  subst y73 z73
  obtain ⟨bx73_L_ky, rfl, N73q, K73q, w73_0, pr73_0⟩ := hQ73
  have c74 : Exa Z T73.heap a1 own_C := c66.keep K73q
  have c75 : Fld Z T73.heap a1 own_C "end" "I" (.int 5) := c67.keep K73q (ninS ne11 nin0)
  have c76 : Fld Z T73.heap a1 own_C "keys" "[J" (.ref b10) := c68.keep K73q (ninS ne11 nin0)
  have c77 : Fld Z T73.heap a1 own_C "nodes" "[I" .null := c69.keep K73q (ninS ne11 nin0)
  have c78 : own_Arj Z T73.heap wa [wt0, wt1] := c70.keep K73q (ninS ne12 nin0)
  have K73 : Keep h0 T73.heap [a1] := K65.trans K73q (allS (Or.inr sz10) all0)
  have N73 : Fr n0 L73 := by rw [l73]; exact Fr.app N65 N73q
  refine own_step (fun t k => st73.trans k) ?_
  clear K55 K65 K65q K73q N55 N63 N63q N65 N65q N73q X62 X63 X65 c56 c57 c58 c59 c60 c66 c67 c68 c69 c70 c72 e62 e63 hk64 q65 q65' q73 q73' st63 st65 st73 w55_0 w65_0
  show own_G p.tables e below _ (T73.setTop (mkF m 155 #[rv a1, rv wa, iv 2, iv 3] []))
  refine own_step (fun t k => XS.iinc X73.here hx rfl (hb hby d3_155) rfl (l' := #[rv a1, rv wa, iv 2, iv 2]) rfl k) ?_
  refine own_go X73.here hx rfl (pc0 := 158) (pc' := 139) rfl (hb hby d3_158) (by decide) (by decide) ?_
  refine own_il X73.here hx rfl (hb hby d3_139) rfl ?_
  refine own_ic X73.here hx rfl (hb hby d3_140) ?_
  have hk80 : (2 : Int32) < (3 : Int32) := (by decide)
  refine own_step (fun t k => XS.icmpYes X73.here hx rfl (pc0 := 141) (pc' := 161) rfl (hb hby d3_141) rfl ((tlt hk80).1) (by decide) (by decide) k) ?_
  show own_G p.tables e below _ (T73.setTop (mkF m 161 #[rv a1, rv wa, iv 2, iv 2] []))
  obtain ⟨fs, hr, hrun, hended, hW, hsame⟩ := X73.leave (v := none) (fun _ => rfl)
  refine own_done (X73.returnOut hx Bd.returns (hb hby d3_161) hr) hrun hended ⟨_, _, rfl, ?_, ⟨_, rfl⟩, hW, hsame.mono (by decide) (by decide)⟩
  show Q3_p2 Z a1 wa wt0 wt1 h0 n0 _ T73.heap _
  exact ⟨b10, _, rfl, N73, K73, c75, c76, c77, w73_0, sz10, (by have hbq := own_f5b_n2 hpk; obtain ⟨hbq0, hbq1⟩ := hbq; exact ⟨pr73_0.1, (own_P (own_R_pk (i := 0) hnn0 hbq0 (by decide) (by decide)) (own_R_pk (i := 1) hnn1 hbq1 (by decide) (by decide)) own_R_max own_R_max own_R_max pr73_0.2).trans (by omega)⟩)⟩
theorem d10_19 : decode prog_20_method_14_code 19 = .ok (.aload_n 0, 1) := by decide +kernel
theorem d10_20 : decode prog_20_method_14_code 20 = .ok (.getfield 35, 3) := by decide +kernel
theorem d10_23 : decode prog_20_method_14_code 23 = .ok (.iload_n 2, 1) := by decide +kernel
theorem d10_24 : decode prog_20_method_14_code 24 = .ok (.aload_n 0, 1) := by decide +kernel
theorem d10_25 : decode prog_20_method_14_code 25 = .ok (.getfield 35, 3) := by decide +kernel
theorem d10_28 : decode prog_20_method_14_code 28 = .ok (.iload_n 1, 1) := by decide +kernel
theorem d10_29 : decode prog_20_method_14_code 29 = .ok (.iaload, 1) := by decide +kernel
theorem d10_30 : decode prog_20_method_14_code 30 = .ok (.iastore, 1) := by decide +kernel
theorem pn_10_u : plainName "com/example/leafcode/leafcode/FourWayHeap" = true := by first | (simp [plainName, overriddenIn]; done) | decide +kernel
theorem ef_10_u (m : MethodId) (a1 : Addr) (fm : Int32) (tt : Int32) : entryFrame m #[(.ref a1), (.int fm), (.int tt)] 3 = mkF m 0 #[rv a1, iv fm, iv tt] [] := by first | (simp [entryFrame, mkF, argsToLocals, Value.category]; done) | rfl
def Q10_u (Z : State) (a1 : Addr) (fm : Int32) (tt : Int32) (ky : Addr) (nd : Addr) (vs : List Int64) (us : List Int32) (h0 : Heap) (n0 : Nat) (v : Option Value) (h : Heap) (L : List Loc) : Prop := v = none ∧ Fr n0 L ∧ Keep h0 h [ky, nd] ∧ own_Arj Z h ky (vs.set tt.toNatClampNeg (vs.getD fm.toNatClampNeg 0)) ∧ own_Ari Z h nd .int (us.set tt.toNatClampNeg (us.getD fm.toNatClampNeg 0))
set_option maxRecDepth 65536 in
set_option maxHeartbeats 40000000 in
theorem rm10_u (l : Launch) (Z : State) (a0 : Array Value) (hw : ∀ d ∈ tables_1, d.before a0 Z = true) (ws : List Jvm.Cond) (a1 : Addr) (fm : Int32) (tt : Int32) (ky : Addr) (nd : Addr) (vs : List Int64) (us : List Int32) (h0 : Heap) (n0 : Nat) (Z0 : n0 ≤ h0.size) (fp0 : Fld Z h0 a1 own_C "keys" "[J" (.ref ky)) (fp1 : Fld Z h0 a1 own_C "nodes" "[I" (.ref nd)) (fp2 : own_Arj Z h0 ky vs) (fp3 : own_Ari Z h0 nd .int us) (hfm : own_Inb fm vs.length) (htt : own_Inb tt vs.length) (hfn : own_Inb fm us.length) (htn : own_Inb tt us.length) (g_ky : n0 ≤ ky) (ne_a1_ky : a1 ≠ ky) (ne_nd_ky : nd ≠ ky) (g_nd : n0 ≤ nd) (ne_a1_nd : a1 ≠ nd) :
    MetFree l (⟨"com/example/leafcode/leafcode/FourWayHeap", "move", "(II)V"⟩ : MethodName) (head1 (Jvm.Cond.code (⟨"com/example/leafcode/leafcode/FourWayHeap", "move", "(II)V"⟩ : MethodName) prog_20_method_14_code 3 none :: ws) ({ frames := 0, cells := 0, slots := 0, locals := 0 } : Room)) (fun a U => a = #[(.ref a1), (.int fm), (.int tt)] ∧ Z.Warmed39 U.vm ∧ U.heap = h0) (fun _ _ _ _ _ => True) (fun _ U o U' => ∃ v L, o = .returned v ∧ Q10_u Z a1 fm tt ky nd vs us h0 n0 v U'.heap L ∧ FrameEnd U o U' L ({ frames := 0, cells := 0, slots := 0, locals := 0 } : Room).cells ({ frames := 0, cells := 0, slots := 0, locals := 0 } : Room).slots) := by
  refine MetFree.of_bodySF (plainFor_of_name pn_10_u) hisR ?_
  intro p e s m args below meth c s₁ Bd hml0 hP hK
  obtain ⟨rfl, hZ, hh⟩ := hP
  have hx := Bd.exec
  have hby := Bd.bytes
  have hml : c.maxLocals = 3 := hml0
  have hown : s.vm.findClass "com/example/leafcode/leafcode/FourWayHeap" = some m.cls := findClass_of_methodNamed Bd.named
  have hnm := (name_of_methodNamed Bd.named Bd.method).1
  have X0 : Stand p l e ({ frames := 0, cells := 0, slots := 0, locals := 0 } : Room) s m #[(.ref a1), (.int fm), (.int tt)] below meth c s₁ [] 0 0 := Stand.of_body Bd
  have e0 : s₁.heap = h0 := by rw [← hh, Bd.state]; rfl
  have N0 := Fr.nil n0
  refine own_start (fun t k => castTop (ef_10_u m a1 fm tt) k) ?_
  show own_G p.tables e below _ (s₁.setTop (mkF m 0 #[rv a1, iv fm, iv tt] []))
  refine own_al X0.here hx rfl (hb hby d10_0) rfl rfl ?_
  obtain ⟨T1, X1, e1, st1⟩ := getF X0 hx hZ hown (host := "") (Or.inl (own_w hw 21 rfl)) Via.refl e0 fp0 (g := (mkF m 1 #[rv a1, iv fm, iv tt] [(.ref a1)])) rfl rfl (hb hby d10_1)
  refine own_step st1 ?_
  refine own_il X1.here hx rfl (hb hby d10_4) rfl ?_
  refine own_al X1.here hx rfl (hb hby d10_5) rfl rfl ?_
  obtain ⟨T2, X2, e2, st2⟩ := getF X1 hx hZ hown (host := "") (Or.inl (own_w hw 21 rfl)) Via.refl e1 fp0 (g := (mkF m 6 #[rv a1, iv fm, iv tt] [(.ref a1), (.int tt), (.ref ky)])) rfl rfl (hb hby d10_6)
  refine own_step st2 ?_
  refine own_il X2.here hx rfl (hb hby d10_9) rfl ?_
  refine own_step (own_laload X2 hx hZ e2 fp2 hfm (g := (mkF m 10 #[rv a1, iv fm, iv tt] [(.int fm), (.ref ky), (.int tt), (.ref ky)])) rfl rfl (hb hby d10_10)) ?_
  show own_G p.tables e below _ (T2.setTop (mkF m 11 #[rv a1, iv fm, iv tt] [(.long (vs.getD fm.toNatClampNeg 0)), (.int tt), (.ref ky)]))
  obtain ⟨T3, h3, X3, e3, W3, c3, st3⟩ := own_lastore X2 hx hZ e2 fp2 htt (g := (mkF m 11 #[rv a1, iv fm, iv tt] [(.long (vs.getD fm.toNatClampNeg 0)), (.int tt), (.ref ky)])) rfl rfl (hb hby d10_11)
  have N3 := Fr.snoc X3 N0 g_ky
  have c4 : own_Arj Z h3 ky (vs.set tt.toNatClampNeg (vs.getD fm.toNatClampNeg 0)) := c3
  have c5 : Fld Z h3 a1 own_C "keys" "[J" (.ref ky) := fp0.other W3 (Or.inl ne_a1_ky)
  have c6 : Fld Z h3 a1 own_C "nodes" "[I" (.ref nd) := fp1.other W3 (Or.inl ne_a1_ky)
  have c8 : own_Ari Z h3 nd .int us := fp3.other W3 ne_nd_ky
  have K3 : Keep h0 h3 [ky, nd] := (Keep.refl h0 [ky, nd]).wr W3 (Or.inl (List.mem_of_getElem? (i := 0) rfl))
  refine own_step st3 ?_
  refine own_al X3.here hx rfl (hb hby d10_12) rfl rfl ?_
  obtain ⟨T9, X9, e9, st9⟩ := getF X3 hx hZ hown (host := "") (Or.inl (own_w hw 45 rfl)) Via.refl e3 c6 (g := (mkF m 13 #[rv a1, iv fm, iv tt] [(.ref a1)])) rfl rfl (hb hby d10_13)
  refine own_step st9 ?_
  refine own_step (fun t k => XS.ifnullNo X9.here hx rfl (hb hby d10_16) rfl k) ?_
  refine own_al X9.here hx rfl (hb hby d10_19) rfl rfl ?_
  obtain ⟨T10, X10, e10, st10⟩ := getF X9 hx hZ hown (host := "") (Or.inl (own_w hw 45 rfl)) Via.refl e9 c6 (g := (mkF m 20 #[rv a1, iv fm, iv tt] [(.ref a1)])) rfl rfl (hb hby d10_20)
  refine own_step st10 ?_
  refine own_il X10.here hx rfl (hb hby d10_23) rfl ?_
  clear W3 X1 X2 X3 X9 c3 e1 e2 e3 e9 st1 st10 st2 st3 st9
  show own_G p.tables e below _ (T10.setTop (mkF m 24 #[rv a1, iv fm, iv tt] [(.int tt), (.ref nd)]))
  refine own_al X10.here hx rfl (hb hby d10_24) rfl rfl ?_
  obtain ⟨T11, X11, e11, st11⟩ := getF X10 hx hZ hown (host := "") (Or.inl (own_w hw 45 rfl)) Via.refl e10 c6 (g := (mkF m 25 #[rv a1, iv fm, iv tt] [(.ref a1), (.int tt), (.ref nd)])) rfl rfl (hb hby d10_25)
  refine own_step st11 ?_
  refine own_il X11.here hx rfl (hb hby d10_28) rfl ?_
  refine own_step (own_iaload X11 hx hZ e11 c8 hfn (g := (mkF m 29 #[rv a1, iv fm, iv tt] [(.int fm), (.ref nd), (.int tt), (.ref nd)])) rfl rfl (hb hby d10_29)) ?_
  obtain ⟨T12, h12, X12, e12, W12, c12, st12⟩ := own_iastore X11 hx hZ e11 c8 htn (g := (mkF m 30 #[rv a1, iv fm, iv tt] [(.int (us.getD fm.toNatClampNeg 0)), (.int tt), (.ref nd)])) rfl rfl (hb hby d10_30)
  have N12 := Fr.snoc X12 N3 g_nd
  have c13 : own_Ari Z h12 nd .int (us.set tt.toNatClampNeg (us.getD fm.toNatClampNeg 0)) := c12
  have c14 : Fld Z h12 a1 own_C "keys" "[J" (.ref ky) := c5.other W12 (Or.inl ne_a1_nd)
  have c15 : Fld Z h12 a1 own_C "nodes" "[I" (.ref nd) := c6.other W12 (Or.inl ne_a1_nd)
  have c16 : own_Arj Z h12 ky (vs.set tt.toNatClampNeg (vs.getD fm.toNatClampNeg 0)) := c4.other W12 (Ne.symm ne_nd_ky)
  have K12 : Keep h0 h12 [ky, nd] := K3.wr W12 (Or.inl (List.mem_of_getElem? (i := 1) rfl))
  refine own_step st12 ?_
  obtain ⟨fs, hr, hrun, hended, hW, hsame⟩ := X12.leave (v := none) (fun _ => rfl)
  refine own_done (X12.returnOut hx Bd.returns (hb hby d10_31) hr) hrun hended ⟨_, _, rfl, ?_, ⟨_, rfl⟩, hW, hsame.mono (by decide) (by decide)⟩
  show Q10_u Z a1 fm tt ky nd vs us h0 n0 _ T12.heap _
  rw [e12]
  exact ⟨rfl, N12, K12, c16, c13⟩
theorem d16_0 : decode jdk_29_method_69_code 0 = .ok (.iload_n 0, 1) := by decide +kernel
theorem d16_1 : decode jdk_29_method_69_code 1 = .ok (.iload_n 1, 1) := by decide +kernel
theorem d16_2 : decode jdk_29_method_69_code 2 = .ok (.if_icmp .gt 7, 3) := by decide +kernel
theorem d16_5 : decode jdk_29_method_69_code 5 = .ok (.iload_n 0, 1) := by decide +kernel
theorem d16_6 : decode jdk_29_method_69_code 6 = .ok (.goto 4, 3) := by decide +kernel
theorem d16_9 : decode jdk_29_method_69_code 9 = .ok (.iload_n 1, 1) := by decide +kernel
theorem d16_10 : decode jdk_29_method_69_code 10 = .ok (.ireturn, 1) := by decide +kernel
theorem ef_16 (m : MethodId) (ia : Int32) (ib : Int32) : entryFrame m #[(.int ia), (.int ib)] 2 = mkF m 0 #[iv ia, iv ib] [] := by first | (simp [entryFrame, mkF, argsToLocals, Value.category]; done) | rfl
def own_f16 (ia : Int32) (ib : Int32) : Int32 :=
  (if ib < ia then ib else ia)
theorem own_lst {z en : Int32} (h : z = own_f16 (8 : Int32) en) (h8 : ¬ (8 : Int32) < en) : ¬ (8 : Int32) < z := by
  subst h
  unfold own_f16
  split <;> rename_i q
  · first | exact h8 | decide
  · first | exact h8 | decide
def Q16 (Z : State) (ia : Int32) (ib : Int32) (h0 : Heap) (n0 : Nat) (v : Option Value) (h : Heap) (L : List Loc) : Prop := v = some (.int (own_f16 ia ib)) ∧ Fr n0 L ∧ h = h0
set_option maxRecDepth 65536 in
set_option maxHeartbeats 40000000 in
theorem rm16 (l : Launch) (Z : State) (a0 : Array Value) (hw : ∀ d ∈ tables_1, d.before a0 Z = true) (ws : List Jvm.Cond) (ia : Int32) (ib : Int32) (h0 : Heap) (n0 : Nat) (Z0 : n0 ≤ h0.size) :
    MetFree l (⟨"java/lang/Math", "min", "(II)I"⟩ : MethodName) (head1 (Jvm.Cond.code (⟨"java/lang/Math", "min", "(II)I"⟩ : MethodName) jdk_29_method_69_code 2 (some .int) :: ws) ({ frames := 0, cells := 0, slots := 0, locals := 0 } : Room)) (fun a U => a = #[(.int ia), (.int ib)] ∧ Z.Warmed39 U.vm ∧ U.heap = h0) (fun _ _ _ _ _ => True) (fun _ U o U' => ∃ v L, o = .returned v ∧ Q16 Z ia ib h0 n0 v U'.heap L ∧ FrameEnd U o U' L ({ frames := 0, cells := 0, slots := 0, locals := 0 } : Room).cells ({ frames := 0, cells := 0, slots := 0, locals := 0 } : Room).slots) := by
  refine MetFree.of_bodySF (Jvm.Free.JP.mathPlain rfl (by decide +kernel)) hisR ?_
  intro p e s m args below meth c s₁ Bd hml0 hP hK
  obtain ⟨rfl, hZ, hh⟩ := hP
  have hx := Bd.exec
  have hby := Bd.bytes
  have hml : c.maxLocals = 2 := hml0
  have hown : s.vm.findClass "java/lang/Math" = some m.cls := findClass_of_methodNamed Bd.named
  have hnm := (name_of_methodNamed Bd.named Bd.method).1
  have X0 : Stand p l e ({ frames := 0, cells := 0, slots := 0, locals := 0 } : Room) s m #[(.int ia), (.int ib)] below meth c s₁ [] 0 0 := Stand.of_body Bd
  have e0 : s₁.heap = h0 := by rw [← hh, Bd.state]; rfl
  have N0 := Fr.nil n0
  refine own_start (fun t k => castTop (ef_16 m ia ib) k) ?_
  show own_G p.tables e below _ (s₁.setTop (mkF m 0 #[iv ia, iv ib] []))
  refine own_il X0.here hx rfl (hb hby d16_0) rfl ?_
  refine own_il X0.here hx rfl (hb hby d16_1) rfl ?_
  by_cases hc1 : ib < ia
  · skip
    refine own_step (fun t k => XS.icmpYes X0.here hx rfl (pc0 := 2) (pc' := 9) rfl (hb hby d16_2) rfl ((tlt hc1).2.2.1) (by decide) (by decide) k) ?_
    show own_G p.tables e below _ (s₁.setTop (mkF m 9 #[iv ia, iv ib] []))
    refine own_il X0.here hx rfl (hb hby d16_9) rfl ?_
    obtain ⟨fs, hr, hrun, hended, hW, hsame⟩ := X0.leave (v := some (.int ib)) (fun h => by rw [Bd.returns] at h; cases h)
    refine own_done (retI X0 hx Bd.returns (hb hby d16_10) hr) hrun hended ⟨_, _, rfl, ?_, ⟨_, rfl⟩, hW, hsame.mono (by decide) (by decide)⟩
    show Q16 Z ia ib h0 n0 _ s₁.heap _
    rw [e0]
    exact ⟨congrArg (fun z => some (Value.int z)) (show ib = (own_f16 ia ib) from by unfold own_f16; simp only [if_pos hc1]), N0, rfl⟩
  · skip
    refine own_step (fun t k => XS.icmpNo X0.here hx rfl (hb hby d16_2) rfl ((flt hc1).2.2.1) k) ?_
    show own_G p.tables e below _ (s₁.setTop (mkF m 5 #[iv ia, iv ib] []))
    refine own_il X0.here hx rfl (hb hby d16_5) rfl ?_
    refine own_go X0.here hx rfl (pc0 := 6) (pc' := 10) rfl (hb hby d16_6) (by decide) (by decide) ?_
    obtain ⟨fs, hr, hrun, hended, hW, hsame⟩ := X0.leave (v := some (.int ia)) (fun h => by rw [Bd.returns] at h; cases h)
    refine own_done (retI X0 hx Bd.returns (hb hby d16_10) hr) hrun hended ⟨_, _, rfl, ?_, ⟨_, rfl⟩, hW, hsame.mono (by decide) (by decide)⟩
    show Q16 Z ia ib h0 n0 _ s₁.heap _
    rw [e0]
    exact ⟨congrArg (fun z => some (Value.int z)) (show ia = (own_f16 ia ib) from by unfold own_f16; simp only [if_neg hc1]), N0, rfl⟩
theorem d17_0 : decode prog_35_method_4_code 0 = .ok (.lload_n 0, 1) := by decide +kernel
theorem d17_1 : decode prog_35_method_4_code 1 = .ok (.lload_n 3, 1) := by decide +kernel
theorem d17_2 : decode prog_35_method_4_code 2 = .ok (.lcmp, 1) := by decide +kernel
theorem d17_3 : decode prog_35_method_4_code 3 = .ok (.ifCond .lt 15, 3) := by decide +kernel
theorem d17_6 : decode prog_35_method_4_code 6 = .ok (.lload_n 0, 1) := by decide +kernel
theorem d17_7 : decode prog_35_method_4_code 7 = .ok (.lload_n 3, 1) := by decide +kernel
theorem d17_8 : decode prog_35_method_4_code 8 = .ok (.lcmp, 1) := by decide +kernel
theorem d17_9 : decode prog_35_method_4_code 9 = .ok (.ifCond .ne 13, 3) := by decide +kernel
theorem d17_12 : decode prog_35_method_4_code 12 = .ok (.iload_n 2, 1) := by decide +kernel
theorem d17_13 : decode prog_35_method_4_code 13 = .ok (.iload 5, 2) := by decide +kernel
theorem d17_15 : decode prog_35_method_4_code 15 = .ok (.if_icmp .ge 7, 3) := by decide +kernel
theorem d17_18 : decode prog_35_method_4_code 18 = .ok (.iconst 1, 1) := by decide +kernel
theorem d17_19 : decode prog_35_method_4_code 19 = .ok (.goto 4, 3) := by decide +kernel
theorem d17_22 : decode prog_35_method_4_code 22 = .ok (.iconst 0, 1) := by decide +kernel
theorem d17_23 : decode prog_35_method_4_code 23 = .ok (.ireturn, 1) := by decide +kernel
theorem pn_17 : plainName "com/example/leafcode/leafcode/NodeQueue" = true := by first | (simp [plainName, overriddenIn]; done) | decide +kernel
theorem ef_17 (m : MethodId) (xw : Int64) (xi : Int32) (yw : Int64) (yj : Int32) : entryFrame m #[(.long xw), (.int xi), (.long yw), (.int yj)] 6 = mkF m 0 #[.val (.long xw), .second, iv xi, .val (.long yw), .second, iv yj] [] := by first | (simp [entryFrame, mkF, argsToLocals, Value.category]; done) | rfl
def own_f17 (xw : Int64) (xi : Int32) (yw : Int64) (yj : Int32) : Int32 :=
  (if xw < yw then (1 : Int32) else (if xw = yw then (if xi < yj then (1 : Int32) else (0 : Int32)) else (0 : Int32)))
theorem own_nz17 (a : Int64) (i : Int32) (b : Int64) (j : Int32) : (nar .boolean (own_f17 a i b j)) = own_f17 a i b j := by
  unfold own_f17
  repeat' split
  all_goals first | rfl | decide
theorem own_17c (a : Int64) (i : Int32) (b : Int64) (j : Int32) : (own_f17 a i b j = (0 : Int32) ∧ b.toInt ≤ a.toInt) ∨ (¬ own_f17 a i b j = (0 : Int32) ∧ a.toInt ≤ b.toInt) := by
  unfold own_f17
  by_cases q : a < b
  · rw [if_pos q]; rw [Int64.lt_iff_toInt_lt] at q; exact Or.inr ⟨by decide, by omega⟩
  · rw [if_neg q]; rw [Int64.lt_iff_toInt_lt] at q
    by_cases r : a = b
    · subst r; rw [if_pos rfl]
      split
      · exact Or.inr ⟨by decide, by omega⟩
      · exact Or.inl ⟨by decide, by omega⟩
    · rw [if_neg r]; exact Or.inl ⟨by decide, by omega⟩
theorem own_17z {a : Int64} {i : Int32} {b : Int64} {j : Int32} (h : own_f17 a i b j = (0 : Int32)) : b.toInt ≤ a.toInt := by
  rcases own_17c a i b j with q | q
  · exact q.2
  · exact absurd h q.1
theorem own_17n {a : Int64} {i : Int32} {b : Int64} {j : Int32} (h : ¬ own_f17 a i b j = (0 : Int32)) : a.toInt ≤ b.toInt := by
  rcases own_17c a i b j with q | q
  · exact absurd q.1 h
  · exact q.2
def Q17 (Z : State) (xw : Int64) (xi : Int32) (yw : Int64) (yj : Int32) (h0 : Heap) (n0 : Nat) (v : Option Value) (h : Heap) (L : List Loc) : Prop := v = some (.int (own_f17 xw xi yw yj)) ∧ Fr n0 L ∧ h = h0
set_option maxRecDepth 65536 in
set_option maxHeartbeats 40000000 in
theorem rm17 (l : Launch) (Z : State) (a0 : Array Value) (hw : ∀ d ∈ tables_1, d.before a0 Z = true) (ws : List Jvm.Cond) (xw : Int64) (xi : Int32) (yw : Int64) (yj : Int32) (h0 : Heap) (n0 : Nat) (Z0 : n0 ≤ h0.size) :
    MetFree l (⟨"com/example/leafcode/leafcode/NodeQueue", "precedes", "(JIJI)Z"⟩ : MethodName) (head1 (Jvm.Cond.code (⟨"com/example/leafcode/leafcode/NodeQueue", "precedes", "(JIJI)Z"⟩ : MethodName) prog_35_method_4_code 6 (some .boolean) :: ws) ({ frames := 0, cells := 0, slots := 0, locals := 0 } : Room)) (fun a U => a = #[(.long xw), (.int xi), (.long yw), (.int yj)] ∧ Z.Warmed39 U.vm ∧ U.heap = h0) (fun _ _ _ _ _ => True) (fun _ U o U' => ∃ v L, o = .returned v ∧ Q17 Z xw xi yw yj h0 n0 v U'.heap L ∧ FrameEnd U o U' L ({ frames := 0, cells := 0, slots := 0, locals := 0 } : Room).cells ({ frames := 0, cells := 0, slots := 0, locals := 0 } : Room).slots) := by
  refine MetFree.of_bodySF (plainFor_of_name pn_17) hisR ?_
  intro p e s m args below meth c s₁ Bd hml0 hP hK
  obtain ⟨rfl, hZ, hh⟩ := hP
  have hx := Bd.exec
  have hby := Bd.bytes
  have hml : c.maxLocals = 6 := hml0
  have hown : s.vm.findClass "com/example/leafcode/leafcode/NodeQueue" = some m.cls := findClass_of_methodNamed Bd.named
  have hnm := (name_of_methodNamed Bd.named Bd.method).1
  have X0 : Stand p l e ({ frames := 0, cells := 0, slots := 0, locals := 0 } : Room) s m #[(.long xw), (.int xi), (.long yw), (.int yj)] below meth c s₁ [] 0 0 := Stand.of_body Bd
  have e0 : s₁.heap = h0 := by rw [← hh, Bd.state]; rfl
  have N0 := Fr.nil n0
  refine own_start (fun t k => castTop (ef_17 m xw xi yw yj) k) ?_
  show own_G p.tables e below _ (s₁.setTop (mkF m 0 #[.val (.long xw), .second, iv xi, .val (.long yw), .second, iv yj] []))
  refine own_step (fun t k => XS.lloadN X0.here hx rfl (hb hby d17_0) rfl k) ?_
  refine own_step (fun t k => XS.lloadN X0.here hx rfl (hb hby d17_1) rfl k) ?_
  refine own_step (fun t k => XS.lcmp X0.here hx rfl (hb hby d17_2) rfl k) ?_
  by_cases hc1 : xw < yw
  · skip
    refine own_step (fun t k => XS.ifYes X0.here hx rfl (pc0 := 3) (pc' := 18) rfl (hb hby d17_3) rfl ((if0 _ _).trans (tlt ((lw_lt _ _).mpr hc1)).1) (by decide) (by decide) k) ?_
    show own_G p.tables e below _ (s₁.setTop (mkF m 18 #[.val (.long xw), .second, iv xi, .val (.long yw), .second, iv yj] []))
    refine own_ic X0.here hx rfl (hb hby d17_18) ?_
    refine own_go X0.here hx rfl (pc0 := 19) (pc' := 23) rfl (hb hby d17_19) (by decide) (by decide) ?_
    obtain ⟨fs, hr, hrun, hended, hW, hsame⟩ := X0.leave (v := some (.int (1 : Int32))) (fun h => by rw [Bd.returns] at h; cases h)
    refine own_done (retN X0 hx (t := .boolean) Bd.returns (by simp) (hb hby d17_23) hr) hrun hended ⟨_, _, rfl, ?_, ⟨_, rfl⟩, hW, hsame.mono (by decide) (by decide)⟩
    show Q17 Z xw xi yw yj h0 n0 _ s₁.heap _
    rw [e0]
    exact ⟨congrArg (fun z => some (Value.int z)) (show (1 : Int32) = (own_f17 xw xi yw yj) from by unfold own_f17; simp only [if_pos hc1]), N0, rfl⟩
  · skip
    refine own_step (fun t k => XS.ifNo X0.here hx rfl (hb hby d17_3) rfl ((if0 _ _).trans (flt (fun q => hc1 ((lw_lt _ _).mp q))).1) k) ?_
    show own_G p.tables e below _ (s₁.setTop (mkF m 6 #[.val (.long xw), .second, iv xi, .val (.long yw), .second, iv yj] []))
    refine own_step (fun t k => XS.lloadN X0.here hx rfl (hb hby d17_6) rfl k) ?_
    refine own_step (fun t k => XS.lloadN X0.here hx rfl (hb hby d17_7) rfl k) ?_
    refine own_step (fun t k => XS.lcmp X0.here hx rfl (hb hby d17_8) rfl k) ?_
    by_cases hc2 : xw = yw
    · skip
      refine own_step (fun t k => XS.ifNo X0.here hx rfl (hb hby d17_9) rfl ((if0 _ _).trans (teq ((lw_eq _ _).mpr hc2)).2) k) ?_
      show own_G p.tables e below _ (s₁.setTop (mkF m 12 #[.val (.long xw), .second, iv xi, .val (.long yw), .second, iv yj] []))
      refine own_il X0.here hx rfl (hb hby d17_12) rfl ?_
      refine own_ix X0.here hx rfl (hb hby d17_13) rfl ?_
      by_cases hc3 : xi < yj
      · skip
        refine own_step (fun t k => XS.icmpNo X0.here hx rfl (hb hby d17_15) rfl ((tlt hc3).2.1) k) ?_
        show own_G p.tables e below _ (s₁.setTop (mkF m 18 #[.val (.long xw), .second, iv xi, .val (.long yw), .second, iv yj] []))
        refine own_ic X0.here hx rfl (hb hby d17_18) ?_
        refine own_go X0.here hx rfl (pc0 := 19) (pc' := 23) rfl (hb hby d17_19) (by decide) (by decide) ?_
        obtain ⟨fs, hr, hrun, hended, hW, hsame⟩ := X0.leave (v := some (.int (1 : Int32))) (fun h => by rw [Bd.returns] at h; cases h)
        refine own_done (retN X0 hx (t := .boolean) Bd.returns (by simp) (hb hby d17_23) hr) hrun hended ⟨_, _, rfl, ?_, ⟨_, rfl⟩, hW, hsame.mono (by decide) (by decide)⟩
        show Q17 Z xw xi yw yj h0 n0 _ s₁.heap _
        rw [e0]
        exact ⟨congrArg (fun z => some (Value.int z)) (show (1 : Int32) = (own_f17 xw xi yw yj) from by unfold own_f17; simp only [if_neg hc1, if_pos hc2, if_pos hc3]), N0, rfl⟩
      · skip
        refine own_step (fun t k => XS.icmpYes X0.here hx rfl (pc0 := 15) (pc' := 22) rfl (hb hby d17_15) rfl ((flt hc3).2.1) (by decide) (by decide) k) ?_
        show own_G p.tables e below _ (s₁.setTop (mkF m 22 #[.val (.long xw), .second, iv xi, .val (.long yw), .second, iv yj] []))
        refine own_ic X0.here hx rfl (hb hby d17_22) ?_
        obtain ⟨fs, hr, hrun, hended, hW, hsame⟩ := X0.leave (v := some (.int (0 : Int32))) (fun h => by rw [Bd.returns] at h; cases h)
        refine own_done (retN X0 hx (t := .boolean) Bd.returns (by simp) (hb hby d17_23) hr) hrun hended ⟨_, _, rfl, ?_, ⟨_, rfl⟩, hW, hsame.mono (by decide) (by decide)⟩
        show Q17 Z xw xi yw yj h0 n0 _ s₁.heap _
        rw [e0]
        exact ⟨congrArg (fun z => some (Value.int z)) (show (0 : Int32) = (own_f17 xw xi yw yj) from by unfold own_f17; simp only [if_neg hc1, if_pos hc2, if_neg hc3]), N0, rfl⟩
    · skip
      refine own_step (fun t k => XS.ifYes X0.here hx rfl (pc0 := 9) (pc' := 22) rfl (hb hby d17_9) rfl ((if0 _ _).trans (feq (fun q => hc2 ((lw_eq _ _).mp q))).2) (by decide) (by decide) k) ?_
      show own_G p.tables e below _ (s₁.setTop (mkF m 22 #[.val (.long xw), .second, iv xi, .val (.long yw), .second, iv yj] []))
      refine own_ic X0.here hx rfl (hb hby d17_22) ?_
      obtain ⟨fs, hr, hrun, hended, hW, hsame⟩ := X0.leave (v := some (.int (0 : Int32))) (fun h => by rw [Bd.returns] at h; cases h)
      refine own_done (retN X0 hx (t := .boolean) Bd.returns (by simp) (hb hby d17_23) hr) hrun hended ⟨_, _, rfl, ?_, ⟨_, rfl⟩, hW, hsame.mono (by decide) (by decide)⟩
      show Q17 Z xw xi yw yj h0 n0 _ s₁.heap _
      rw [e0]
      exact ⟨congrArg (fun z => some (Value.int z)) (show (0 : Int32) = (own_f17 xw xi yw yj) from by unfold own_f17; simp only [if_neg hc1, if_neg hc2]), N0, rfl⟩
theorem d14_29 : decode prog_20_method_13_code 29 = .ok (.aload_n 0, 1) := by decide +kernel
theorem d14_30 : decode prog_20_method_13_code 30 = .ok (.getfield 15, 3) := by decide +kernel
theorem d14_33 : decode prog_20_method_13_code 33 = .ok (.iload_n 1, 1) := by decide +kernel
theorem d14_34 : decode prog_20_method_13_code 34 = .ok (.laload, 1) := by decide +kernel
theorem d14_35 : decode prog_20_method_13_code 35 = .ok (.aload_n 0, 1) := by decide +kernel
theorem d14_36 : decode prog_20_method_13_code 36 = .ok (.getfield 35, 3) := by decide +kernel
theorem d14_39 : decode prog_20_method_13_code 39 = .ok (.iload_n 1, 1) := by decide +kernel
theorem d14_40 : decode prog_20_method_13_code 40 = .ok (.iaload, 1) := by decide +kernel
theorem d14_41 : decode prog_20_method_13_code 41 = .ok (.aload_n 0, 1) := by decide +kernel
theorem d14_42 : decode prog_20_method_13_code 42 = .ok (.getfield 15, 3) := by decide +kernel
theorem d14_45 : decode prog_20_method_13_code 45 = .ok (.iload_n 2, 1) := by decide +kernel
theorem d14_46 : decode prog_20_method_13_code 46 = .ok (.laload, 1) := by decide +kernel
theorem d14_47 : decode prog_20_method_13_code 47 = .ok (.aload_n 0, 1) := by decide +kernel
theorem d14_48 : decode prog_20_method_13_code 48 = .ok (.getfield 35, 3) := by decide +kernel
theorem d14_51 : decode prog_20_method_13_code 51 = .ok (.iload_n 2, 1) := by decide +kernel
theorem d14_52 : decode prog_20_method_13_code 52 = .ok (.iaload, 1) := by decide +kernel
theorem d14_53 : decode prog_20_method_13_code 53 = .ok (.invokestatic 82, 3) := by decide +kernel
theorem d14_56 : decode prog_20_method_13_code 56 = .ok (.ireturn, 1) := by decide +kernel
theorem pn_14_u : plainName "com/example/leafcode/leafcode/FourWayHeap" = true := by first | (simp [plainName, overriddenIn]; done) | decide +kernel
theorem pd_14_u_0 : parseMethodDescriptor "(JIJI)Z" = some ⟨[.long, .int, .long, .int], some .boolean⟩ := by decide +kernel
theorem ef_14_u (m : MethodId) (a1 : Addr) (pa : Int32) (pb : Int32) : entryFrame m #[(.ref a1), (.int pa), (.int pb)] 3 = mkF m 0 #[rv a1, iv pa, iv pb] [] := by first | (simp [entryFrame, mkF, argsToLocals, Value.category]; done) | rfl
def Q14_u (Z : State) (a1 : Addr) (pa : Int32) (pb : Int32) (ky : Addr) (nd : Addr) (vs : List Int64) (us : List Int32) (h0 : Heap) (n0 : Nat) (v : Option Value) (h : Heap) (L : List Loc) : Prop := v = some (.int (own_f17 (vs.getD pa.toNatClampNeg 0) (us.getD pa.toNatClampNeg 0) (vs.getD pb.toNatClampNeg 0) (us.getD pb.toNatClampNeg 0))) ∧ Fr n0 L ∧ h = h0
set_option maxRecDepth 65536 in
set_option maxHeartbeats 40000000 in
theorem rm14_u (l : Launch) (Z : State) (a0 : Array Value) (hw : ∀ d ∈ tables_1, d.before a0 Z = true) (ws : List Jvm.Cond) (a1 : Addr) (pa : Int32) (pb : Int32) (ky : Addr) (nd : Addr) (vs : List Int64) (us : List Int32) (h0 : Heap) (n0 : Nat) (Z0 : n0 ≤ h0.size) (fp0 : Fld Z h0 a1 own_C "keys" "[J" (.ref ky)) (fp1 : Fld Z h0 a1 own_C "nodes" "[I" (.ref nd)) (fp2 : own_Arj Z h0 ky vs) (fp3 : own_Ari Z h0 nd .int us) (hpa : own_Inb pa vs.length) (hpb : own_Inb pb vs.length) (hna : own_Inb pa us.length) (hnb : own_Inb pb us.length) :
    MetFree l (⟨"com/example/leafcode/leafcode/FourWayHeap", "precedes", "(II)Z"⟩ : MethodName) (head1 (Jvm.Cond.code (⟨"com/example/leafcode/leafcode/FourWayHeap", "precedes", "(II)Z"⟩ : MethodName) prog_20_method_13_code 3 (some .boolean) :: ws) ({ frames := 1, cells := 0, slots := 0, locals := 17 } : Room)) (fun a U => a = #[(.ref a1), (.int pa), (.int pb)] ∧ Z.Warmed39 U.vm ∧ U.heap = h0) (fun _ _ _ _ _ => True) (fun _ U o U' => ∃ v L, o = .returned v ∧ Q14_u Z a1 pa pb ky nd vs us h0 n0 v U'.heap L ∧ FrameEnd U o U' L ({ frames := 1, cells := 0, slots := 0, locals := 17 } : Room).cells ({ frames := 1, cells := 0, slots := 0, locals := 17 } : Room).slots) := by
  refine MetFree.of_bodySF (plainFor_of_name pn_14_u) hisR ?_
  intro p e s m args below meth c s₁ Bd hml0 hP hK
  obtain ⟨rfl, hZ, hh⟩ := hP
  have hx := Bd.exec
  have hby := Bd.bytes
  have hml : c.maxLocals = 3 := hml0
  have hown : s.vm.findClass "com/example/leafcode/leafcode/FourWayHeap" = some m.cls := findClass_of_methodNamed Bd.named
  have hnm := (name_of_methodNamed Bd.named Bd.method).1
  have X0 : Stand p l e ({ frames := 1, cells := 0, slots := 0, locals := 17 } : Room) s m #[(.ref a1), (.int pa), (.int pb)] below meth c s₁ [] 0 0 := Stand.of_body Bd
  have e0 : s₁.heap = h0 := by rw [← hh, Bd.state]; rfl
  have N0 := Fr.nil n0
  refine own_start (fun t k => castTop (ef_14_u m a1 pa pb) k) ?_
  show own_G p.tables e below _ (s₁.setTop (mkF m 0 #[rv a1, iv pa, iv pb] []))
  refine own_al X0.here hx rfl (hb hby d14_0) rfl rfl ?_
  obtain ⟨T1, X1, e1, st1⟩ := getF X0 hx hZ hown (host := "") (Or.inl (own_w hw 45 rfl)) Via.refl e0 fp1 (g := (mkF m 1 #[rv a1, iv pa, iv pb] [(.ref a1)])) rfl rfl (hb hby d14_1)
  refine own_step st1 ?_
  refine own_step (fun t k => XS.ifnonnullYes X1.here hx rfl (pc0 := 4) (pc' := 29) rfl (hb hby d14_4) rfl (by decide) (by decide) k) ?_
  refine own_al X1.here hx rfl (hb hby d14_29) rfl rfl ?_
  obtain ⟨T2, X2, e2, st2⟩ := getF X1 hx hZ hown (host := "") (Or.inl (own_w hw 21 rfl)) Via.refl e1 fp0 (g := (mkF m 30 #[rv a1, iv pa, iv pb] [(.ref a1)])) rfl rfl (hb hby d14_30)
  refine own_step st2 ?_
  refine own_il X2.here hx rfl (hb hby d14_33) rfl ?_
  refine own_step (own_laload X2 hx hZ e2 fp2 hpa (g := (mkF m 34 #[rv a1, iv pa, iv pb] [(.int pa), (.ref ky)])) rfl rfl (hb hby d14_34)) ?_
  show own_G p.tables e below _ (T2.setTop (mkF m 35 #[rv a1, iv pa, iv pb] [(.long (vs.getD pa.toNatClampNeg 0))]))
  refine own_al X2.here hx rfl (hb hby d14_35) rfl rfl ?_
  obtain ⟨T3, X3, e3, st3⟩ := getF X2 hx hZ hown (host := "") (Or.inl (own_w hw 45 rfl)) Via.refl e2 fp1 (g := (mkF m 36 #[rv a1, iv pa, iv pb] [(.ref a1), (.long (vs.getD pa.toNatClampNeg 0))])) rfl rfl (hb hby d14_36)
  refine own_step st3 ?_
  refine own_il X3.here hx rfl (hb hby d14_39) rfl ?_
  refine own_step (own_iaload X3 hx hZ e3 fp3 hna (g := (mkF m 40 #[rv a1, iv pa, iv pb] [(.int pa), (.ref nd), (.long (vs.getD pa.toNatClampNeg 0))])) rfl rfl (hb hby d14_40)) ?_
  refine own_al X3.here hx rfl (hb hby d14_41) rfl rfl ?_
  obtain ⟨T4, X4, e4, st4⟩ := getF X3 hx hZ hown (host := "") (Or.inl (own_w hw 21 rfl)) Via.refl e3 fp0 (g := (mkF m 42 #[rv a1, iv pa, iv pb] [(.ref a1), (.int (us.getD pa.toNatClampNeg 0)), (.long (vs.getD pa.toNatClampNeg 0))])) rfl rfl (hb hby d14_42)
  refine own_step st4 ?_
  refine own_il X4.here hx rfl (hb hby d14_45) rfl ?_
  clear X1 X2 X3 e1 e2 e3 st1 st2 st3 st4
  show own_G p.tables e below _ (T4.setTop (mkF m 46 #[rv a1, iv pa, iv pb] [(.int pb), (.ref ky), (.int (us.getD pa.toNatClampNeg 0)), (.long (vs.getD pa.toNatClampNeg 0))]))
  refine own_step (own_laload X4 hx hZ e4 fp2 hpb (g := (mkF m 46 #[rv a1, iv pa, iv pb] [(.int pb), (.ref ky), (.int (us.getD pa.toNatClampNeg 0)), (.long (vs.getD pa.toNatClampNeg 0))])) rfl rfl (hb hby d14_46)) ?_
  refine own_al X4.here hx rfl (hb hby d14_47) rfl rfl ?_
  obtain ⟨T5, X5, e5, st5⟩ := getF X4 hx hZ hown (host := "") (Or.inl (own_w hw 45 rfl)) Via.refl e4 fp1 (g := (mkF m 48 #[rv a1, iv pa, iv pb] [(.ref a1), (.long (vs.getD pb.toNatClampNeg 0)), (.int (us.getD pa.toNatClampNeg 0)), (.long (vs.getD pa.toNatClampNeg 0))])) rfl rfl (hb hby d14_48)
  refine own_step st5 ?_
  refine own_il X5.here hx rfl (hb hby d14_51) rfl ?_
  refine own_step (own_iaload X5 hx hZ e5 fp3 hnb (g := (mkF m 52 #[rv a1, iv pa, iv pb] [(.int pb), (.ref nd), (.long (vs.getD pb.toNatClampNeg 0)), (.int (us.getD pa.toNatClampNeg 0)), (.long (vs.getD pa.toNatClampNeg 0))])) rfl rfl (hb hby d14_52)) ?_
  obtain ⟨_, _, ⟨T6, L6, k6, n6⟩, -, X6, ⟨Lc6, hQ6, l6, y6, z6⟩, st6⟩ := Jvm.LawKit.callS X5 hx (y := own_y17) hown (mvT hZ (own_w hw 76 rfl)) (mvT hZ (own_w hw 77 rfl)) (mvT hZ (own_w hw 78 rfl)) (mvT hZ (own_w hw 79 rfl)) (by decide) (backOf (W := 0) (rm17 l Z a0 hw [] (vs.getD pa.toNatClampNeg 0) (us.getD pa.toNatClampNeg 0) (vs.getD pb.toNatClampNeg 0) (us.getD pb.toNatClampNeg 0) h0 n0 (Nat.le_trans Z0 (Keep.refl h0 []).1) ) hZ (own_w hw 79 rfl) (own_w hw 78 rfl) (by decide) (by decide)) (g := (mkF m 53 #[rv a1, iv pa, iv pb] [(.int (us.getD pb.toNatClampNeg 0)), (.long (vs.getD pb.toNatClampNeg 0)), (.int (us.getD pa.toNatClampNeg 0)), (.long (vs.getD pa.toNatClampNeg 0))])) rfl (by rw [hml]; rfl) (argsL := [(.long (vs.getD pa.toNatClampNeg 0)), (.int (us.getD pa.toNatClampNeg 0)), (.long (vs.getD pb.toNatClampNeg 0)), (.int (us.getD pb.toNatClampNeg 0))]) (rest := []) (lenOf pd_14_u_0 rfl) rfl (own_wl rfl) (hb hby d14_53) (fun _ _ => ⟨rfl, e5, (by decide : 0 + 0 ≤ _), (by decide : 0 + 0 ≤ _)⟩)
  dsimp only [Pt.U, Pt.locs, Pt.cells, Pt.slots] at X6 l6 y6 z6 st6 hQ6
  subst y6 z6
  obtain ⟨rfl, N6q, e6⟩ := hQ6
  have N6 : Fr n0 L6 := by rw [l6]; exact Fr.app N0 N6q
  refine own_step st6 ?_
  obtain ⟨fs, hr, hrun, hended, hW, hsame⟩ := X6.leave (v := some (.int (nar .boolean (own_f17 (vs.getD pa.toNatClampNeg 0) (us.getD pa.toNatClampNeg 0) (vs.getD pb.toNatClampNeg 0) (us.getD pb.toNatClampNeg 0))))) (fun h => by rw [Bd.returns] at h; cases h)
  refine own_done (retN X6 hx (t := .boolean) Bd.returns (by simp) (hb hby d14_56) hr) hrun hended ⟨_, _, rfl, ?_, ⟨_, rfl⟩, hW, hsame.mono (by decide) (by decide)⟩
  show Q14_u Z a1 pa pb ky nd vs us h0 n0 _ T6.heap _
  rw [e6]
  exact ⟨congrArg (fun z => some (Value.int z)) (show (nar .boolean (own_f17 (vs.getD pa.toNatClampNeg 0) (us.getD pa.toNatClampNeg 0) (vs.getD pb.toNatClampNeg 0) (us.getD pb.toNatClampNeg 0))) = (own_f17 (vs.getD pa.toNatClampNeg 0) (us.getD pa.toNatClampNeg 0) (vs.getD pb.toNatClampNeg 0) (us.getD pb.toNatClampNeg 0)) from own_nz17 _ _ _ _), N6, rfl⟩
theorem d13_131 : decode prog_20_method_12_code 131 = .ok (.iload_n 1, 1) := by decide +kernel
theorem d13_132 : decode prog_20_method_12_code 132 = .ok (.istore_n 2, 1) := by decide +kernel
theorem d13_133 : decode prog_20_method_12_code 133 = .ok (.iload_n 1, 1) := by decide +kernel
theorem d13_134 : decode prog_20_method_12_code 134 = .ok (.iconst 4, 1) := by decide +kernel
theorem d13_135 : decode prog_20_method_12_code 135 = .ok (.iadd, 1) := by decide +kernel
theorem d13_136 : decode prog_20_method_12_code 136 = .ok (.aload_n 0, 1) := by decide +kernel
theorem d13_137 : decode prog_20_method_12_code 137 = .ok (.getfield 11, 3) := by decide +kernel
theorem d13_140 : decode prog_20_method_12_code 140 = .ok (.invokestatic 76, 3) := by decide +kernel
theorem d13_143 : decode prog_20_method_12_code 143 = .ok (.istore_n 3, 1) := by decide +kernel
theorem d13_144 : decode prog_20_method_12_code 144 = .ok (.iload_n 1, 1) := by decide +kernel
theorem d13_145 : decode prog_20_method_12_code 145 = .ok (.iconst 1, 1) := by decide +kernel
theorem d13_146 : decode prog_20_method_12_code 146 = .ok (.iadd, 1) := by decide +kernel
theorem d13_147 : decode prog_20_method_12_code 147 = .ok (.istore 4, 2) := by decide +kernel
theorem d13_149 : decode prog_20_method_12_code 149 = .ok (.iload 4, 2) := by decide +kernel
theorem d13_151 : decode prog_20_method_12_code 151 = .ok (.iload_n 3, 1) := by decide +kernel
theorem d13_152 : decode prog_20_method_12_code 152 = .ok (.if_icmp .ge 22, 3) := by decide +kernel
theorem d13_155 : decode prog_20_method_12_code 155 = .ok (.aload_n 0, 1) := by decide +kernel
theorem d13_156 : decode prog_20_method_12_code 156 = .ok (.iload 4, 2) := by decide +kernel
theorem d13_158 : decode prog_20_method_12_code 158 = .ok (.iload_n 2, 1) := by decide +kernel
theorem d13_159 : decode prog_20_method_12_code 159 = .ok (.invokevirtual 72, 3) := by decide +kernel
theorem d13_162 : decode prog_20_method_12_code 162 = .ok (.ifCond .eq 6, 3) := by decide +kernel
theorem d13_165 : decode prog_20_method_12_code 165 = .ok (.iload 4, 2) := by decide +kernel
theorem d13_167 : decode prog_20_method_12_code 167 = .ok (.istore_n 2, 1) := by decide +kernel
theorem d13_168 : decode prog_20_method_12_code 168 = .ok (.iinc 4 1, 3) := by decide +kernel
theorem d13_171 : decode prog_20_method_12_code 171 = .ok (.goto (-22), 3) := by decide +kernel
theorem d13_174 : decode prog_20_method_12_code 174 = .ok (.iload_n 2, 1) := by decide +kernel
theorem d13_175 : decode prog_20_method_12_code 175 = .ok (.ireturn, 1) := by decide +kernel
theorem pn_13_u : plainName "com/example/leafcode/leafcode/FourWayHeap" = true := by first | (simp [plainName, overriddenIn]; done) | decide +kernel
theorem pd_13_u_0 : parseMethodDescriptor "(II)I" = some ⟨[.int, .int], some .int⟩ := by decide +kernel
theorem pd_13_u_1 : parseMethodDescriptor "(II)Z" = some ⟨[.int, .int], some .boolean⟩ := by decide +kernel
theorem ef_13_u (m : MethodId) (a1 : Addr) : entryFrame m #[(.ref a1), (.int (4 : Int32))] 25 = mkF m 0 #[rv a1, iv (4 : Int32), .unset, .unset, .unset, .unset, .unset, .unset, .unset, .unset, .unset, .unset, .unset, .unset, .unset, .unset, .unset, .unset, .unset, .unset, .unset, .unset, .unset, .unset, .unset] [] := by first | (simp [entryFrame, mkF, argsToLocals, Value.category]; done) | rfl
def own_f13_u (en : Int32) (vs : List Int64) (us : List Int32) : Int32 :=
  (if (5 : Int32) < (own_f16 (8 : Int32) en) then (if (own_f17 (vs.getD 5 0) (us.getD 5 0) (vs.getD 4 0) (us.getD 4 0)) = (0 : Int32) then (if (6 : Int32) < (own_f16 (8 : Int32) en) then (if (own_f17 (vs.getD 6 0) (us.getD 6 0) (vs.getD 4 0) (us.getD 4 0)) = (0 : Int32) then (if (7 : Int32) < (own_f16 (8 : Int32) en) then (if (own_f17 (vs.getD 7 0) (us.getD 7 0) (vs.getD 4 0) (us.getD 4 0)) = (0 : Int32) then (4 : Int32) else (7 : Int32)) else (4 : Int32)) else (if (7 : Int32) < (own_f16 (8 : Int32) en) then (if (own_f17 (vs.getD 7 0) (us.getD 7 0) (vs.getD 6 0) (us.getD 6 0)) = (0 : Int32) then (6 : Int32) else (7 : Int32)) else (6 : Int32))) else (4 : Int32)) else (if (6 : Int32) < (own_f16 (8 : Int32) en) then (if (own_f17 (vs.getD 6 0) (us.getD 6 0) (vs.getD 5 0) (us.getD 5 0)) = (0 : Int32) then (if (7 : Int32) < (own_f16 (8 : Int32) en) then (if (own_f17 (vs.getD 7 0) (us.getD 7 0) (vs.getD 5 0) (us.getD 5 0)) = (0 : Int32) then (5 : Int32) else (7 : Int32)) else (5 : Int32)) else (if (7 : Int32) < (own_f16 (8 : Int32) en) then (if (own_f17 (vs.getD 7 0) (us.getD 7 0) (vs.getD 6 0) (us.getD 6 0)) = (0 : Int32) then (6 : Int32) else (7 : Int32)) else (6 : Int32))) else (5 : Int32))) else (4 : Int32))
theorem own_l16_5 : own_f16 (8 : Int32) (5 : Int32) = (5 : Int32) := by decide
theorem own_dt55 : ((5 : Int32) < (5 : Int32)) = False := by exact eq_false (by decide)
theorem own_dt65 : ((6 : Int32) < (5 : Int32)) = False := by exact eq_false (by decide)
theorem own_dt75 : ((7 : Int32) < (5 : Int32)) = False := by exact eq_false (by decide)
theorem own_l16_6 : own_f16 (8 : Int32) (6 : Int32) = (6 : Int32) := by decide
theorem own_dt56 : ((5 : Int32) < (6 : Int32)) = True := by exact eq_true (by decide)
theorem own_dt66 : ((6 : Int32) < (6 : Int32)) = False := by exact eq_false (by decide)
theorem own_dt76 : ((7 : Int32) < (6 : Int32)) = False := by exact eq_false (by decide)
theorem own_l16_7 : own_f16 (8 : Int32) (7 : Int32) = (7 : Int32) := by decide
theorem own_dt57 : ((5 : Int32) < (7 : Int32)) = True := by exact eq_true (by decide)
theorem own_dt67 : ((6 : Int32) < (7 : Int32)) = True := by exact eq_true (by decide)
theorem own_dt77 : ((7 : Int32) < (7 : Int32)) = False := by exact eq_false (by decide)
theorem own_l16_8 : own_f16 (8 : Int32) (8 : Int32) = (8 : Int32) := by decide
theorem own_dt58 : ((5 : Int32) < (8 : Int32)) = True := by exact eq_true (by decide)
theorem own_dt68 : ((6 : Int32) < (8 : Int32)) = True := by exact eq_true (by decide)
theorem own_dt78 : ((7 : Int32) < (8 : Int32)) = True := by exact eq_true (by decide)
theorem own_lcu5 (vs : List Int64) (us : List Int32) : (own_sel (own_f13_u (5 : Int32) vs us) (vs.getD 4 0) (vs.getD 5 0) (vs.getD 6 0) (vs.getD 7 0)).toInt = (vs.getD 4 0).toInt := by
  unfold own_f13_u
  simp only [own_l16_5, own_dt55, own_dt65, own_dt75]
  simp only [if_false]
  rw [own_sel4]
theorem own_lcu6 (vs : List Int64) (us : List Int32) : (own_sel (own_f13_u (6 : Int32) vs us) (vs.getD 4 0) (vs.getD 5 0) (vs.getD 6 0) (vs.getD 7 0)).toInt = (min (vs.getD 4 0).toInt (vs.getD 5 0).toInt) := by
  unfold own_f13_u
  simp only [own_l16_6, own_dt56, own_dt66, own_dt76]
  simp only [if_true, if_false]
  have q54 := own_17c (vs.getD 5 0) (us.getD 5 0) (vs.getD 4 0) (us.getD 4 0)
  rcases q54 with ⟨e54, r54⟩ | ⟨e54, r54⟩
  · rw [if_pos e54]
    (rw [own_sel4]; omega)
  · rw [if_neg e54]
    (rw [own_sel5]; omega)
theorem own_lcu7 (vs : List Int64) (us : List Int32) : (own_sel (own_f13_u (7 : Int32) vs us) (vs.getD 4 0) (vs.getD 5 0) (vs.getD 6 0) (vs.getD 7 0)).toInt = (min (min (vs.getD 4 0).toInt (vs.getD 5 0).toInt) (vs.getD 6 0).toInt) := by
  unfold own_f13_u
  simp only [own_l16_7, own_dt57, own_dt67, own_dt77]
  simp only [if_true, if_false]
  have q54 := own_17c (vs.getD 5 0) (us.getD 5 0) (vs.getD 4 0) (us.getD 4 0)
  have q64 := own_17c (vs.getD 6 0) (us.getD 6 0) (vs.getD 4 0) (us.getD 4 0)
  have q65 := own_17c (vs.getD 6 0) (us.getD 6 0) (vs.getD 5 0) (us.getD 5 0)
  rcases q54 with ⟨e54, r54⟩ | ⟨e54, r54⟩
  · rw [if_pos e54]
    rcases q64 with ⟨e64, r64⟩ | ⟨e64, r64⟩
    · rw [if_pos e64]
      (rw [own_sel4]; omega)
    · rw [if_neg e64]
      (rw [own_sel6]; omega)
  · rw [if_neg e54]
    rcases q65 with ⟨e65, r65⟩ | ⟨e65, r65⟩
    · rw [if_pos e65]
      (rw [own_sel5]; omega)
    · rw [if_neg e65]
      (rw [own_sel6]; omega)
theorem own_lcu8 (vs : List Int64) (us : List Int32) : (own_sel (own_f13_u (8 : Int32) vs us) (vs.getD 4 0) (vs.getD 5 0) (vs.getD 6 0) (vs.getD 7 0)).toInt = (min (min (min (vs.getD 4 0).toInt (vs.getD 5 0).toInt) (vs.getD 6 0).toInt) (vs.getD 7 0).toInt) := by
  unfold own_f13_u
  simp only [own_l16_8, own_dt58, own_dt68, own_dt78]
  simp only [if_true, if_false]
  have q54 := own_17c (vs.getD 5 0) (us.getD 5 0) (vs.getD 4 0) (us.getD 4 0)
  have q64 := own_17c (vs.getD 6 0) (us.getD 6 0) (vs.getD 4 0) (us.getD 4 0)
  have q65 := own_17c (vs.getD 6 0) (us.getD 6 0) (vs.getD 5 0) (us.getD 5 0)
  have q74 := own_17c (vs.getD 7 0) (us.getD 7 0) (vs.getD 4 0) (us.getD 4 0)
  have q75 := own_17c (vs.getD 7 0) (us.getD 7 0) (vs.getD 5 0) (us.getD 5 0)
  have q76 := own_17c (vs.getD 7 0) (us.getD 7 0) (vs.getD 6 0) (us.getD 6 0)
  rcases q54 with ⟨e54, r54⟩ | ⟨e54, r54⟩
  · rw [if_pos e54]
    rcases q64 with ⟨e64, r64⟩ | ⟨e64, r64⟩
    · rw [if_pos e64]
      rcases q74 with ⟨e74, r74⟩ | ⟨e74, r74⟩
      · rw [if_pos e74]
        (rw [own_sel4]; omega)
      · rw [if_neg e74]
        (rw [own_sel7]; omega)
    · rw [if_neg e64]
      rcases q76 with ⟨e76, r76⟩ | ⟨e76, r76⟩
      · rw [if_pos e76]
        (rw [own_sel6]; omega)
      · rw [if_neg e76]
        (rw [own_sel7]; omega)
  · rw [if_neg e54]
    rcases q65 with ⟨e65, r65⟩ | ⟨e65, r65⟩
    · rw [if_pos e65]
      rcases q75 with ⟨e75, r75⟩ | ⟨e75, r75⟩
      · rw [if_pos e75]
        (rw [own_sel5]; omega)
      · rw [if_neg e75]
        (rw [own_sel7]; omega)
    · rw [if_neg e65]
      rcases q76 with ⟨e76, r76⟩ | ⟨e76, r76⟩
      · rw [if_pos e76]
        (rw [own_sel6]; omega)
      · rw [if_neg e76]
        (rw [own_sel7]; omega)
theorem own_lcu4 {x en : Int32} {vs : List Int64} {us : List Int32} (h : x = own_f13_u en vs us) : own_ch x := by
  subst h
  unfold own_f13_u own_ch
  repeat' split
  all_goals decide

def Q13_u (Z : State) (a1 : Addr) (ky : Addr) (nd : Addr) (en : Int32) (vs : List Int64) (us : List Int32) (h0 : Heap) (n0 : Nat) (v : Option Value) (h : Heap) (L : List Loc) : Prop := v = some (.int (own_f13_u en vs us)) ∧ Fr n0 L ∧ h = h0
set_option maxRecDepth 65536 in
set_option maxHeartbeats 40000000 in
theorem rm13_u (l : Launch) (Z : State) (a0 : Array Value) (hw : ∀ d ∈ tables_1, d.before a0 Z = true) (ws : List Jvm.Cond) (a1 : Addr) (ky : Addr) (nd : Addr) (en : Int32) (vs : List Int64) (us : List Int32) (h0 : Heap) (n0 : Nat) (Z0 : n0 ≤ h0.size) (fp0 : Exa Z h0 a1 own_C) (fp1 : Fld Z h0 a1 own_C "keys" "[J" (.ref ky)) (fp2 : Fld Z h0 a1 own_C "end" "I" (.int en)) (fp3 : Fld Z h0 a1 own_C "nodes" "[I" (.ref nd)) (fp4 : own_Arj Z h0 ky vs) (fp5 : own_Ari Z h0 nd .int us) (hen4 : (4 : Int32) < en) (hen8 : ¬ (8 : Int32) < en) (hlen : 8 ≤ vs.length) (hleu : 8 ≤ us.length) :
    MetFree l (⟨"com/example/leafcode/leafcode/FourWayHeap", "leastChild", "(I)I"⟩ : MethodName) (head1 (Jvm.Cond.code (⟨"com/example/leafcode/leafcode/FourWayHeap", "leastChild", "(I)I"⟩ : MethodName) prog_20_method_12_code 25 (some .int) :: ws) ({ frames := 2, cells := 0, slots := 0, locals := 31 } : Room)) (fun a U => a = #[(.ref a1), (.int (4 : Int32))] ∧ Z.Warmed39 U.vm ∧ U.heap = h0) (fun _ _ _ _ _ => True) (fun _ U o U' => ∃ v L, o = .returned v ∧ Q13_u Z a1 ky nd en vs us h0 n0 v U'.heap L ∧ FrameEnd U o U' L ({ frames := 2, cells := 0, slots := 0, locals := 31 } : Room).cells ({ frames := 2, cells := 0, slots := 0, locals := 31 } : Room).slots) := by
  refine MetFree.of_bodySF (plainFor_of_name pn_13_u) hisR ?_
  intro p e s m args below meth c s₁ Bd hml0 hP hK
  obtain ⟨rfl, hZ, hh⟩ := hP
  have hx := Bd.exec
  have hby := Bd.bytes
  have hml : c.maxLocals = 25 := hml0
  have hown : s.vm.findClass "com/example/leafcode/leafcode/FourWayHeap" = some m.cls := findClass_of_methodNamed Bd.named
  have hnm := (name_of_methodNamed Bd.named Bd.method).1
  have X0 : Stand p l e ({ frames := 2, cells := 0, slots := 0, locals := 31 } : Room) s m #[(.ref a1), (.int (4 : Int32))] below meth c s₁ [] 0 0 := Stand.of_body Bd
  have e0 : s₁.heap = h0 := by rw [← hh, Bd.state]; rfl
  have N0 := Fr.nil n0
  refine own_start (fun t k => castTop (ef_13_u m a1) k) ?_
  show own_G p.tables e below _ (s₁.setTop (mkF m 0 #[rv a1, iv 4, .unset, .unset, .unset, .unset, .unset, .unset, .unset, .unset, .unset, .unset, .unset, .unset, .unset, .unset, .unset, .unset, .unset, .unset, .unset, .unset, .unset, .unset, .unset] []))
  refine own_al X0.here hx rfl (hb hby d13_0) rfl rfl ?_
  obtain ⟨T1, X1, e1, st1⟩ := getF X0 hx hZ hown (host := "") (Or.inl (own_w hw 45 rfl)) Via.refl e0 fp3 (g := (mkF m 1 #[rv a1, iv 4, .unset, .unset, .unset, .unset, .unset, .unset, .unset, .unset, .unset, .unset, .unset, .unset, .unset, .unset, .unset, .unset, .unset, .unset, .unset, .unset, .unset, .unset, .unset] [(.ref a1)])) rfl rfl (hb hby d13_1)
  refine own_step st1 ?_
  refine own_step (fun t k => XS.ifnonnullYes X1.here hx rfl (pc0 := 4) (pc' := 131) rfl (hb hby d13_4) rfl (by decide) (by decide) k) ?_
  refine own_il X1.here hx rfl (hb hby d13_131) rfl ?_
  refine own_step (fun t k => XS.istoreN X1.here hx rfl (hb hby d13_132) rfl (l' := #[rv a1, iv 4, iv 4, .unset, .unset, .unset, .unset, .unset, .unset, .unset, .unset, .unset, .unset, .unset, .unset, .unset, .unset, .unset, .unset, .unset, .unset, .unset, .unset, .unset, .unset]) rfl k) ?_
  refine own_il X1.here hx rfl (hb hby d13_133) rfl ?_
  refine own_ic X1.here hx rfl (hb hby d13_134) ?_
  show own_G p.tables e below _ (T1.setTop (mkF m 135 #[rv a1, iv 4, iv 4, .unset, .unset, .unset, .unset, .unset, .unset, .unset, .unset, .unset, .unset, .unset, .unset, .unset, .unset, .unset, .unset, .unset, .unset, .unset, .unset, .unset, .unset] [(.int 4), (.int 4)]))
  refine own_step (fun t k => XS.iadd X1.here hx rfl (hb hby d13_135) rfl k) ?_
  refine own_al X1.here hx rfl (hb hby d13_136) rfl rfl ?_
  obtain ⟨T2, X2, e2, st2⟩ := getF X1 hx hZ hown (host := "") (Or.inl (own_w hw 19 rfl)) Via.refl e1 fp2 (g := (mkF m 137 #[rv a1, iv 4, iv 4, .unset, .unset, .unset, .unset, .unset, .unset, .unset, .unset, .unset, .unset, .unset, .unset, .unset, .unset, .unset, .unset, .unset, .unset, .unset, .unset, .unset, .unset] [(.ref a1), (.int 8)])) rfl rfl (hb hby d13_137)
  refine own_step st2 ?_
  obtain ⟨_, _, ⟨T3, L3, k3, n3⟩, -, X3, ⟨Lc3, hQ3, l3, y3, z3⟩, st3⟩ := Jvm.LawKit.callS X2 hx (y := own_y16) hown (mvT hZ (own_w hw 73 rfl)) (mvT hZ (own_w hw 74 rfl)) (mvT hZ (own_w hw 8 rfl)) (mvT hZ (own_w hw 75 rfl)) (by decide) (backOf (W := 0) (rm16 l Z a0 hw [] (8 : Int32) en h0 n0 (Nat.le_trans Z0 (Keep.refl h0 []).1) ) hZ (own_w hw 75 rfl) (own_w hw 8 rfl) (by decide) (by decide)) (g := (mkF m 140 #[rv a1, iv 4, iv 4, .unset, .unset, .unset, .unset, .unset, .unset, .unset, .unset, .unset, .unset, .unset, .unset, .unset, .unset, .unset, .unset, .unset, .unset, .unset, .unset, .unset, .unset] [(.int en), (.int 8)])) rfl (by rw [hml]; rfl) (argsL := [(.int 8), (.int en)]) (rest := []) (lenOf pd_13_u_0 rfl) rfl (own_wl rfl) (hb hby d13_140) (fun _ _ => ⟨rfl, e2, (by decide : 0 + 0 ≤ _), (by decide : 0 + 0 ≤ _)⟩)
  dsimp only [Pt.U, Pt.locs, Pt.cells, Pt.slots] at X3 l3 y3 z3 st3 hQ3
  subst y3 z3
  obtain ⟨rfl, N3q, e3⟩ := hQ3
  have N3 : Fr n0 L3 := by rw [l3]; exact Fr.app N0 N3q
  refine own_step st3 ?_
  refine own_nm ((own_f16 (8 : Int32) en) : Int32) (fun lst => T3.setTop (mkF m 143 #[rv a1, iv 4, iv 4, .unset, .unset, .unset, .unset, .unset, .unset, .unset, .unset, .unset, .unset, .unset, .unset, .unset, .unset, .unset, .unset, .unset, .unset, .unset, .unset, .unset, .unset] [(.int lst)])) ?_
  intro lst hd_lst
  show own_G p.tables e below _ (T3.setTop (mkF m 143 #[rv a1, iv 4, iv 4, .unset, .unset, .unset, .unset, .unset, .unset, .unset, .unset, .unset, .unset, .unset, .unset, .unset, .unset, .unset, .unset, .unset, .unset, .unset, .unset, .unset, .unset] [(.int lst)]))
  refine own_step (fun t k => XS.istoreN X3.here hx rfl (hb hby d13_143) rfl (l' := #[rv a1, iv 4, iv 4, iv lst, .unset, .unset, .unset, .unset, .unset, .unset, .unset, .unset, .unset, .unset, .unset, .unset, .unset, .unset, .unset, .unset, .unset, .unset, .unset, .unset, .unset]) rfl k) ?_
  refine own_il X3.here hx rfl (hb hby d13_144) rfl ?_
  refine own_ic X3.here hx rfl (hb hby d13_145) ?_
  refine own_step (fun t k => XS.iadd X3.here hx rfl (hb hby d13_146) rfl k) ?_
  refine own_step (fun t k => XS.istore X3.here hx rfl (hb hby d13_147) rfl (l' := #[rv a1, iv 4, iv 4, iv lst, iv 5, .unset, .unset, .unset, .unset, .unset, .unset, .unset, .unset, .unset, .unset, .unset, .unset, .unset, .unset, .unset, .unset, .unset, .unset, .unset, .unset]) rfl k) ?_
  refine own_ix X3.here hx rfl (hb hby d13_149) rfl ?_
  refine own_il X3.here hx rfl (hb hby d13_151) rfl ?_
  show own_G p.tables e below _ (T3.setTop (mkF m 152 #[rv a1, iv 4, iv 4, iv lst, iv 5, .unset, .unset, .unset, .unset, .unset, .unset, .unset, .unset, .unset, .unset, .unset, .unset, .unset, .unset, .unset, .unset, .unset, .unset, .unset, .unset] [(.int lst), (.int 5)]))
  by_cases hc5 : (5 : Int32) < lst
  · skip
    refine own_step (fun t k => XS.icmpNo X3.here hx rfl (hb hby d13_152) rfl ((tlt hc5).2.1) k) ?_
    show own_G p.tables e below _ (T3.setTop (mkF m 155 #[rv a1, iv 4, iv 4, iv lst, iv 5, .unset, .unset, .unset, .unset, .unset, .unset, .unset, .unset, .unset, .unset, .unset, .unset, .unset, .unset, .unset, .unset, .unset, .unset, .unset, .unset] []))
    refine own_al X3.here hx rfl (hb hby d13_155) rfl rfl ?_
    refine own_ix X3.here hx rfl (hb hby d13_156) rfl ?_
    refine own_il X3.here hx rfl (hb hby d13_158) rfl ?_
    obtain ⟨cq6, q6, q6'⟩ := fp0.cell
    obtain ⟨_, _, ⟨T6, L6, k6, n6⟩, -, X6, ⟨Lc6, hQ6, l6, y6, z6⟩, st6⟩ := X3.privateBack hx (y := own_y14) hown (mvT hZ (own_w hw 58 rfl)) (mvT hZ (own_w hw 59 rfl)) (mvT hZ (own_sp14 hw)) (Cond.privateMethod_at (mvP hZ (own_w hw 60 rfl) (args := #[]))) (mvT hZ (own_w hw 61 rfl)) (by decide) (backOf (W := 0) (rm14_u l Z a0 hw [] a1 (5 : Int32) (4 : Int32) ky nd vs us h0 n0 (Nat.le_trans Z0 (Keep.refl h0 []).1) fp1 fp3 fp4 fp5 ((by first | exact (own_ib hlen (by decide) (by decide)) | exact own_ibs (own_ib hlen (by decide) (by decide)) | exact own_ibs (own_ibs (own_ib hlen (by decide) (by decide)))) : own_Inb (5 : Int32) vs.length) ((by first | exact (own_ib hlen (by decide) (by decide)) | exact own_ibs (own_ib hlen (by decide) (by decide)) | exact own_ibs (own_ibs (own_ib hlen (by decide) (by decide)))) : own_Inb (4 : Int32) vs.length) ((by first | exact (own_ib hleu (by decide) (by decide)) | exact own_ibs (own_ib hleu (by decide) (by decide)) | exact own_ibs (own_ibs (own_ib hleu (by decide) (by decide)))) : own_Inb (5 : Int32) us.length) ((by first | exact (own_ib hleu (by decide) (by decide)) | exact own_ibs (own_ib hleu (by decide) (by decide)) | exact own_ibs (own_ibs (own_ib hleu (by decide) (by decide)))) : own_Inb (4 : Int32) us.length)) hZ (own_w hw 61 rfl) (own_w hw 12 rfl) (by decide) (by decide)) (g := (mkF m 159 #[rv a1, iv 4, iv 4, iv lst, iv 5, .unset, .unset, .unset, .unset, .unset, .unset, .unset, .unset, .unset, .unset, .unset, .unset, .unset, .unset, .unset, .unset, .unset, .unset, .unset, .unset] [(.int 4), (.int 5), (.ref a1)])) rfl (by rw [hml]; rfl) (Steps.refl _) (a := a1) (by rw [e3]; exact q6) q6' (argsL := [(.int 5), (.int 4)]) (rest := []) (lenOf pd_13_u_1 rfl) rfl (own_wl rfl) (hb hby d13_159) (fun _ _ => ⟨rfl, e3, (by decide : 0 + 0 ≤ _), (by decide : 0 + 0 ≤ _)⟩)
    dsimp only [Pt.U, Pt.locs, Pt.cells, Pt.slots] at X6 l6 y6 z6 st6 hQ6
    subst y6 z6
    obtain ⟨rfl, N6q, e6⟩ := hQ6
    have N6 : Fr n0 L6 := by rw [l6]; exact Fr.app N3 N6q
    refine own_step (fun t k => st6.trans k) ?_
    by_cases hc7 : (own_f17 (vs.getD 5 0) (us.getD 5 0) (vs.getD 4 0) (us.getD 4 0)) = (0 : Int32)
    · skip
      refine own_step (fun t k => XS.ifYes X6.here hx rfl (pc0 := 162) (pc' := 168) rfl (hb hby d13_162) rfl ((if0 _ _).trans (teq hc7).1) (by decide) (by decide) k) ?_
      clear N3 N3q N6q X1 X2 X3 e1 e2 e3 q6 q6' st1 st2 st3 st6
      show own_G p.tables e below _ (T6.setTop (mkF m 168 #[rv a1, iv 4, iv 4, iv lst, iv 5, .unset, .unset, .unset, .unset, .unset, .unset, .unset, .unset, .unset, .unset, .unset, .unset, .unset, .unset, .unset, .unset, .unset, .unset, .unset, .unset] []))
      refine own_step (fun t k => XS.iinc X6.here hx rfl (hb hby d13_168) rfl (l' := #[rv a1, iv 4, iv 4, iv lst, iv 6, .unset, .unset, .unset, .unset, .unset, .unset, .unset, .unset, .unset, .unset, .unset, .unset, .unset, .unset, .unset, .unset, .unset, .unset, .unset, .unset]) rfl k) ?_
      refine own_go X6.here hx rfl (pc0 := 171) (pc' := 149) rfl (hb hby d13_171) (by decide) (by decide) ?_
      refine own_ix X6.here hx rfl (hb hby d13_149) rfl ?_
      refine own_il X6.here hx rfl (hb hby d13_151) rfl ?_
      by_cases hc8 : (6 : Int32) < lst
      · skip
        refine own_step (fun t k => XS.icmpNo X6.here hx rfl (hb hby d13_152) rfl ((tlt hc8).2.1) k) ?_
        show own_G p.tables e below _ (T6.setTop (mkF m 155 #[rv a1, iv 4, iv 4, iv lst, iv 6, .unset, .unset, .unset, .unset, .unset, .unset, .unset, .unset, .unset, .unset, .unset, .unset, .unset, .unset, .unset, .unset, .unset, .unset, .unset, .unset] []))
        refine own_al X6.here hx rfl (hb hby d13_155) rfl rfl ?_
        refine own_ix X6.here hx rfl (hb hby d13_156) rfl ?_
        refine own_il X6.here hx rfl (hb hby d13_158) rfl ?_
        obtain ⟨cq9, q9, q9'⟩ := fp0.cell
        obtain ⟨_, _, ⟨T9, L9, k9, n9⟩, -, X9, ⟨Lc9, hQ9, l9, y9, z9⟩, st9⟩ := X6.privateBack hx (y := own_y14) hown (mvT hZ (own_w hw 58 rfl)) (mvT hZ (own_w hw 59 rfl)) (mvT hZ (own_sp14 hw)) (Cond.privateMethod_at (mvP hZ (own_w hw 60 rfl) (args := #[]))) (mvT hZ (own_w hw 61 rfl)) (by decide) (backOf (W := 0) (rm14_u l Z a0 hw [] a1 (6 : Int32) (4 : Int32) ky nd vs us h0 n0 (Nat.le_trans Z0 (Keep.refl h0 []).1) fp1 fp3 fp4 fp5 ((by first | exact (own_ib hlen (by decide) (by decide)) | exact own_ibs (own_ib hlen (by decide) (by decide)) | exact own_ibs (own_ibs (own_ib hlen (by decide) (by decide)))) : own_Inb (6 : Int32) vs.length) ((by first | exact (own_ib hlen (by decide) (by decide)) | exact own_ibs (own_ib hlen (by decide) (by decide)) | exact own_ibs (own_ibs (own_ib hlen (by decide) (by decide)))) : own_Inb (4 : Int32) vs.length) ((by first | exact (own_ib hleu (by decide) (by decide)) | exact own_ibs (own_ib hleu (by decide) (by decide)) | exact own_ibs (own_ibs (own_ib hleu (by decide) (by decide)))) : own_Inb (6 : Int32) us.length) ((by first | exact (own_ib hleu (by decide) (by decide)) | exact own_ibs (own_ib hleu (by decide) (by decide)) | exact own_ibs (own_ibs (own_ib hleu (by decide) (by decide)))) : own_Inb (4 : Int32) us.length)) hZ (own_w hw 61 rfl) (own_w hw 12 rfl) (by decide) (by decide)) (g := (mkF m 159 #[rv a1, iv 4, iv 4, iv lst, iv 6, .unset, .unset, .unset, .unset, .unset, .unset, .unset, .unset, .unset, .unset, .unset, .unset, .unset, .unset, .unset, .unset, .unset, .unset, .unset, .unset] [(.int 4), (.int 6), (.ref a1)])) rfl (by rw [hml]; rfl) (Steps.refl _) (a := a1) (by rw [e6]; exact q9) q9' (argsL := [(.int 6), (.int 4)]) (rest := []) (lenOf pd_13_u_1 rfl) rfl (own_wl rfl) (hb hby d13_159) (fun _ _ => ⟨rfl, e6, (by decide : 0 + 0 ≤ _), (by decide : 0 + 0 ≤ _)⟩)
        dsimp only [Pt.U, Pt.locs, Pt.cells, Pt.slots] at X9 l9 y9 z9 st9 hQ9
        subst y9 z9
        obtain ⟨rfl, N9q, e9⟩ := hQ9
        have N9 : Fr n0 L9 := by rw [l9]; exact Fr.app N6 N9q
        refine own_step (fun t k => st9.trans k) ?_
        by_cases hc10 : (own_f17 (vs.getD 6 0) (us.getD 6 0) (vs.getD 4 0) (us.getD 4 0)) = (0 : Int32)
        · skip
          refine own_step (fun t k => XS.ifYes X9.here hx rfl (pc0 := 162) (pc' := 168) rfl (hb hby d13_162) rfl ((if0 _ _).trans (teq hc10).1) (by decide) (by decide) k) ?_
          show own_G p.tables e below _ (T9.setTop (mkF m 168 #[rv a1, iv 4, iv 4, iv lst, iv 6, .unset, .unset, .unset, .unset, .unset, .unset, .unset, .unset, .unset, .unset, .unset, .unset, .unset, .unset, .unset, .unset, .unset, .unset, .unset, .unset] []))
          refine own_step (fun t k => XS.iinc X9.here hx rfl (hb hby d13_168) rfl (l' := #[rv a1, iv 4, iv 4, iv lst, iv 7, .unset, .unset, .unset, .unset, .unset, .unset, .unset, .unset, .unset, .unset, .unset, .unset, .unset, .unset, .unset, .unset, .unset, .unset, .unset, .unset]) rfl k) ?_
          refine own_go X9.here hx rfl (pc0 := 171) (pc' := 149) rfl (hb hby d13_171) (by decide) (by decide) ?_
          refine own_ix X9.here hx rfl (hb hby d13_149) rfl ?_
          refine own_il X9.here hx rfl (hb hby d13_151) rfl ?_
          by_cases hc11 : (7 : Int32) < lst
          · skip
            refine own_step (fun t k => XS.icmpNo X9.here hx rfl (hb hby d13_152) rfl ((tlt hc11).2.1) k) ?_
            show own_G p.tables e below _ (T9.setTop (mkF m 155 #[rv a1, iv 4, iv 4, iv lst, iv 7, .unset, .unset, .unset, .unset, .unset, .unset, .unset, .unset, .unset, .unset, .unset, .unset, .unset, .unset, .unset, .unset, .unset, .unset, .unset, .unset] []))
            refine own_al X9.here hx rfl (hb hby d13_155) rfl rfl ?_
            refine own_ix X9.here hx rfl (hb hby d13_156) rfl ?_
            refine own_il X9.here hx rfl (hb hby d13_158) rfl ?_
            obtain ⟨cq12, q12, q12'⟩ := fp0.cell
            obtain ⟨_, _, ⟨T12, L12, k12, n12⟩, -, X12, ⟨Lc12, hQ12, l12, y12, z12⟩, st12⟩ := X9.privateBack hx (y := own_y14) hown (mvT hZ (own_w hw 58 rfl)) (mvT hZ (own_w hw 59 rfl)) (mvT hZ (own_sp14 hw)) (Cond.privateMethod_at (mvP hZ (own_w hw 60 rfl) (args := #[]))) (mvT hZ (own_w hw 61 rfl)) (by decide) (backOf (W := 0) (rm14_u l Z a0 hw [] a1 (7 : Int32) (4 : Int32) ky nd vs us h0 n0 (Nat.le_trans Z0 (Keep.refl h0 []).1) fp1 fp3 fp4 fp5 ((by first | exact (own_ib hlen (by decide) (by decide)) | exact own_ibs (own_ib hlen (by decide) (by decide)) | exact own_ibs (own_ibs (own_ib hlen (by decide) (by decide)))) : own_Inb (7 : Int32) vs.length) ((by first | exact (own_ib hlen (by decide) (by decide)) | exact own_ibs (own_ib hlen (by decide) (by decide)) | exact own_ibs (own_ibs (own_ib hlen (by decide) (by decide)))) : own_Inb (4 : Int32) vs.length) ((by first | exact (own_ib hleu (by decide) (by decide)) | exact own_ibs (own_ib hleu (by decide) (by decide)) | exact own_ibs (own_ibs (own_ib hleu (by decide) (by decide)))) : own_Inb (7 : Int32) us.length) ((by first | exact (own_ib hleu (by decide) (by decide)) | exact own_ibs (own_ib hleu (by decide) (by decide)) | exact own_ibs (own_ibs (own_ib hleu (by decide) (by decide)))) : own_Inb (4 : Int32) us.length)) hZ (own_w hw 61 rfl) (own_w hw 12 rfl) (by decide) (by decide)) (g := (mkF m 159 #[rv a1, iv 4, iv 4, iv lst, iv 7, .unset, .unset, .unset, .unset, .unset, .unset, .unset, .unset, .unset, .unset, .unset, .unset, .unset, .unset, .unset, .unset, .unset, .unset, .unset, .unset] [(.int 4), (.int 7), (.ref a1)])) rfl (by rw [hml]; rfl) (Steps.refl _) (a := a1) (by rw [e9]; exact q12) q12' (argsL := [(.int 7), (.int 4)]) (rest := []) (lenOf pd_13_u_1 rfl) rfl (own_wl rfl) (hb hby d13_159) (fun _ _ => ⟨rfl, e9, (by decide : 0 + 0 ≤ _), (by decide : 0 + 0 ≤ _)⟩)
            dsimp only [Pt.U, Pt.locs, Pt.cells, Pt.slots] at X12 l12 y12 z12 st12 hQ12
            subst y12 z12
            obtain ⟨rfl, N12q, e12⟩ := hQ12
            have N12 : Fr n0 L12 := by rw [l12]; exact Fr.app N9 N12q
            refine own_step (fun t k => st12.trans k) ?_
            by_cases hc13 : (own_f17 (vs.getD 7 0) (us.getD 7 0) (vs.getD 4 0) (us.getD 4 0)) = (0 : Int32)
            · skip
              refine own_step (fun t k => XS.ifYes X12.here hx rfl (pc0 := 162) (pc' := 168) rfl (hb hby d13_162) rfl ((if0 _ _).trans (teq hc13).1) (by decide) (by decide) k) ?_
              clear N12q N6 N9 N9q X6 X9 e6 e9 q12 q12' q9 q9' st12 st9
              show own_G p.tables e below _ (T12.setTop (mkF m 168 #[rv a1, iv 4, iv 4, iv lst, iv 7, .unset, .unset, .unset, .unset, .unset, .unset, .unset, .unset, .unset, .unset, .unset, .unset, .unset, .unset, .unset, .unset, .unset, .unset, .unset, .unset] []))
              refine own_step (fun t k => XS.iinc X12.here hx rfl (hb hby d13_168) rfl (l' := #[rv a1, iv 4, iv 4, iv lst, iv 8, .unset, .unset, .unset, .unset, .unset, .unset, .unset, .unset, .unset, .unset, .unset, .unset, .unset, .unset, .unset, .unset, .unset, .unset, .unset, .unset]) rfl k) ?_
              refine own_go X12.here hx rfl (pc0 := 171) (pc' := 149) rfl (hb hby d13_171) (by decide) (by decide) ?_
              refine own_ix X12.here hx rfl (hb hby d13_149) rfl ?_
              refine own_il X12.here hx rfl (hb hby d13_151) rfl ?_
              have hk14 : ¬ ((8 : Int32) < lst) := (own_lst hd_lst hen8)
              refine own_step (fun t k => XS.icmpYes X12.here hx rfl (pc0 := 152) (pc' := 174) rfl (hb hby d13_152) rfl ((flt hk14).2.1) (by decide) (by decide) k) ?_
              show own_G p.tables e below _ (T12.setTop (mkF m 174 #[rv a1, iv 4, iv 4, iv lst, iv 8, .unset, .unset, .unset, .unset, .unset, .unset, .unset, .unset, .unset, .unset, .unset, .unset, .unset, .unset, .unset, .unset, .unset, .unset, .unset, .unset] []))
              refine own_il X12.here hx rfl (hb hby d13_174) rfl ?_
              obtain ⟨fs, hr, hrun, hended, hW, hsame⟩ := X12.leave (v := some (.int (4 : Int32))) (fun h => by rw [Bd.returns] at h; cases h)
              refine own_done (retI X12 hx Bd.returns (hb hby d13_175) hr) hrun hended ⟨_, _, rfl, ?_, ⟨_, rfl⟩, hW, hsame.mono (by decide) (by decide)⟩
              show Q13_u Z a1 ky nd en vs us h0 n0 _ T12.heap _
              rw [e12]
              exact ⟨congrArg (fun z => some (Value.int z)) (show (4 : Int32) = (own_f13_u en vs us) from by subst hd_lst; unfold own_f13_u; simp only [if_pos hc5, if_pos hc7, if_pos hc8, if_pos hc10, if_pos hc11, if_pos hc13]), N12, rfl⟩
            · skip
              refine own_step (fun t k => XS.ifNo X12.here hx rfl (hb hby d13_162) rfl ((if0 _ _).trans (feq hc13).1) k) ?_
              clear N12q N6 N9 N9q X6 X9 e6 e9 q12 q12' q9 q9' st12 st9
              show own_G p.tables e below _ (T12.setTop (mkF m 165 #[rv a1, iv 4, iv 4, iv lst, iv 7, .unset, .unset, .unset, .unset, .unset, .unset, .unset, .unset, .unset, .unset, .unset, .unset, .unset, .unset, .unset, .unset, .unset, .unset, .unset, .unset] []))
              refine own_ix X12.here hx rfl (hb hby d13_165) rfl ?_
              refine own_step (fun t k => XS.istoreN X12.here hx rfl (hb hby d13_167) rfl (l' := #[rv a1, iv 4, iv 7, iv lst, iv 7, .unset, .unset, .unset, .unset, .unset, .unset, .unset, .unset, .unset, .unset, .unset, .unset, .unset, .unset, .unset, .unset, .unset, .unset, .unset, .unset]) rfl k) ?_
              refine own_step (fun t k => XS.iinc X12.here hx rfl (hb hby d13_168) rfl (l' := #[rv a1, iv 4, iv 7, iv lst, iv 8, .unset, .unset, .unset, .unset, .unset, .unset, .unset, .unset, .unset, .unset, .unset, .unset, .unset, .unset, .unset, .unset, .unset, .unset, .unset, .unset]) rfl k) ?_
              refine own_go X12.here hx rfl (pc0 := 171) (pc' := 149) rfl (hb hby d13_171) (by decide) (by decide) ?_
              refine own_ix X12.here hx rfl (hb hby d13_149) rfl ?_
              refine own_il X12.here hx rfl (hb hby d13_151) rfl ?_
              have hk15 : ¬ ((8 : Int32) < lst) := (own_lst hd_lst hen8)
              refine own_step (fun t k => XS.icmpYes X12.here hx rfl (pc0 := 152) (pc' := 174) rfl (hb hby d13_152) rfl ((flt hk15).2.1) (by decide) (by decide) k) ?_
              show own_G p.tables e below _ (T12.setTop (mkF m 174 #[rv a1, iv 4, iv 7, iv lst, iv 8, .unset, .unset, .unset, .unset, .unset, .unset, .unset, .unset, .unset, .unset, .unset, .unset, .unset, .unset, .unset, .unset, .unset, .unset, .unset, .unset] []))
              refine own_il X12.here hx rfl (hb hby d13_174) rfl ?_
              obtain ⟨fs, hr, hrun, hended, hW, hsame⟩ := X12.leave (v := some (.int (7 : Int32))) (fun h => by rw [Bd.returns] at h; cases h)
              refine own_done (retI X12 hx Bd.returns (hb hby d13_175) hr) hrun hended ⟨_, _, rfl, ?_, ⟨_, rfl⟩, hW, hsame.mono (by decide) (by decide)⟩
              show Q13_u Z a1 ky nd en vs us h0 n0 _ T12.heap _
              rw [e12]
              exact ⟨congrArg (fun z => some (Value.int z)) (show (7 : Int32) = (own_f13_u en vs us) from by subst hd_lst; unfold own_f13_u; simp only [if_pos hc5, if_pos hc7, if_pos hc8, if_pos hc10, if_pos hc11, if_neg hc13]), N12, rfl⟩
          · skip
            refine own_step (fun t k => XS.icmpYes X9.here hx rfl (pc0 := 152) (pc' := 174) rfl (hb hby d13_152) rfl ((flt hc11).2.1) (by decide) (by decide) k) ?_
            show own_G p.tables e below _ (T9.setTop (mkF m 174 #[rv a1, iv 4, iv 4, iv lst, iv 7, .unset, .unset, .unset, .unset, .unset, .unset, .unset, .unset, .unset, .unset, .unset, .unset, .unset, .unset, .unset, .unset, .unset, .unset, .unset, .unset] []))
            refine own_il X9.here hx rfl (hb hby d13_174) rfl ?_
            obtain ⟨fs, hr, hrun, hended, hW, hsame⟩ := X9.leave (v := some (.int (4 : Int32))) (fun h => by rw [Bd.returns] at h; cases h)
            refine own_done (retI X9 hx Bd.returns (hb hby d13_175) hr) hrun hended ⟨_, _, rfl, ?_, ⟨_, rfl⟩, hW, hsame.mono (by decide) (by decide)⟩
            show Q13_u Z a1 ky nd en vs us h0 n0 _ T9.heap _
            rw [e9]
            exact ⟨congrArg (fun z => some (Value.int z)) (show (4 : Int32) = (own_f13_u en vs us) from by subst hd_lst; unfold own_f13_u; simp only [if_pos hc5, if_pos hc7, if_pos hc8, if_pos hc10, if_neg hc11]), N9, rfl⟩
        · skip
          refine own_step (fun t k => XS.ifNo X9.here hx rfl (hb hby d13_162) rfl ((if0 _ _).trans (feq hc10).1) k) ?_
          show own_G p.tables e below _ (T9.setTop (mkF m 165 #[rv a1, iv 4, iv 4, iv lst, iv 6, .unset, .unset, .unset, .unset, .unset, .unset, .unset, .unset, .unset, .unset, .unset, .unset, .unset, .unset, .unset, .unset, .unset, .unset, .unset, .unset] []))
          refine own_ix X9.here hx rfl (hb hby d13_165) rfl ?_
          refine own_step (fun t k => XS.istoreN X9.here hx rfl (hb hby d13_167) rfl (l' := #[rv a1, iv 4, iv 6, iv lst, iv 6, .unset, .unset, .unset, .unset, .unset, .unset, .unset, .unset, .unset, .unset, .unset, .unset, .unset, .unset, .unset, .unset, .unset, .unset, .unset, .unset]) rfl k) ?_
          refine own_step (fun t k => XS.iinc X9.here hx rfl (hb hby d13_168) rfl (l' := #[rv a1, iv 4, iv 6, iv lst, iv 7, .unset, .unset, .unset, .unset, .unset, .unset, .unset, .unset, .unset, .unset, .unset, .unset, .unset, .unset, .unset, .unset, .unset, .unset, .unset, .unset]) rfl k) ?_
          refine own_go X9.here hx rfl (pc0 := 171) (pc' := 149) rfl (hb hby d13_171) (by decide) (by decide) ?_
          refine own_ix X9.here hx rfl (hb hby d13_149) rfl ?_
          refine own_il X9.here hx rfl (hb hby d13_151) rfl ?_
          by_cases hc16 : (7 : Int32) < lst
          · skip
            refine own_step (fun t k => XS.icmpNo X9.here hx rfl (hb hby d13_152) rfl ((tlt hc16).2.1) k) ?_
            show own_G p.tables e below _ (T9.setTop (mkF m 155 #[rv a1, iv 4, iv 6, iv lst, iv 7, .unset, .unset, .unset, .unset, .unset, .unset, .unset, .unset, .unset, .unset, .unset, .unset, .unset, .unset, .unset, .unset, .unset, .unset, .unset, .unset] []))
            refine own_al X9.here hx rfl (hb hby d13_155) rfl rfl ?_
            refine own_ix X9.here hx rfl (hb hby d13_156) rfl ?_
            refine own_il X9.here hx rfl (hb hby d13_158) rfl ?_
            obtain ⟨cq17, q17, q17'⟩ := fp0.cell
            obtain ⟨_, _, ⟨T17, L17, k17, n17⟩, -, X17, ⟨Lc17, hQ17, l17, y17, z17⟩, st17⟩ := X9.privateBack hx (y := own_y14) hown (mvT hZ (own_w hw 58 rfl)) (mvT hZ (own_w hw 59 rfl)) (mvT hZ (own_sp14 hw)) (Cond.privateMethod_at (mvP hZ (own_w hw 60 rfl) (args := #[]))) (mvT hZ (own_w hw 61 rfl)) (by decide) (backOf (W := 0) (rm14_u l Z a0 hw [] a1 (7 : Int32) (6 : Int32) ky nd vs us h0 n0 (Nat.le_trans Z0 (Keep.refl h0 []).1) fp1 fp3 fp4 fp5 ((by first | exact (own_ib hlen (by decide) (by decide)) | exact own_ibs (own_ib hlen (by decide) (by decide)) | exact own_ibs (own_ibs (own_ib hlen (by decide) (by decide)))) : own_Inb (7 : Int32) vs.length) ((by first | exact (own_ib hlen (by decide) (by decide)) | exact own_ibs (own_ib hlen (by decide) (by decide)) | exact own_ibs (own_ibs (own_ib hlen (by decide) (by decide)))) : own_Inb (6 : Int32) vs.length) ((by first | exact (own_ib hleu (by decide) (by decide)) | exact own_ibs (own_ib hleu (by decide) (by decide)) | exact own_ibs (own_ibs (own_ib hleu (by decide) (by decide)))) : own_Inb (7 : Int32) us.length) ((by first | exact (own_ib hleu (by decide) (by decide)) | exact own_ibs (own_ib hleu (by decide) (by decide)) | exact own_ibs (own_ibs (own_ib hleu (by decide) (by decide)))) : own_Inb (6 : Int32) us.length)) hZ (own_w hw 61 rfl) (own_w hw 12 rfl) (by decide) (by decide)) (g := (mkF m 159 #[rv a1, iv 4, iv 6, iv lst, iv 7, .unset, .unset, .unset, .unset, .unset, .unset, .unset, .unset, .unset, .unset, .unset, .unset, .unset, .unset, .unset, .unset, .unset, .unset, .unset, .unset] [(.int 6), (.int 7), (.ref a1)])) rfl (by rw [hml]; rfl) (Steps.refl _) (a := a1) (by rw [e9]; exact q17) q17' (argsL := [(.int 7), (.int 6)]) (rest := []) (lenOf pd_13_u_1 rfl) rfl (own_wl rfl) (hb hby d13_159) (fun _ _ => ⟨rfl, e9, (by decide : 0 + 0 ≤ _), (by decide : 0 + 0 ≤ _)⟩)
            dsimp only [Pt.U, Pt.locs, Pt.cells, Pt.slots] at X17 l17 y17 z17 st17 hQ17
            subst y17 z17
            obtain ⟨rfl, N17q, e17⟩ := hQ17
            have N17 : Fr n0 L17 := by rw [l17]; exact Fr.app N9 N17q
            refine own_step (fun t k => st17.trans k) ?_
            by_cases hc18 : (own_f17 (vs.getD 7 0) (us.getD 7 0) (vs.getD 6 0) (us.getD 6 0)) = (0 : Int32)
            · skip
              refine own_step (fun t k => XS.ifYes X17.here hx rfl (pc0 := 162) (pc' := 168) rfl (hb hby d13_162) rfl ((if0 _ _).trans (teq hc18).1) (by decide) (by decide) k) ?_
              clear N17q N6 N9 N9q X6 X9 e6 e9 q17 q17' q9 q9' st17 st9
              show own_G p.tables e below _ (T17.setTop (mkF m 168 #[rv a1, iv 4, iv 6, iv lst, iv 7, .unset, .unset, .unset, .unset, .unset, .unset, .unset, .unset, .unset, .unset, .unset, .unset, .unset, .unset, .unset, .unset, .unset, .unset, .unset, .unset] []))
              refine own_step (fun t k => XS.iinc X17.here hx rfl (hb hby d13_168) rfl (l' := #[rv a1, iv 4, iv 6, iv lst, iv 8, .unset, .unset, .unset, .unset, .unset, .unset, .unset, .unset, .unset, .unset, .unset, .unset, .unset, .unset, .unset, .unset, .unset, .unset, .unset, .unset]) rfl k) ?_
              refine own_go X17.here hx rfl (pc0 := 171) (pc' := 149) rfl (hb hby d13_171) (by decide) (by decide) ?_
              refine own_ix X17.here hx rfl (hb hby d13_149) rfl ?_
              refine own_il X17.here hx rfl (hb hby d13_151) rfl ?_
              have hk19 : ¬ ((8 : Int32) < lst) := (own_lst hd_lst hen8)
              refine own_step (fun t k => XS.icmpYes X17.here hx rfl (pc0 := 152) (pc' := 174) rfl (hb hby d13_152) rfl ((flt hk19).2.1) (by decide) (by decide) k) ?_
              show own_G p.tables e below _ (T17.setTop (mkF m 174 #[rv a1, iv 4, iv 6, iv lst, iv 8, .unset, .unset, .unset, .unset, .unset, .unset, .unset, .unset, .unset, .unset, .unset, .unset, .unset, .unset, .unset, .unset, .unset, .unset, .unset, .unset] []))
              refine own_il X17.here hx rfl (hb hby d13_174) rfl ?_
              obtain ⟨fs, hr, hrun, hended, hW, hsame⟩ := X17.leave (v := some (.int (6 : Int32))) (fun h => by rw [Bd.returns] at h; cases h)
              refine own_done (retI X17 hx Bd.returns (hb hby d13_175) hr) hrun hended ⟨_, _, rfl, ?_, ⟨_, rfl⟩, hW, hsame.mono (by decide) (by decide)⟩
              show Q13_u Z a1 ky nd en vs us h0 n0 _ T17.heap _
              rw [e17]
              exact ⟨congrArg (fun z => some (Value.int z)) (show (6 : Int32) = (own_f13_u en vs us) from by subst hd_lst; unfold own_f13_u; simp only [if_pos hc5, if_pos hc7, if_pos hc8, if_neg hc10, if_pos hc16, if_pos hc18]), N17, rfl⟩
            · skip
              refine own_step (fun t k => XS.ifNo X17.here hx rfl (hb hby d13_162) rfl ((if0 _ _).trans (feq hc18).1) k) ?_
              clear N17q N6 N9 N9q X6 X9 e6 e9 q17 q17' q9 q9' st17 st9
              show own_G p.tables e below _ (T17.setTop (mkF m 165 #[rv a1, iv 4, iv 6, iv lst, iv 7, .unset, .unset, .unset, .unset, .unset, .unset, .unset, .unset, .unset, .unset, .unset, .unset, .unset, .unset, .unset, .unset, .unset, .unset, .unset, .unset] []))
              refine own_ix X17.here hx rfl (hb hby d13_165) rfl ?_
              refine own_step (fun t k => XS.istoreN X17.here hx rfl (hb hby d13_167) rfl (l' := #[rv a1, iv 4, iv 7, iv lst, iv 7, .unset, .unset, .unset, .unset, .unset, .unset, .unset, .unset, .unset, .unset, .unset, .unset, .unset, .unset, .unset, .unset, .unset, .unset, .unset, .unset]) rfl k) ?_
              refine own_step (fun t k => XS.iinc X17.here hx rfl (hb hby d13_168) rfl (l' := #[rv a1, iv 4, iv 7, iv lst, iv 8, .unset, .unset, .unset, .unset, .unset, .unset, .unset, .unset, .unset, .unset, .unset, .unset, .unset, .unset, .unset, .unset, .unset, .unset, .unset, .unset]) rfl k) ?_
              refine own_go X17.here hx rfl (pc0 := 171) (pc' := 149) rfl (hb hby d13_171) (by decide) (by decide) ?_
              refine own_ix X17.here hx rfl (hb hby d13_149) rfl ?_
              refine own_il X17.here hx rfl (hb hby d13_151) rfl ?_
              have hk20 : ¬ ((8 : Int32) < lst) := (own_lst hd_lst hen8)
              refine own_step (fun t k => XS.icmpYes X17.here hx rfl (pc0 := 152) (pc' := 174) rfl (hb hby d13_152) rfl ((flt hk20).2.1) (by decide) (by decide) k) ?_
              show own_G p.tables e below _ (T17.setTop (mkF m 174 #[rv a1, iv 4, iv 7, iv lst, iv 8, .unset, .unset, .unset, .unset, .unset, .unset, .unset, .unset, .unset, .unset, .unset, .unset, .unset, .unset, .unset, .unset, .unset, .unset, .unset, .unset] []))
              refine own_il X17.here hx rfl (hb hby d13_174) rfl ?_
              obtain ⟨fs, hr, hrun, hended, hW, hsame⟩ := X17.leave (v := some (.int (7 : Int32))) (fun h => by rw [Bd.returns] at h; cases h)
              refine own_done (retI X17 hx Bd.returns (hb hby d13_175) hr) hrun hended ⟨_, _, rfl, ?_, ⟨_, rfl⟩, hW, hsame.mono (by decide) (by decide)⟩
              show Q13_u Z a1 ky nd en vs us h0 n0 _ T17.heap _
              rw [e17]
              exact ⟨congrArg (fun z => some (Value.int z)) (show (7 : Int32) = (own_f13_u en vs us) from by subst hd_lst; unfold own_f13_u; simp only [if_pos hc5, if_pos hc7, if_pos hc8, if_neg hc10, if_pos hc16, if_neg hc18]), N17, rfl⟩
          · skip
            refine own_step (fun t k => XS.icmpYes X9.here hx rfl (pc0 := 152) (pc' := 174) rfl (hb hby d13_152) rfl ((flt hc16).2.1) (by decide) (by decide) k) ?_
            show own_G p.tables e below _ (T9.setTop (mkF m 174 #[rv a1, iv 4, iv 6, iv lst, iv 7, .unset, .unset, .unset, .unset, .unset, .unset, .unset, .unset, .unset, .unset, .unset, .unset, .unset, .unset, .unset, .unset, .unset, .unset, .unset, .unset] []))
            refine own_il X9.here hx rfl (hb hby d13_174) rfl ?_
            obtain ⟨fs, hr, hrun, hended, hW, hsame⟩ := X9.leave (v := some (.int (6 : Int32))) (fun h => by rw [Bd.returns] at h; cases h)
            refine own_done (retI X9 hx Bd.returns (hb hby d13_175) hr) hrun hended ⟨_, _, rfl, ?_, ⟨_, rfl⟩, hW, hsame.mono (by decide) (by decide)⟩
            show Q13_u Z a1 ky nd en vs us h0 n0 _ T9.heap _
            rw [e9]
            exact ⟨congrArg (fun z => some (Value.int z)) (show (6 : Int32) = (own_f13_u en vs us) from by subst hd_lst; unfold own_f13_u; simp only [if_pos hc5, if_pos hc7, if_pos hc8, if_neg hc10, if_neg hc16]), N9, rfl⟩
      · skip
        refine own_step (fun t k => XS.icmpYes X6.here hx rfl (pc0 := 152) (pc' := 174) rfl (hb hby d13_152) rfl ((flt hc8).2.1) (by decide) (by decide) k) ?_
        show own_G p.tables e below _ (T6.setTop (mkF m 174 #[rv a1, iv 4, iv 4, iv lst, iv 6, .unset, .unset, .unset, .unset, .unset, .unset, .unset, .unset, .unset, .unset, .unset, .unset, .unset, .unset, .unset, .unset, .unset, .unset, .unset, .unset] []))
        refine own_il X6.here hx rfl (hb hby d13_174) rfl ?_
        obtain ⟨fs, hr, hrun, hended, hW, hsame⟩ := X6.leave (v := some (.int (4 : Int32))) (fun h => by rw [Bd.returns] at h; cases h)
        refine own_done (retI X6 hx Bd.returns (hb hby d13_175) hr) hrun hended ⟨_, _, rfl, ?_, ⟨_, rfl⟩, hW, hsame.mono (by decide) (by decide)⟩
        show Q13_u Z a1 ky nd en vs us h0 n0 _ T6.heap _
        rw [e6]
        exact ⟨congrArg (fun z => some (Value.int z)) (show (4 : Int32) = (own_f13_u en vs us) from by subst hd_lst; unfold own_f13_u; simp only [if_pos hc5, if_pos hc7, if_neg hc8]), N6, rfl⟩
    · skip
      refine own_step (fun t k => XS.ifNo X6.here hx rfl (hb hby d13_162) rfl ((if0 _ _).trans (feq hc7).1) k) ?_
      clear N3 N3q N6q X1 X2 X3 e1 e2 e3 q6 q6' st1 st2 st3 st6
      show own_G p.tables e below _ (T6.setTop (mkF m 165 #[rv a1, iv 4, iv 4, iv lst, iv 5, .unset, .unset, .unset, .unset, .unset, .unset, .unset, .unset, .unset, .unset, .unset, .unset, .unset, .unset, .unset, .unset, .unset, .unset, .unset, .unset] []))
      refine own_ix X6.here hx rfl (hb hby d13_165) rfl ?_
      refine own_step (fun t k => XS.istoreN X6.here hx rfl (hb hby d13_167) rfl (l' := #[rv a1, iv 4, iv 5, iv lst, iv 5, .unset, .unset, .unset, .unset, .unset, .unset, .unset, .unset, .unset, .unset, .unset, .unset, .unset, .unset, .unset, .unset, .unset, .unset, .unset, .unset]) rfl k) ?_
      refine own_step (fun t k => XS.iinc X6.here hx rfl (hb hby d13_168) rfl (l' := #[rv a1, iv 4, iv 5, iv lst, iv 6, .unset, .unset, .unset, .unset, .unset, .unset, .unset, .unset, .unset, .unset, .unset, .unset, .unset, .unset, .unset, .unset, .unset, .unset, .unset, .unset]) rfl k) ?_
      refine own_go X6.here hx rfl (pc0 := 171) (pc' := 149) rfl (hb hby d13_171) (by decide) (by decide) ?_
      refine own_ix X6.here hx rfl (hb hby d13_149) rfl ?_
      refine own_il X6.here hx rfl (hb hby d13_151) rfl ?_
      by_cases hc21 : (6 : Int32) < lst
      · skip
        refine own_step (fun t k => XS.icmpNo X6.here hx rfl (hb hby d13_152) rfl ((tlt hc21).2.1) k) ?_
        show own_G p.tables e below _ (T6.setTop (mkF m 155 #[rv a1, iv 4, iv 5, iv lst, iv 6, .unset, .unset, .unset, .unset, .unset, .unset, .unset, .unset, .unset, .unset, .unset, .unset, .unset, .unset, .unset, .unset, .unset, .unset, .unset, .unset] []))
        refine own_al X6.here hx rfl (hb hby d13_155) rfl rfl ?_
        refine own_ix X6.here hx rfl (hb hby d13_156) rfl ?_
        refine own_il X6.here hx rfl (hb hby d13_158) rfl ?_
        obtain ⟨cq22, q22, q22'⟩ := fp0.cell
        obtain ⟨_, _, ⟨T22, L22, k22, n22⟩, -, X22, ⟨Lc22, hQ22, l22, y22, z22⟩, st22⟩ := X6.privateBack hx (y := own_y14) hown (mvT hZ (own_w hw 58 rfl)) (mvT hZ (own_w hw 59 rfl)) (mvT hZ (own_sp14 hw)) (Cond.privateMethod_at (mvP hZ (own_w hw 60 rfl) (args := #[]))) (mvT hZ (own_w hw 61 rfl)) (by decide) (backOf (W := 0) (rm14_u l Z a0 hw [] a1 (6 : Int32) (5 : Int32) ky nd vs us h0 n0 (Nat.le_trans Z0 (Keep.refl h0 []).1) fp1 fp3 fp4 fp5 ((by first | exact (own_ib hlen (by decide) (by decide)) | exact own_ibs (own_ib hlen (by decide) (by decide)) | exact own_ibs (own_ibs (own_ib hlen (by decide) (by decide)))) : own_Inb (6 : Int32) vs.length) ((by first | exact (own_ib hlen (by decide) (by decide)) | exact own_ibs (own_ib hlen (by decide) (by decide)) | exact own_ibs (own_ibs (own_ib hlen (by decide) (by decide)))) : own_Inb (5 : Int32) vs.length) ((by first | exact (own_ib hleu (by decide) (by decide)) | exact own_ibs (own_ib hleu (by decide) (by decide)) | exact own_ibs (own_ibs (own_ib hleu (by decide) (by decide)))) : own_Inb (6 : Int32) us.length) ((by first | exact (own_ib hleu (by decide) (by decide)) | exact own_ibs (own_ib hleu (by decide) (by decide)) | exact own_ibs (own_ibs (own_ib hleu (by decide) (by decide)))) : own_Inb (5 : Int32) us.length)) hZ (own_w hw 61 rfl) (own_w hw 12 rfl) (by decide) (by decide)) (g := (mkF m 159 #[rv a1, iv 4, iv 5, iv lst, iv 6, .unset, .unset, .unset, .unset, .unset, .unset, .unset, .unset, .unset, .unset, .unset, .unset, .unset, .unset, .unset, .unset, .unset, .unset, .unset, .unset] [(.int 5), (.int 6), (.ref a1)])) rfl (by rw [hml]; rfl) (Steps.refl _) (a := a1) (by rw [e6]; exact q22) q22' (argsL := [(.int 6), (.int 5)]) (rest := []) (lenOf pd_13_u_1 rfl) rfl (own_wl rfl) (hb hby d13_159) (fun _ _ => ⟨rfl, e6, (by decide : 0 + 0 ≤ _), (by decide : 0 + 0 ≤ _)⟩)
        dsimp only [Pt.U, Pt.locs, Pt.cells, Pt.slots] at X22 l22 y22 z22 st22 hQ22
        subst y22 z22
        obtain ⟨rfl, N22q, e22⟩ := hQ22
        have N22 : Fr n0 L22 := by rw [l22]; exact Fr.app N6 N22q
        refine own_step (fun t k => st22.trans k) ?_
        by_cases hc23 : (own_f17 (vs.getD 6 0) (us.getD 6 0) (vs.getD 5 0) (us.getD 5 0)) = (0 : Int32)
        · skip
          refine own_step (fun t k => XS.ifYes X22.here hx rfl (pc0 := 162) (pc' := 168) rfl (hb hby d13_162) rfl ((if0 _ _).trans (teq hc23).1) (by decide) (by decide) k) ?_
          show own_G p.tables e below _ (T22.setTop (mkF m 168 #[rv a1, iv 4, iv 5, iv lst, iv 6, .unset, .unset, .unset, .unset, .unset, .unset, .unset, .unset, .unset, .unset, .unset, .unset, .unset, .unset, .unset, .unset, .unset, .unset, .unset, .unset] []))
          refine own_step (fun t k => XS.iinc X22.here hx rfl (hb hby d13_168) rfl (l' := #[rv a1, iv 4, iv 5, iv lst, iv 7, .unset, .unset, .unset, .unset, .unset, .unset, .unset, .unset, .unset, .unset, .unset, .unset, .unset, .unset, .unset, .unset, .unset, .unset, .unset, .unset]) rfl k) ?_
          refine own_go X22.here hx rfl (pc0 := 171) (pc' := 149) rfl (hb hby d13_171) (by decide) (by decide) ?_
          refine own_ix X22.here hx rfl (hb hby d13_149) rfl ?_
          refine own_il X22.here hx rfl (hb hby d13_151) rfl ?_
          by_cases hc24 : (7 : Int32) < lst
          · skip
            refine own_step (fun t k => XS.icmpNo X22.here hx rfl (hb hby d13_152) rfl ((tlt hc24).2.1) k) ?_
            show own_G p.tables e below _ (T22.setTop (mkF m 155 #[rv a1, iv 4, iv 5, iv lst, iv 7, .unset, .unset, .unset, .unset, .unset, .unset, .unset, .unset, .unset, .unset, .unset, .unset, .unset, .unset, .unset, .unset, .unset, .unset, .unset, .unset] []))
            refine own_al X22.here hx rfl (hb hby d13_155) rfl rfl ?_
            refine own_ix X22.here hx rfl (hb hby d13_156) rfl ?_
            refine own_il X22.here hx rfl (hb hby d13_158) rfl ?_
            obtain ⟨cq25, q25, q25'⟩ := fp0.cell
            obtain ⟨_, _, ⟨T25, L25, k25, n25⟩, -, X25, ⟨Lc25, hQ25, l25, y25, z25⟩, st25⟩ := X22.privateBack hx (y := own_y14) hown (mvT hZ (own_w hw 58 rfl)) (mvT hZ (own_w hw 59 rfl)) (mvT hZ (own_sp14 hw)) (Cond.privateMethod_at (mvP hZ (own_w hw 60 rfl) (args := #[]))) (mvT hZ (own_w hw 61 rfl)) (by decide) (backOf (W := 0) (rm14_u l Z a0 hw [] a1 (7 : Int32) (5 : Int32) ky nd vs us h0 n0 (Nat.le_trans Z0 (Keep.refl h0 []).1) fp1 fp3 fp4 fp5 ((by first | exact (own_ib hlen (by decide) (by decide)) | exact own_ibs (own_ib hlen (by decide) (by decide)) | exact own_ibs (own_ibs (own_ib hlen (by decide) (by decide)))) : own_Inb (7 : Int32) vs.length) ((by first | exact (own_ib hlen (by decide) (by decide)) | exact own_ibs (own_ib hlen (by decide) (by decide)) | exact own_ibs (own_ibs (own_ib hlen (by decide) (by decide)))) : own_Inb (5 : Int32) vs.length) ((by first | exact (own_ib hleu (by decide) (by decide)) | exact own_ibs (own_ib hleu (by decide) (by decide)) | exact own_ibs (own_ibs (own_ib hleu (by decide) (by decide)))) : own_Inb (7 : Int32) us.length) ((by first | exact (own_ib hleu (by decide) (by decide)) | exact own_ibs (own_ib hleu (by decide) (by decide)) | exact own_ibs (own_ibs (own_ib hleu (by decide) (by decide)))) : own_Inb (5 : Int32) us.length)) hZ (own_w hw 61 rfl) (own_w hw 12 rfl) (by decide) (by decide)) (g := (mkF m 159 #[rv a1, iv 4, iv 5, iv lst, iv 7, .unset, .unset, .unset, .unset, .unset, .unset, .unset, .unset, .unset, .unset, .unset, .unset, .unset, .unset, .unset, .unset, .unset, .unset, .unset, .unset] [(.int 5), (.int 7), (.ref a1)])) rfl (by rw [hml]; rfl) (Steps.refl _) (a := a1) (by rw [e22]; exact q25) q25' (argsL := [(.int 7), (.int 5)]) (rest := []) (lenOf pd_13_u_1 rfl) rfl (own_wl rfl) (hb hby d13_159) (fun _ _ => ⟨rfl, e22, (by decide : 0 + 0 ≤ _), (by decide : 0 + 0 ≤ _)⟩)
            dsimp only [Pt.U, Pt.locs, Pt.cells, Pt.slots] at X25 l25 y25 z25 st25 hQ25
            subst y25 z25
            obtain ⟨rfl, N25q, e25⟩ := hQ25
            have N25 : Fr n0 L25 := by rw [l25]; exact Fr.app N22 N25q
            refine own_step (fun t k => st25.trans k) ?_
            by_cases hc26 : (own_f17 (vs.getD 7 0) (us.getD 7 0) (vs.getD 5 0) (us.getD 5 0)) = (0 : Int32)
            · skip
              refine own_step (fun t k => XS.ifYes X25.here hx rfl (pc0 := 162) (pc' := 168) rfl (hb hby d13_162) rfl ((if0 _ _).trans (teq hc26).1) (by decide) (by decide) k) ?_
              clear N22 N22q N25q N6 X22 X6 e22 e6 q22 q22' q25 q25' st22 st25
              show own_G p.tables e below _ (T25.setTop (mkF m 168 #[rv a1, iv 4, iv 5, iv lst, iv 7, .unset, .unset, .unset, .unset, .unset, .unset, .unset, .unset, .unset, .unset, .unset, .unset, .unset, .unset, .unset, .unset, .unset, .unset, .unset, .unset] []))
              refine own_step (fun t k => XS.iinc X25.here hx rfl (hb hby d13_168) rfl (l' := #[rv a1, iv 4, iv 5, iv lst, iv 8, .unset, .unset, .unset, .unset, .unset, .unset, .unset, .unset, .unset, .unset, .unset, .unset, .unset, .unset, .unset, .unset, .unset, .unset, .unset, .unset]) rfl k) ?_
              refine own_go X25.here hx rfl (pc0 := 171) (pc' := 149) rfl (hb hby d13_171) (by decide) (by decide) ?_
              refine own_ix X25.here hx rfl (hb hby d13_149) rfl ?_
              refine own_il X25.here hx rfl (hb hby d13_151) rfl ?_
              have hk27 : ¬ ((8 : Int32) < lst) := (own_lst hd_lst hen8)
              refine own_step (fun t k => XS.icmpYes X25.here hx rfl (pc0 := 152) (pc' := 174) rfl (hb hby d13_152) rfl ((flt hk27).2.1) (by decide) (by decide) k) ?_
              show own_G p.tables e below _ (T25.setTop (mkF m 174 #[rv a1, iv 4, iv 5, iv lst, iv 8, .unset, .unset, .unset, .unset, .unset, .unset, .unset, .unset, .unset, .unset, .unset, .unset, .unset, .unset, .unset, .unset, .unset, .unset, .unset, .unset] []))
              refine own_il X25.here hx rfl (hb hby d13_174) rfl ?_
              obtain ⟨fs, hr, hrun, hended, hW, hsame⟩ := X25.leave (v := some (.int (5 : Int32))) (fun h => by rw [Bd.returns] at h; cases h)
              refine own_done (retI X25 hx Bd.returns (hb hby d13_175) hr) hrun hended ⟨_, _, rfl, ?_, ⟨_, rfl⟩, hW, hsame.mono (by decide) (by decide)⟩
              show Q13_u Z a1 ky nd en vs us h0 n0 _ T25.heap _
              rw [e25]
              exact ⟨congrArg (fun z => some (Value.int z)) (show (5 : Int32) = (own_f13_u en vs us) from by subst hd_lst; unfold own_f13_u; simp only [if_pos hc5, if_neg hc7, if_pos hc21, if_pos hc23, if_pos hc24, if_pos hc26]), N25, rfl⟩
            · skip
              refine own_step (fun t k => XS.ifNo X25.here hx rfl (hb hby d13_162) rfl ((if0 _ _).trans (feq hc26).1) k) ?_
              clear N22 N22q N25q N6 X22 X6 e22 e6 q22 q22' q25 q25' st22 st25
              show own_G p.tables e below _ (T25.setTop (mkF m 165 #[rv a1, iv 4, iv 5, iv lst, iv 7, .unset, .unset, .unset, .unset, .unset, .unset, .unset, .unset, .unset, .unset, .unset, .unset, .unset, .unset, .unset, .unset, .unset, .unset, .unset, .unset] []))
              refine own_ix X25.here hx rfl (hb hby d13_165) rfl ?_
              refine own_step (fun t k => XS.istoreN X25.here hx rfl (hb hby d13_167) rfl (l' := #[rv a1, iv 4, iv 7, iv lst, iv 7, .unset, .unset, .unset, .unset, .unset, .unset, .unset, .unset, .unset, .unset, .unset, .unset, .unset, .unset, .unset, .unset, .unset, .unset, .unset, .unset]) rfl k) ?_
              refine own_step (fun t k => XS.iinc X25.here hx rfl (hb hby d13_168) rfl (l' := #[rv a1, iv 4, iv 7, iv lst, iv 8, .unset, .unset, .unset, .unset, .unset, .unset, .unset, .unset, .unset, .unset, .unset, .unset, .unset, .unset, .unset, .unset, .unset, .unset, .unset, .unset]) rfl k) ?_
              refine own_go X25.here hx rfl (pc0 := 171) (pc' := 149) rfl (hb hby d13_171) (by decide) (by decide) ?_
              refine own_ix X25.here hx rfl (hb hby d13_149) rfl ?_
              refine own_il X25.here hx rfl (hb hby d13_151) rfl ?_
              have hk28 : ¬ ((8 : Int32) < lst) := (own_lst hd_lst hen8)
              refine own_step (fun t k => XS.icmpYes X25.here hx rfl (pc0 := 152) (pc' := 174) rfl (hb hby d13_152) rfl ((flt hk28).2.1) (by decide) (by decide) k) ?_
              show own_G p.tables e below _ (T25.setTop (mkF m 174 #[rv a1, iv 4, iv 7, iv lst, iv 8, .unset, .unset, .unset, .unset, .unset, .unset, .unset, .unset, .unset, .unset, .unset, .unset, .unset, .unset, .unset, .unset, .unset, .unset, .unset, .unset] []))
              refine own_il X25.here hx rfl (hb hby d13_174) rfl ?_
              obtain ⟨fs, hr, hrun, hended, hW, hsame⟩ := X25.leave (v := some (.int (7 : Int32))) (fun h => by rw [Bd.returns] at h; cases h)
              refine own_done (retI X25 hx Bd.returns (hb hby d13_175) hr) hrun hended ⟨_, _, rfl, ?_, ⟨_, rfl⟩, hW, hsame.mono (by decide) (by decide)⟩
              show Q13_u Z a1 ky nd en vs us h0 n0 _ T25.heap _
              rw [e25]
              exact ⟨congrArg (fun z => some (Value.int z)) (show (7 : Int32) = (own_f13_u en vs us) from by subst hd_lst; unfold own_f13_u; simp only [if_pos hc5, if_neg hc7, if_pos hc21, if_pos hc23, if_pos hc24, if_neg hc26]), N25, rfl⟩
          · skip
            refine own_step (fun t k => XS.icmpYes X22.here hx rfl (pc0 := 152) (pc' := 174) rfl (hb hby d13_152) rfl ((flt hc24).2.1) (by decide) (by decide) k) ?_
            show own_G p.tables e below _ (T22.setTop (mkF m 174 #[rv a1, iv 4, iv 5, iv lst, iv 7, .unset, .unset, .unset, .unset, .unset, .unset, .unset, .unset, .unset, .unset, .unset, .unset, .unset, .unset, .unset, .unset, .unset, .unset, .unset, .unset] []))
            refine own_il X22.here hx rfl (hb hby d13_174) rfl ?_
            obtain ⟨fs, hr, hrun, hended, hW, hsame⟩ := X22.leave (v := some (.int (5 : Int32))) (fun h => by rw [Bd.returns] at h; cases h)
            refine own_done (retI X22 hx Bd.returns (hb hby d13_175) hr) hrun hended ⟨_, _, rfl, ?_, ⟨_, rfl⟩, hW, hsame.mono (by decide) (by decide)⟩
            show Q13_u Z a1 ky nd en vs us h0 n0 _ T22.heap _
            rw [e22]
            exact ⟨congrArg (fun z => some (Value.int z)) (show (5 : Int32) = (own_f13_u en vs us) from by subst hd_lst; unfold own_f13_u; simp only [if_pos hc5, if_neg hc7, if_pos hc21, if_pos hc23, if_neg hc24]), N22, rfl⟩
        · skip
          refine own_step (fun t k => XS.ifNo X22.here hx rfl (hb hby d13_162) rfl ((if0 _ _).trans (feq hc23).1) k) ?_
          show own_G p.tables e below _ (T22.setTop (mkF m 165 #[rv a1, iv 4, iv 5, iv lst, iv 6, .unset, .unset, .unset, .unset, .unset, .unset, .unset, .unset, .unset, .unset, .unset, .unset, .unset, .unset, .unset, .unset, .unset, .unset, .unset, .unset] []))
          refine own_ix X22.here hx rfl (hb hby d13_165) rfl ?_
          refine own_step (fun t k => XS.istoreN X22.here hx rfl (hb hby d13_167) rfl (l' := #[rv a1, iv 4, iv 6, iv lst, iv 6, .unset, .unset, .unset, .unset, .unset, .unset, .unset, .unset, .unset, .unset, .unset, .unset, .unset, .unset, .unset, .unset, .unset, .unset, .unset, .unset]) rfl k) ?_
          refine own_step (fun t k => XS.iinc X22.here hx rfl (hb hby d13_168) rfl (l' := #[rv a1, iv 4, iv 6, iv lst, iv 7, .unset, .unset, .unset, .unset, .unset, .unset, .unset, .unset, .unset, .unset, .unset, .unset, .unset, .unset, .unset, .unset, .unset, .unset, .unset, .unset]) rfl k) ?_
          refine own_go X22.here hx rfl (pc0 := 171) (pc' := 149) rfl (hb hby d13_171) (by decide) (by decide) ?_
          refine own_ix X22.here hx rfl (hb hby d13_149) rfl ?_
          refine own_il X22.here hx rfl (hb hby d13_151) rfl ?_
          by_cases hc29 : (7 : Int32) < lst
          · skip
            refine own_step (fun t k => XS.icmpNo X22.here hx rfl (hb hby d13_152) rfl ((tlt hc29).2.1) k) ?_
            show own_G p.tables e below _ (T22.setTop (mkF m 155 #[rv a1, iv 4, iv 6, iv lst, iv 7, .unset, .unset, .unset, .unset, .unset, .unset, .unset, .unset, .unset, .unset, .unset, .unset, .unset, .unset, .unset, .unset, .unset, .unset, .unset, .unset] []))
            refine own_al X22.here hx rfl (hb hby d13_155) rfl rfl ?_
            refine own_ix X22.here hx rfl (hb hby d13_156) rfl ?_
            refine own_il X22.here hx rfl (hb hby d13_158) rfl ?_
            obtain ⟨cq30, q30, q30'⟩ := fp0.cell
            obtain ⟨_, _, ⟨T30, L30, k30, n30⟩, -, X30, ⟨Lc30, hQ30, l30, y30, z30⟩, st30⟩ := X22.privateBack hx (y := own_y14) hown (mvT hZ (own_w hw 58 rfl)) (mvT hZ (own_w hw 59 rfl)) (mvT hZ (own_sp14 hw)) (Cond.privateMethod_at (mvP hZ (own_w hw 60 rfl) (args := #[]))) (mvT hZ (own_w hw 61 rfl)) (by decide) (backOf (W := 0) (rm14_u l Z a0 hw [] a1 (7 : Int32) (6 : Int32) ky nd vs us h0 n0 (Nat.le_trans Z0 (Keep.refl h0 []).1) fp1 fp3 fp4 fp5 ((by first | exact (own_ib hlen (by decide) (by decide)) | exact own_ibs (own_ib hlen (by decide) (by decide)) | exact own_ibs (own_ibs (own_ib hlen (by decide) (by decide)))) : own_Inb (7 : Int32) vs.length) ((by first | exact (own_ib hlen (by decide) (by decide)) | exact own_ibs (own_ib hlen (by decide) (by decide)) | exact own_ibs (own_ibs (own_ib hlen (by decide) (by decide)))) : own_Inb (6 : Int32) vs.length) ((by first | exact (own_ib hleu (by decide) (by decide)) | exact own_ibs (own_ib hleu (by decide) (by decide)) | exact own_ibs (own_ibs (own_ib hleu (by decide) (by decide)))) : own_Inb (7 : Int32) us.length) ((by first | exact (own_ib hleu (by decide) (by decide)) | exact own_ibs (own_ib hleu (by decide) (by decide)) | exact own_ibs (own_ibs (own_ib hleu (by decide) (by decide)))) : own_Inb (6 : Int32) us.length)) hZ (own_w hw 61 rfl) (own_w hw 12 rfl) (by decide) (by decide)) (g := (mkF m 159 #[rv a1, iv 4, iv 6, iv lst, iv 7, .unset, .unset, .unset, .unset, .unset, .unset, .unset, .unset, .unset, .unset, .unset, .unset, .unset, .unset, .unset, .unset, .unset, .unset, .unset, .unset] [(.int 6), (.int 7), (.ref a1)])) rfl (by rw [hml]; rfl) (Steps.refl _) (a := a1) (by rw [e22]; exact q30) q30' (argsL := [(.int 7), (.int 6)]) (rest := []) (lenOf pd_13_u_1 rfl) rfl (own_wl rfl) (hb hby d13_159) (fun _ _ => ⟨rfl, e22, (by decide : 0 + 0 ≤ _), (by decide : 0 + 0 ≤ _)⟩)
            dsimp only [Pt.U, Pt.locs, Pt.cells, Pt.slots] at X30 l30 y30 z30 st30 hQ30
            subst y30 z30
            obtain ⟨rfl, N30q, e30⟩ := hQ30
            have N30 : Fr n0 L30 := by rw [l30]; exact Fr.app N22 N30q
            refine own_step (fun t k => st30.trans k) ?_
            by_cases hc31 : (own_f17 (vs.getD 7 0) (us.getD 7 0) (vs.getD 6 0) (us.getD 6 0)) = (0 : Int32)
            · skip
              refine own_step (fun t k => XS.ifYes X30.here hx rfl (pc0 := 162) (pc' := 168) rfl (hb hby d13_162) rfl ((if0 _ _).trans (teq hc31).1) (by decide) (by decide) k) ?_
              clear N22 N22q N30q N6 X22 X6 e22 e6 q22 q22' q30 q30' st22 st30
              show own_G p.tables e below _ (T30.setTop (mkF m 168 #[rv a1, iv 4, iv 6, iv lst, iv 7, .unset, .unset, .unset, .unset, .unset, .unset, .unset, .unset, .unset, .unset, .unset, .unset, .unset, .unset, .unset, .unset, .unset, .unset, .unset, .unset] []))
              refine own_step (fun t k => XS.iinc X30.here hx rfl (hb hby d13_168) rfl (l' := #[rv a1, iv 4, iv 6, iv lst, iv 8, .unset, .unset, .unset, .unset, .unset, .unset, .unset, .unset, .unset, .unset, .unset, .unset, .unset, .unset, .unset, .unset, .unset, .unset, .unset, .unset]) rfl k) ?_
              refine own_go X30.here hx rfl (pc0 := 171) (pc' := 149) rfl (hb hby d13_171) (by decide) (by decide) ?_
              refine own_ix X30.here hx rfl (hb hby d13_149) rfl ?_
              refine own_il X30.here hx rfl (hb hby d13_151) rfl ?_
              have hk32 : ¬ ((8 : Int32) < lst) := (own_lst hd_lst hen8)
              refine own_step (fun t k => XS.icmpYes X30.here hx rfl (pc0 := 152) (pc' := 174) rfl (hb hby d13_152) rfl ((flt hk32).2.1) (by decide) (by decide) k) ?_
              show own_G p.tables e below _ (T30.setTop (mkF m 174 #[rv a1, iv 4, iv 6, iv lst, iv 8, .unset, .unset, .unset, .unset, .unset, .unset, .unset, .unset, .unset, .unset, .unset, .unset, .unset, .unset, .unset, .unset, .unset, .unset, .unset, .unset] []))
              refine own_il X30.here hx rfl (hb hby d13_174) rfl ?_
              obtain ⟨fs, hr, hrun, hended, hW, hsame⟩ := X30.leave (v := some (.int (6 : Int32))) (fun h => by rw [Bd.returns] at h; cases h)
              refine own_done (retI X30 hx Bd.returns (hb hby d13_175) hr) hrun hended ⟨_, _, rfl, ?_, ⟨_, rfl⟩, hW, hsame.mono (by decide) (by decide)⟩
              show Q13_u Z a1 ky nd en vs us h0 n0 _ T30.heap _
              rw [e30]
              exact ⟨congrArg (fun z => some (Value.int z)) (show (6 : Int32) = (own_f13_u en vs us) from by subst hd_lst; unfold own_f13_u; simp only [if_pos hc5, if_neg hc7, if_pos hc21, if_neg hc23, if_pos hc29, if_pos hc31]), N30, rfl⟩
            · skip
              refine own_step (fun t k => XS.ifNo X30.here hx rfl (hb hby d13_162) rfl ((if0 _ _).trans (feq hc31).1) k) ?_
              clear N22 N22q N30q N6 X22 X6 e22 e6 q22 q22' q30 q30' st22 st30
              show own_G p.tables e below _ (T30.setTop (mkF m 165 #[rv a1, iv 4, iv 6, iv lst, iv 7, .unset, .unset, .unset, .unset, .unset, .unset, .unset, .unset, .unset, .unset, .unset, .unset, .unset, .unset, .unset, .unset, .unset, .unset, .unset, .unset] []))
              refine own_ix X30.here hx rfl (hb hby d13_165) rfl ?_
              refine own_step (fun t k => XS.istoreN X30.here hx rfl (hb hby d13_167) rfl (l' := #[rv a1, iv 4, iv 7, iv lst, iv 7, .unset, .unset, .unset, .unset, .unset, .unset, .unset, .unset, .unset, .unset, .unset, .unset, .unset, .unset, .unset, .unset, .unset, .unset, .unset, .unset]) rfl k) ?_
              refine own_step (fun t k => XS.iinc X30.here hx rfl (hb hby d13_168) rfl (l' := #[rv a1, iv 4, iv 7, iv lst, iv 8, .unset, .unset, .unset, .unset, .unset, .unset, .unset, .unset, .unset, .unset, .unset, .unset, .unset, .unset, .unset, .unset, .unset, .unset, .unset, .unset]) rfl k) ?_
              refine own_go X30.here hx rfl (pc0 := 171) (pc' := 149) rfl (hb hby d13_171) (by decide) (by decide) ?_
              refine own_ix X30.here hx rfl (hb hby d13_149) rfl ?_
              refine own_il X30.here hx rfl (hb hby d13_151) rfl ?_
              have hk33 : ¬ ((8 : Int32) < lst) := (own_lst hd_lst hen8)
              refine own_step (fun t k => XS.icmpYes X30.here hx rfl (pc0 := 152) (pc' := 174) rfl (hb hby d13_152) rfl ((flt hk33).2.1) (by decide) (by decide) k) ?_
              show own_G p.tables e below _ (T30.setTop (mkF m 174 #[rv a1, iv 4, iv 7, iv lst, iv 8, .unset, .unset, .unset, .unset, .unset, .unset, .unset, .unset, .unset, .unset, .unset, .unset, .unset, .unset, .unset, .unset, .unset, .unset, .unset, .unset] []))
              refine own_il X30.here hx rfl (hb hby d13_174) rfl ?_
              obtain ⟨fs, hr, hrun, hended, hW, hsame⟩ := X30.leave (v := some (.int (7 : Int32))) (fun h => by rw [Bd.returns] at h; cases h)
              refine own_done (retI X30 hx Bd.returns (hb hby d13_175) hr) hrun hended ⟨_, _, rfl, ?_, ⟨_, rfl⟩, hW, hsame.mono (by decide) (by decide)⟩
              show Q13_u Z a1 ky nd en vs us h0 n0 _ T30.heap _
              rw [e30]
              exact ⟨congrArg (fun z => some (Value.int z)) (show (7 : Int32) = (own_f13_u en vs us) from by subst hd_lst; unfold own_f13_u; simp only [if_pos hc5, if_neg hc7, if_pos hc21, if_neg hc23, if_pos hc29, if_neg hc31]), N30, rfl⟩
          · skip
            refine own_step (fun t k => XS.icmpYes X22.here hx rfl (pc0 := 152) (pc' := 174) rfl (hb hby d13_152) rfl ((flt hc29).2.1) (by decide) (by decide) k) ?_
            show own_G p.tables e below _ (T22.setTop (mkF m 174 #[rv a1, iv 4, iv 6, iv lst, iv 7, .unset, .unset, .unset, .unset, .unset, .unset, .unset, .unset, .unset, .unset, .unset, .unset, .unset, .unset, .unset, .unset, .unset, .unset, .unset, .unset] []))
            refine own_il X22.here hx rfl (hb hby d13_174) rfl ?_
            obtain ⟨fs, hr, hrun, hended, hW, hsame⟩ := X22.leave (v := some (.int (6 : Int32))) (fun h => by rw [Bd.returns] at h; cases h)
            refine own_done (retI X22 hx Bd.returns (hb hby d13_175) hr) hrun hended ⟨_, _, rfl, ?_, ⟨_, rfl⟩, hW, hsame.mono (by decide) (by decide)⟩
            show Q13_u Z a1 ky nd en vs us h0 n0 _ T22.heap _
            rw [e22]
            exact ⟨congrArg (fun z => some (Value.int z)) (show (6 : Int32) = (own_f13_u en vs us) from by subst hd_lst; unfold own_f13_u; simp only [if_pos hc5, if_neg hc7, if_pos hc21, if_neg hc23, if_neg hc29]), N22, rfl⟩
      · skip
        refine own_step (fun t k => XS.icmpYes X6.here hx rfl (pc0 := 152) (pc' := 174) rfl (hb hby d13_152) rfl ((flt hc21).2.1) (by decide) (by decide) k) ?_
        show own_G p.tables e below _ (T6.setTop (mkF m 174 #[rv a1, iv 4, iv 5, iv lst, iv 6, .unset, .unset, .unset, .unset, .unset, .unset, .unset, .unset, .unset, .unset, .unset, .unset, .unset, .unset, .unset, .unset, .unset, .unset, .unset, .unset] []))
        refine own_il X6.here hx rfl (hb hby d13_174) rfl ?_
        obtain ⟨fs, hr, hrun, hended, hW, hsame⟩ := X6.leave (v := some (.int (5 : Int32))) (fun h => by rw [Bd.returns] at h; cases h)
        refine own_done (retI X6 hx Bd.returns (hb hby d13_175) hr) hrun hended ⟨_, _, rfl, ?_, ⟨_, rfl⟩, hW, hsame.mono (by decide) (by decide)⟩
        show Q13_u Z a1 ky nd en vs us h0 n0 _ T6.heap _
        rw [e6]
        exact ⟨congrArg (fun z => some (Value.int z)) (show (5 : Int32) = (own_f13_u en vs us) from by subst hd_lst; unfold own_f13_u; simp only [if_pos hc5, if_neg hc7, if_neg hc21]), N6, rfl⟩
  · skip
    refine own_step (fun t k => XS.icmpYes X3.here hx rfl (pc0 := 152) (pc' := 174) rfl (hb hby d13_152) rfl ((flt hc5).2.1) (by decide) (by decide) k) ?_
    show own_G p.tables e below _ (T3.setTop (mkF m 174 #[rv a1, iv 4, iv 4, iv lst, iv 5, .unset, .unset, .unset, .unset, .unset, .unset, .unset, .unset, .unset, .unset, .unset, .unset, .unset, .unset, .unset, .unset, .unset, .unset, .unset, .unset] []))
    refine own_il X3.here hx rfl (hb hby d13_174) rfl ?_
    obtain ⟨fs, hr, hrun, hended, hW, hsame⟩ := X3.leave (v := some (.int (4 : Int32))) (fun h => by rw [Bd.returns] at h; cases h)
    refine own_done (retI X3 hx Bd.returns (hb hby d13_175) hr) hrun hended ⟨_, _, rfl, ?_, ⟨_, rfl⟩, hW, hsame.mono (by decide) (by decide)⟩
    show Q13_u Z a1 ky nd en vs us h0 n0 _ T3.heap _
    rw [e3]
    exact ⟨congrArg (fun z => some (Value.int z)) (show (4 : Int32) = (own_f13_u en vs us) from by subst hd_lst; unfold own_f13_u; simp only [if_neg hc5]), N3, rfl⟩
theorem pn_11_u : plainName "com/example/leafcode/leafcode/FourWayHeap" = true := by first | (simp [plainName, overriddenIn]; done) | decide +kernel
theorem pd_11_u_0 : parseMethodDescriptor "(I)I" = some ⟨[.int], some .int⟩ := by decide +kernel
theorem pd_11_u_1 : parseMethodDescriptor "(II)V" = some ⟨[.int, .int], none⟩ := by decide +kernel
theorem pd_11_u_2 : parseMethodDescriptor "(II)Z" = some ⟨[.int, .int], some .boolean⟩ := by decide +kernel
theorem ef_11_u (m : MethodId) (a1 : Addr) : entryFrame m #[(.ref a1), (.int (3 : Int32))] 5 = mkF m 0 #[rv a1, iv (3 : Int32), .unset, .unset, .unset] [] := by first | (simp [entryFrame, mkF, argsToLocals, Value.category]; done) | rfl
def Q11_u (Z : State) (a1 : Addr) (ky : Addr) (nd : Addr) (en : Int32) (vs : List Int64) (us : List Int32) (h0 : Heap) (n0 : Nat) (v : Option Value) (h : Heap) (L : List Loc) : Prop := ∃ (L_nd : List Int32) (L_ky : List Int64), v = none ∧ Fr n0 L ∧ Keep h0 h [nd, ky] ∧ own_Ari Z h nd .int L_nd ∧ own_Arj Z h ky L_ky ∧ (True) ∧ (L_ky.length = vs.length ∧ (L_ky.getD 3 0).toInt = min (vs.getD 0 0).toInt (own_sel (own_f13_u en vs us) (vs.getD 4 0) (vs.getD 5 0) (vs.getD 6 0) (vs.getD 7 0)).toInt)
set_option maxRecDepth 65536 in
set_option maxHeartbeats 40000000 in
theorem rm11_u (l : Launch) (Z : State) (a0 : Array Value) (hw : ∀ d ∈ tables_1, d.before a0 Z = true) (ws : List Jvm.Cond) (a1 : Addr) (ky : Addr) (nd : Addr) (en : Int32) (vs : List Int64) (us : List Int32) (h0 : Heap) (n0 : Nat) (Z0 : n0 ≤ h0.size) (fp0 : Exa Z h0 a1 own_C) (fp1 : Fld Z h0 a1 own_C "keys" "[J" (.ref ky)) (fp2 : Fld Z h0 a1 own_C "end" "I" (.int en)) (fp3 : Fld Z h0 a1 own_C "nodes" "[I" (.ref nd)) (fp4 : own_Arj Z h0 ky vs) (fp5 : own_Ari Z h0 nd .int us) (hen4 : (4 : Int32) < en) (hen8 : ¬ (8 : Int32) < en) (hlen : 8 ≤ vs.length) (hleu : 8 ≤ us.length) (g_ky : n0 ≤ ky) (ne_a1_ky : a1 ≠ ky) (ne_nd_ky : nd ≠ ky) (g_nd : n0 ≤ nd) (ne_a1_nd : a1 ≠ nd) :
    MetFree l (⟨"com/example/leafcode/leafcode/FourWayHeap", "fill", "(I)V"⟩ : MethodName) (head1 (Jvm.Cond.code (⟨"com/example/leafcode/leafcode/FourWayHeap", "fill", "(I)V"⟩ : MethodName) prog_20_method_11_code 5 none :: ws) ({ frames := 3, cells := 0, slots := 0, locals := 67 } : Room)) (fun a U => a = #[(.ref a1), (.int (3 : Int32))] ∧ Z.Warmed39 U.vm ∧ U.heap = h0) (fun _ _ _ _ _ => True) (fun _ U o U' => ∃ v L, o = .returned v ∧ Q11_u Z a1 ky nd en vs us h0 n0 v U'.heap L ∧ FrameEnd U o U' L ({ frames := 3, cells := 0, slots := 0, locals := 67 } : Room).cells ({ frames := 3, cells := 0, slots := 0, locals := 67 } : Room).slots) := by
  refine MetFree.of_bodySF (plainFor_of_name pn_11_u) hisR ?_
  intro p e s m args below meth c s₁ Bd hml0 hP hK
  obtain ⟨rfl, hZ, hh⟩ := hP
  have hx := Bd.exec
  have hby := Bd.bytes
  have hml : c.maxLocals = 5 := hml0
  have hown : s.vm.findClass "com/example/leafcode/leafcode/FourWayHeap" = some m.cls := findClass_of_methodNamed Bd.named
  have hnm := (name_of_methodNamed Bd.named Bd.method).1
  have X0 : Stand p l e ({ frames := 3, cells := 0, slots := 0, locals := 67 } : Room) s m #[(.ref a1), (.int (3 : Int32))] below meth c s₁ [] 0 0 := Stand.of_body Bd
  have e0 : s₁.heap = h0 := by rw [← hh, Bd.state]; rfl
  have N0 := Fr.nil n0
  refine own_start (fun t k => castTop (ef_11_u m a1) k) ?_
  show own_G p.tables e below _ (s₁.setTop (mkF m 0 #[rv a1, iv 3, .unset, .unset, .unset] []))
  refine own_il X0.here hx rfl (hb hby d11_0) rfl ?_
  refine own_step (fun t k => XS.istoreN X0.here hx rfl (hb hby d11_1) rfl (l' := #[rv a1, iv 3, iv 3, .unset, .unset]) rfl k) ?_
  refine own_il X0.here hx rfl (hb hby d11_2) rfl ?_
  obtain ⟨_, _, ⟨T1, L1, k1, n1⟩, -, X1, ⟨Lc1, hQ1, l1, y1, z1⟩, st1⟩ := Jvm.LawKit.callS X0 hx (y := own_y12) hown (mvT hZ (own_w hw 51 rfl)) (mvT hZ (own_w hw 52 rfl)) (mvT hZ (own_w hw 12 rfl)) (mvT hZ (own_w hw 53 rfl)) (by decide) (backOf (W := 0) (rm12 l Z a0 hw [] (3 : Int32) h0 n0 (Nat.le_trans Z0 (Keep.refl h0 [nd, ky]).1) ) hZ (own_w hw 53 rfl) (own_w hw 12 rfl) (by decide) (by decide)) (g := (mkF m 3 #[rv a1, iv 3, iv 3, .unset, .unset] [(.int 3)])) rfl (by rw [hml]; rfl) (argsL := [(.int 3)]) (rest := []) (lenOf pd_11_u_0 rfl) rfl (own_wl rfl) (hb hby d11_3) (fun _ _ => ⟨rfl, e0, (by decide : 0 + 0 ≤ _), (by decide : 0 + 0 ≤ _)⟩)
  dsimp only [Pt.U, Pt.locs, Pt.cells, Pt.slots] at X1 l1 y1 z1 st1 hQ1
  subst y1 z1
  obtain ⟨rfl, N1q, e1⟩ := hQ1
  have N1 : Fr n0 L1 := by rw [l1]; exact Fr.app N0 N1q
  refine own_step st1 ?_
  show own_G p.tables e below _ (T1.setTop (mkF m 6 #[rv a1, iv 3, iv 3, .unset, .unset] [(.int 4)]))
  refine own_step (fun t k => XS.istoreN X1.here hx rfl (hb hby d11_6) rfl (l' := #[rv a1, iv 3, iv 3, iv 4, .unset]) rfl k) ?_
  refine own_il X1.here hx rfl (hb hby d11_7) rfl ?_
  refine own_al X1.here hx rfl (hb hby d11_8) rfl rfl ?_
  obtain ⟨T2, X2, e2, st2⟩ := getF X1 hx hZ hown (host := "") (Or.inl (own_w hw 19 rfl)) Via.refl e1 fp2 (g := (mkF m 9 #[rv a1, iv 3, iv 3, iv 4, .unset] [(.ref a1), (.int 4)])) rfl rfl (hb hby d11_9)
  refine own_step st2 ?_
  have hk3 : (4 : Int32) < en := hen4
  refine own_step (fun t k => XS.icmpYes X2.here hx rfl (pc0 := 12) (pc' := 18) rfl (hb hby d11_12) rfl ((tlt hk3).1) (by decide) (by decide) k) ?_
  show own_G p.tables e below _ (T2.setTop (mkF m 18 #[rv a1, iv 3, iv 3, iv 4, .unset] []))
  refine own_al X2.here hx rfl (hb hby d11_18) rfl rfl ?_
  refine own_il X2.here hx rfl (hb hby d11_19) rfl ?_
  obtain ⟨cq4, q4, q4'⟩ := fp0.cell
  obtain ⟨_, _, ⟨T4, L4, k4, n4⟩, -, X4, ⟨Lc4, hQ4, l4, y4, z4⟩, st4⟩ := X2.privateBack hx (y := own_y13) hown (mvT hZ (own_w hw 54 rfl)) (mvT hZ (own_w hw 55 rfl)) (mvT hZ (own_sp13 hw)) (Cond.privateMethod_at (mvP hZ (own_w hw 56 rfl) (args := #[]))) (mvT hZ (own_w hw 57 rfl)) (by decide) (backOf (W := 0) (rm13_u l Z a0 hw [] a1 ky nd en vs us h0 n0 (Nat.le_trans Z0 (Keep.refl h0 [nd, ky]).1) fp0 fp1 fp2 fp3 fp4 fp5 (hen4 : (4 : Int32) < en) (hen8 : ¬ (8 : Int32) < en) (hlen : 8 ≤ vs.length) (hleu : 8 ≤ us.length)) hZ (own_w hw 57 rfl) (own_w hw 12 rfl) (by decide) (by decide)) (g := (mkF m 20 #[rv a1, iv 3, iv 3, iv 4, .unset] [(.int 4), (.ref a1)])) rfl (by rw [hml]; rfl) (Steps.refl _) (a := a1) (by rw [e2]; exact q4) q4' (argsL := [(.int 4)]) (rest := []) (lenOf pd_11_u_0 rfl) rfl (own_wl rfl) (hb hby d11_20) (fun _ _ => ⟨rfl, e2, (by decide : 0 + 0 ≤ _), (by decide : 0 + 0 ≤ _)⟩)
  dsimp only [Pt.U, Pt.locs, Pt.cells, Pt.slots] at X4 l4 y4 z4 st4 hQ4
  subst y4 z4
  obtain ⟨rfl, N4q, e4⟩ := hQ4
  have N4 : Fr n0 L4 := by rw [l4]; exact Fr.app N1 N4q
  refine own_step (fun t k => st4.trans k) ?_
  refine own_nm ((own_f13_u en vs us) : Int32) (fun chd => T4.setTop (mkF m 23 #[rv a1, iv 3, iv 3, iv 4, .unset] [(.int chd)])) ?_
  intro chd hd_chd
  clear N1 N1q N4q X1 X2 e1 e2 hk3 q4 q4' st1 st2 st4
  show own_G p.tables e below _ (T4.setTop (mkF m 23 #[rv a1, iv 3, iv 3, iv 4, .unset] [(.int chd)]))
  refine own_step (fun t k => XS.istore X4.here hx rfl (hb hby d11_23) rfl (l' := #[rv a1, iv 3, iv 3, iv 4, iv chd]) rfl k) ?_
  have hch := own_lcu4 hd_chd
  refine own_al X4.here hx rfl (hb hby d11_25) rfl rfl ?_
  refine own_ix X4.here hx rfl (hb hby d11_26) rfl ?_
  refine own_il X4.here hx rfl (hb hby d11_28) rfl ?_
  obtain ⟨cq6, q6, q6'⟩ := fp0.cell
  obtain ⟨_, _, ⟨T6, L6, k6, n6⟩, -, X6, ⟨Lc6, hQ6, l6, y6, z6⟩, st6⟩ := X4.privateBack hx (y := own_y10) hown (mvT hZ (own_w hw 41 rfl)) (mvT hZ (own_w hw 42 rfl)) (mvT hZ (own_sp10 hw)) (Cond.privateMethod_at (mvP hZ (own_w hw 43 rfl) (args := #[]))) (mvT hZ (own_w hw 44 rfl)) (by decide) (backOf (W := 0) (rm10_u l Z a0 hw [] a1 chd (3 : Int32) ky nd vs us h0 n0 (Nat.le_trans Z0 (Keep.refl h0 [nd, ky]).1) fp1 fp3 fp4 fp5 ((by first | exact (own_ich hlen hch) | exact own_ibs (own_ich hlen hch) | exact own_ibs (own_ibs (own_ich hlen hch))) : own_Inb chd vs.length) ((by first | exact (own_ib hlen (by decide) (by decide)) | exact own_ibs (own_ib hlen (by decide) (by decide)) | exact own_ibs (own_ibs (own_ib hlen (by decide) (by decide)))) : own_Inb (3 : Int32) vs.length) ((by first | exact (own_ich hleu hch) | exact own_ibs (own_ich hleu hch) | exact own_ibs (own_ibs (own_ich hleu hch))) : own_Inb chd us.length) ((by first | exact (own_ib hleu (by decide) (by decide)) | exact own_ibs (own_ib hleu (by decide) (by decide)) | exact own_ibs (own_ibs (own_ib hleu (by decide) (by decide)))) : own_Inb (3 : Int32) us.length) g_ky ne_a1_ky ne_nd_ky g_nd ne_a1_nd) hZ (own_w hw 44 rfl) (own_w hw 12 rfl) (by decide) (by decide)) (g := (mkF m 29 #[rv a1, iv 3, iv 3, iv 4, iv chd] [(.int 3), (.int chd), (.ref a1)])) rfl (by rw [hml]; rfl) (Steps.refl _) (a := a1) (by rw [e4]; exact q6) q6' (argsL := [(.int chd), (.int 3)]) (rest := []) (lenOf pd_11_u_1 rfl) rfl (own_wl rfl) (hb hby d11_29) (fun _ _ => ⟨rfl, e4, (by decide : 0 + 0 ≤ _), (by decide : 0 + 0 ≤ _)⟩)
  dsimp only [Pt.U, Pt.locs, Pt.cells, Pt.slots] at X6 l6 y6 z6 st6 hQ6
  subst y6 z6
  obtain ⟨rfl, N6q, K6q, w6_0, w6_1⟩ := hQ6
  have c7 : Exa Z T6.heap a1 own_C := fp0.keep K6q
  have c8 : Fld Z T6.heap a1 own_C "keys" "[J" (.ref ky) := fp1.keep K6q (ninS ne_a1_ky (ninS ne_a1_nd nin0))
  have c9 : Fld Z T6.heap a1 own_C "end" "I" (.int en) := fp2.keep K6q (ninS ne_a1_ky (ninS ne_a1_nd nin0))
  have c10 : Fld Z T6.heap a1 own_C "nodes" "[I" (.ref nd) := fp3.keep K6q (ninS ne_a1_ky (ninS ne_a1_nd nin0))
  have K6 : Keep h0 T6.heap [nd, ky] := (Keep.refl h0 [nd, ky]).trans K6q (allS (Or.inl (List.mem_of_getElem? (i := 1) rfl)) (allS (Or.inl (List.mem_of_getElem? (i := 0) rfl)) all0))
  have c13 : own_Arj Z T6.heap ky (vs.set 3 (vs.getD chd.toNatClampNeg 0)) := w6_0
  have c14 : own_Ari Z T6.heap nd .int (us.set 3 (us.getD chd.toNatClampNeg 0)) := w6_1
  have N6 : Fr n0 L6 := by rw [l6]; exact Fr.app N4 N6q
  refine own_step (fun t k => st6.trans k) ?_
  refine own_ix X6.here hx rfl (hb hby d11_32) rfl ?_
  refine own_step (fun t k => XS.istoreN X6.here hx rfl (hb hby d11_34) rfl (l' := #[rv a1, iv chd, iv 3, iv 4, iv chd]) rfl k) ?_
  clear K6q N4 N6q X4 e4 q6 q6' st6 w6_0 w6_1
  show own_G p.tables e below _ (T6.setTop (mkF m 35 #[rv a1, iv chd, iv 3, iv 4, iv chd] []))
  refine own_go X6.here hx rfl (pc0 := 35) (pc' := 2) rfl (hb hby d11_35) (by decide) (by decide) ?_
  refine own_il X6.here hx rfl (hb hby d11_2) rfl ?_
  obtain ⟨_, _, ⟨T15, L15, k15, n15⟩, -, X15, ⟨Lc15, hQ15, l15, y15, z15⟩, st15⟩ := Jvm.LawKit.callS X6 hx (y := own_y12) hown (mvT hZ (own_w hw 51 rfl)) (mvT hZ (own_w hw 52 rfl)) (mvT hZ (own_w hw 12 rfl)) (mvT hZ (own_w hw 53 rfl)) (by decide) (backOf (W := 0) (rm12 l Z a0 hw [] chd T6.heap n0 (Nat.le_trans Z0 K6.1) ) hZ (own_w hw 53 rfl) (own_w hw 12 rfl) (by decide) (by decide)) (g := (mkF m 3 #[rv a1, iv chd, iv 3, iv 4, iv chd] [(.int chd)])) rfl (by rw [hml]; rfl) (argsL := [(.int chd)]) (rest := []) (lenOf pd_11_u_0 rfl) rfl (own_wl rfl) (hb hby d11_3) (fun _ _ => ⟨rfl, rfl, (by decide : 0 + 0 ≤ _), (by decide : 0 + 0 ≤ _)⟩)
  dsimp only [Pt.U, Pt.locs, Pt.cells, Pt.slots] at X15 l15 y15 z15 st15 hQ15
  subst y15 z15
  obtain ⟨rfl, N15q, e15⟩ := hQ15
  have N15 : Fr n0 L15 := by rw [l15]; exact Fr.app N6 N15q
  refine own_step st15 ?_
  refine own_step (fun t k => XS.istoreN X15.here hx rfl (hb hby d11_6) rfl (l' := #[rv a1, iv chd, iv 3, iv (own_fc chd), iv chd]) rfl k) ?_
  refine own_il X15.here hx rfl (hb hby d11_7) rfl ?_
  refine own_al X15.here hx rfl (hb hby d11_8) rfl rfl ?_
  obtain ⟨T16, X16, e16, st16⟩ := getF X15 hx hZ hown (host := "") (Or.inl (own_w hw 19 rfl)) Via.refl e15 c9 (g := (mkF m 9 #[rv a1, iv chd, iv 3, iv (own_fc chd), iv chd] [(.ref a1), (.int (own_fc chd))])) rfl rfl (hb hby d11_9)
  refine own_step st16 ?_
  show own_G p.tables e below _ (T16.setTop (mkF m 12 #[rv a1, iv chd, iv 3, iv (own_fc chd), iv chd] [(.int en), (.int (own_fc chd))]))
  have hk17 : ¬ ((own_fc chd) < en) := own_fcn hch hen8
  refine own_step (fun t k => XS.icmpNo X16.here hx rfl (hb hby d11_12) rfl ((flt hk17).1) k) ?_
  show own_G p.tables e below _ (T16.setTop (mkF m 15 #[rv a1, iv chd, iv 3, iv (own_fc chd), iv chd] []))
  refine own_go X16.here hx rfl (pc0 := 15) (pc' := 38) rfl (hb hby d11_15) (by decide) (by decide) ?_
  refine own_il X16.here hx rfl (hb hby d11_38) rfl ?_
  refine own_il X16.here hx rfl (hb hby d11_39) rfl ?_
  have hk18 : (3 : Int32) < chd := own_ch3 hch
  refine own_step (fun t k => XS.icmpNo X16.here hx rfl (hb hby d11_40) rfl ((tlt hk18).2.2.2) k) ?_
  show own_G p.tables e below _ (T16.setTop (mkF m 43 #[rv a1, iv chd, iv 3, iv (own_fc chd), iv chd] []))
  refine own_il X16.here hx rfl (hb hby d11_43) rfl ?_
  obtain ⟨_, _, ⟨T19, L19, k19, n19⟩, -, X19, ⟨Lc19, hQ19, l19, y19, z19⟩, st19⟩ := Jvm.LawKit.callS X16 hx (y := own_y9) hown (mvT hZ (own_w hw 38 rfl)) (mvT hZ (own_w hw 39 rfl)) (mvT hZ (own_w hw 12 rfl)) (mvT hZ (own_w hw 40 rfl)) (by decide) (backOf (W := 0) (rm9 l Z a0 hw [] chd T6.heap n0 (Nat.le_trans Z0 K6.1) ) hZ (own_w hw 40 rfl) (own_w hw 12 rfl) (by decide) (by decide)) (g := (mkF m 44 #[rv a1, iv chd, iv 3, iv (own_fc chd), iv chd] [(.int chd)])) rfl (by rw [hml]; rfl) (argsL := [(.int chd)]) (rest := []) (lenOf pd_11_u_0 rfl) rfl (own_wl rfl) (hb hby d11_44) (fun _ _ => ⟨rfl, e16, (by decide : 0 + 0 ≤ _), (by decide : 0 + 0 ≤ _)⟩)
  dsimp only [Pt.U, Pt.locs, Pt.cells, Pt.slots] at X19 l19 y19 z19 st19 hQ19
  subst y19 z19
  obtain ⟨rfl, N19q, e19⟩ := hQ19
  have N19 : Fr n0 L19 := by rw [l19]; exact Fr.app N15 N19q
  refine own_step st19 ?_
  clear N15 N15q N19q N6 X15 X16 X6 e15 e16 hk17 hk18 st15 st16 st19
  show own_G p.tables e below _ (T19.setTop (mkF m 47 #[rv a1, iv chd, iv 3, iv (own_fc chd), iv chd] [(.int (own_par chd))]))
  rw [own_par3 hch]
  show own_G p.tables e below _ (T19.setTop (mkF m 47 #[rv a1, iv chd, iv 3, iv (own_fc chd), iv chd] [(.int 3)]))
  refine own_step (fun t k => XS.istoreN X19.here hx rfl (hb hby d11_47) rfl (l' := #[rv a1, iv chd, iv 3, iv 3, iv chd]) rfl k) ?_
  refine own_al X19.here hx rfl (hb hby d11_48) rfl rfl ?_
  refine own_ic X19.here hx rfl (hb hby d11_49) ?_
  refine own_il X19.here hx rfl (hb hby d11_50) rfl ?_
  obtain ⟨cq20, q20, q20'⟩ := c7.cell
  obtain ⟨_, _, ⟨T20, L20, k20, n20⟩, -, X20, ⟨Lc20, hQ20, l20, y20, z20⟩, st20⟩ := X19.privateBack hx (y := own_y14) hown (mvT hZ (own_w hw 58 rfl)) (mvT hZ (own_w hw 59 rfl)) (mvT hZ (own_sp14 hw)) (Cond.privateMethod_at (mvP hZ (own_w hw 60 rfl) (args := #[]))) (mvT hZ (own_w hw 61 rfl)) (by decide) (backOf (W := 0) (rm14_u l Z a0 hw [] a1 (0 : Int32) (3 : Int32) ky nd (vs.set 3 (vs.getD chd.toNatClampNeg 0)) (us.set 3 (us.getD chd.toNatClampNeg 0)) T6.heap n0 (Nat.le_trans Z0 K6.1) c8 c10 c13 c14 ((by first | exact (own_ib hlen (by decide) (by decide)) | exact own_ibs (own_ib hlen (by decide) (by decide)) | exact own_ibs (own_ibs (own_ib hlen (by decide) (by decide)))) : own_Inb (0 : Int32) (vs.set 3 (vs.getD chd.toNatClampNeg 0)).length) ((by first | exact (own_ib hlen (by decide) (by decide)) | exact own_ibs (own_ib hlen (by decide) (by decide)) | exact own_ibs (own_ibs (own_ib hlen (by decide) (by decide)))) : own_Inb (3 : Int32) (vs.set 3 (vs.getD chd.toNatClampNeg 0)).length) ((by first | exact (own_ib hleu (by decide) (by decide)) | exact own_ibs (own_ib hleu (by decide) (by decide)) | exact own_ibs (own_ibs (own_ib hleu (by decide) (by decide)))) : own_Inb (0 : Int32) (us.set 3 (us.getD chd.toNatClampNeg 0)).length) ((by first | exact (own_ib hleu (by decide) (by decide)) | exact own_ibs (own_ib hleu (by decide) (by decide)) | exact own_ibs (own_ibs (own_ib hleu (by decide) (by decide)))) : own_Inb (3 : Int32) (us.set 3 (us.getD chd.toNatClampNeg 0)).length)) hZ (own_w hw 61 rfl) (own_w hw 12 rfl) (by decide) (by decide)) (g := (mkF m 51 #[rv a1, iv chd, iv 3, iv 3, iv chd] [(.int 3), (.int 0), (.ref a1)])) rfl (by rw [hml]; rfl) (Steps.refl _) (a := a1) (by rw [e19]; exact q20) q20' (argsL := [(.int 0), (.int 3)]) (rest := []) (lenOf pd_11_u_2 rfl) rfl (own_wl rfl) (hb hby d11_51) (fun _ _ => ⟨rfl, e19, (by decide : 0 + 0 ≤ _), (by decide : 0 + 0 ≤ _)⟩)
  dsimp only [Pt.U, Pt.locs, Pt.cells, Pt.slots] at X20 l20 y20 z20 st20 hQ20
  subst y20 z20
  obtain ⟨rfl, N20q, e20⟩ := hQ20
  have N20 : Fr n0 L20 := by rw [l20]; exact Fr.app N19 N20q
  refine own_step (fun t k => st20.trans k) ?_
  by_cases hc21 : (own_f17 ((vs.set 3 (vs.getD chd.toNatClampNeg 0)).getD 0 0) ((us.set 3 (us.getD chd.toNatClampNeg 0)).getD 0 0) ((vs.set 3 (vs.getD chd.toNatClampNeg 0)).getD 3 0) ((us.set 3 (us.getD chd.toNatClampNeg 0)).getD 3 0)) = (0 : Int32)
  · skip
    refine own_step (fun t k => XS.ifNo X20.here hx rfl (hb hby d11_54) rfl ((if0 _ _).trans (teq hc21).2) k) ?_
    show own_G p.tables e below _ (T20.setTop (mkF m 57 #[rv a1, iv chd, iv 3, iv 3, iv chd] []))
    refine own_go X20.here hx rfl (pc0 := 57) (pc' := 71) rfl (hb hby d11_57) (by decide) (by decide) ?_
    refine own_al X20.here hx rfl (hb hby d11_71) rfl rfl ?_
    refine own_ic X20.here hx rfl (hb hby d11_72) ?_
    refine own_il X20.here hx rfl (hb hby d11_73) rfl ?_
    obtain ⟨cq22, q22, q22'⟩ := c7.cell
    obtain ⟨_, _, ⟨T22, L22, k22, n22⟩, -, X22, ⟨Lc22, hQ22, l22, y22, z22⟩, st22⟩ := X20.privateBack hx (y := own_y10) hown (mvT hZ (own_w hw 41 rfl)) (mvT hZ (own_w hw 42 rfl)) (mvT hZ (own_sp10 hw)) (Cond.privateMethod_at (mvP hZ (own_w hw 43 rfl) (args := #[]))) (mvT hZ (own_w hw 44 rfl)) (by decide) (backOf (W := 0) (rm10_u l Z a0 hw [] a1 (0 : Int32) chd ky nd (vs.set 3 (vs.getD chd.toNatClampNeg 0)) (us.set 3 (us.getD chd.toNatClampNeg 0)) T6.heap n0 (Nat.le_trans Z0 K6.1) c8 c10 c13 c14 ((by first | exact (own_ib hlen (by decide) (by decide)) | exact own_ibs (own_ib hlen (by decide) (by decide)) | exact own_ibs (own_ibs (own_ib hlen (by decide) (by decide)))) : own_Inb (0 : Int32) (vs.set 3 (vs.getD chd.toNatClampNeg 0)).length) ((by first | exact (own_ich hlen hch) | exact own_ibs (own_ich hlen hch) | exact own_ibs (own_ibs (own_ich hlen hch))) : own_Inb chd (vs.set 3 (vs.getD chd.toNatClampNeg 0)).length) ((by first | exact (own_ib hleu (by decide) (by decide)) | exact own_ibs (own_ib hleu (by decide) (by decide)) | exact own_ibs (own_ibs (own_ib hleu (by decide) (by decide)))) : own_Inb (0 : Int32) (us.set 3 (us.getD chd.toNatClampNeg 0)).length) ((by first | exact (own_ich hleu hch) | exact own_ibs (own_ich hleu hch) | exact own_ibs (own_ibs (own_ich hleu hch))) : own_Inb chd (us.set 3 (us.getD chd.toNatClampNeg 0)).length) g_ky ne_a1_ky ne_nd_ky g_nd ne_a1_nd) hZ (own_w hw 44 rfl) (own_w hw 12 rfl) (by decide) (by decide)) (g := (mkF m 74 #[rv a1, iv chd, iv 3, iv 3, iv chd] [(.int chd), (.int 0), (.ref a1)])) rfl (by rw [hml]; rfl) (Steps.refl _) (a := a1) (by rw [e20]; exact q22) q22' (argsL := [(.int 0), (.int chd)]) (rest := []) (lenOf pd_11_u_1 rfl) rfl (own_wl rfl) (hb hby d11_74) (fun _ _ => ⟨rfl, e20, (by decide : 0 + 0 ≤ _), (by decide : 0 + 0 ≤ _)⟩)
    dsimp only [Pt.U, Pt.locs, Pt.cells, Pt.slots] at X22 l22 y22 z22 st22 hQ22
    subst y22 z22
    obtain ⟨rfl, N22q, K22q, w22_0, w22_1⟩ := hQ22
    have c23 : Exa Z T22.heap a1 own_C := c7.keep K22q
    have c24 : Fld Z T22.heap a1 own_C "keys" "[J" (.ref ky) := c8.keep K22q (ninS ne_a1_ky (ninS ne_a1_nd nin0))
    have c25 : Fld Z T22.heap a1 own_C "end" "I" (.int en) := c9.keep K22q (ninS ne_a1_ky (ninS ne_a1_nd nin0))
    have c26 : Fld Z T22.heap a1 own_C "nodes" "[I" (.ref nd) := c10.keep K22q (ninS ne_a1_ky (ninS ne_a1_nd nin0))
    have K22 : Keep h0 T22.heap [nd, ky] := K6.trans K22q (allS (Or.inl (List.mem_of_getElem? (i := 1) rfl)) (allS (Or.inl (List.mem_of_getElem? (i := 0) rfl)) all0))
    have c29 : own_Arj Z T22.heap ky ((vs.set 3 (vs.getD chd.toNatClampNeg 0)).set chd.toNatClampNeg ((vs.set 3 (vs.getD chd.toNatClampNeg 0)).getD 0 0)) := w22_0
    have c30 : own_Ari Z T22.heap nd .int ((us.set 3 (us.getD chd.toNatClampNeg 0)).set chd.toNatClampNeg ((us.set 3 (us.getD chd.toNatClampNeg 0)).getD 0 0)) := w22_1
    have N22 : Fr n0 L22 := by rw [l22]; exact Fr.app N20 N22q
    refine own_step (fun t k => st22.trans k) ?_
    obtain ⟨fs, hr, hrun, hended, hW, hsame⟩ := X22.leave (v := none) (fun _ => rfl)
    refine own_done (X22.returnOut hx Bd.returns (hb hby d11_77) hr) hrun hended ⟨_, _, rfl, ?_, ⟨_, rfl⟩, hW, hsame.mono (by decide) (by decide)⟩
    show Q11_u Z a1 ky nd en vs us h0 n0 _ T22.heap _
    exact ⟨_, _, rfl, N22, K22, c30, c29, (trivial), (own_pF hlen (own_ch4 hch) (by rw [← hd_chd]; exact own_selD hch) (own_17z hc21))⟩
  · skip
    refine own_step (fun t k => XS.ifYes X20.here hx rfl (pc0 := 54) (pc' := 60) rfl (hb hby d11_54) rfl ((if0 _ _).trans (feq hc21).2) (by decide) (by decide) k) ?_
    show own_G p.tables e below _ (T20.setTop (mkF m 60 #[rv a1, iv chd, iv 3, iv 3, iv chd] []))
    refine own_al X20.here hx rfl (hb hby d11_60) rfl rfl ?_
    refine own_il X20.here hx rfl (hb hby d11_61) rfl ?_
    refine own_il X20.here hx rfl (hb hby d11_62) rfl ?_
    obtain ⟨cq31, q31, q31'⟩ := c7.cell
    obtain ⟨_, _, ⟨T31, L31, k31, n31⟩, -, X31, ⟨Lc31, hQ31, l31, y31, z31⟩, st31⟩ := X20.privateBack hx (y := own_y10) hown (mvT hZ (own_w hw 41 rfl)) (mvT hZ (own_w hw 42 rfl)) (mvT hZ (own_sp10 hw)) (Cond.privateMethod_at (mvP hZ (own_w hw 43 rfl) (args := #[]))) (mvT hZ (own_w hw 44 rfl)) (by decide) (backOf (W := 0) (rm10_u l Z a0 hw [] a1 (3 : Int32) chd ky nd (vs.set 3 (vs.getD chd.toNatClampNeg 0)) (us.set 3 (us.getD chd.toNatClampNeg 0)) T6.heap n0 (Nat.le_trans Z0 K6.1) c8 c10 c13 c14 ((by first | exact (own_ib hlen (by decide) (by decide)) | exact own_ibs (own_ib hlen (by decide) (by decide)) | exact own_ibs (own_ibs (own_ib hlen (by decide) (by decide)))) : own_Inb (3 : Int32) (vs.set 3 (vs.getD chd.toNatClampNeg 0)).length) ((by first | exact (own_ich hlen hch) | exact own_ibs (own_ich hlen hch) | exact own_ibs (own_ibs (own_ich hlen hch))) : own_Inb chd (vs.set 3 (vs.getD chd.toNatClampNeg 0)).length) ((by first | exact (own_ib hleu (by decide) (by decide)) | exact own_ibs (own_ib hleu (by decide) (by decide)) | exact own_ibs (own_ibs (own_ib hleu (by decide) (by decide)))) : own_Inb (3 : Int32) (us.set 3 (us.getD chd.toNatClampNeg 0)).length) ((by first | exact (own_ich hleu hch) | exact own_ibs (own_ich hleu hch) | exact own_ibs (own_ibs (own_ich hleu hch))) : own_Inb chd (us.set 3 (us.getD chd.toNatClampNeg 0)).length) g_ky ne_a1_ky ne_nd_ky g_nd ne_a1_nd) hZ (own_w hw 44 rfl) (own_w hw 12 rfl) (by decide) (by decide)) (g := (mkF m 63 #[rv a1, iv chd, iv 3, iv 3, iv chd] [(.int chd), (.int 3), (.ref a1)])) rfl (by rw [hml]; rfl) (Steps.refl _) (a := a1) (by rw [e20]; exact q31) q31' (argsL := [(.int 3), (.int chd)]) (rest := []) (lenOf pd_11_u_1 rfl) rfl (own_wl rfl) (hb hby d11_63) (fun _ _ => ⟨rfl, e20, (by decide : 0 + 0 ≤ _), (by decide : 0 + 0 ≤ _)⟩)
    dsimp only [Pt.U, Pt.locs, Pt.cells, Pt.slots] at X31 l31 y31 z31 st31 hQ31
    subst y31 z31
    obtain ⟨rfl, N31q, K31q, w31_0, w31_1⟩ := hQ31
    have c32 : Exa Z T31.heap a1 own_C := c7.keep K31q
    have c33 : Fld Z T31.heap a1 own_C "keys" "[J" (.ref ky) := c8.keep K31q (ninS ne_a1_ky (ninS ne_a1_nd nin0))
    have c34 : Fld Z T31.heap a1 own_C "end" "I" (.int en) := c9.keep K31q (ninS ne_a1_ky (ninS ne_a1_nd nin0))
    have c35 : Fld Z T31.heap a1 own_C "nodes" "[I" (.ref nd) := c10.keep K31q (ninS ne_a1_ky (ninS ne_a1_nd nin0))
    have K31 : Keep h0 T31.heap [nd, ky] := K6.trans K31q (allS (Or.inl (List.mem_of_getElem? (i := 1) rfl)) (allS (Or.inl (List.mem_of_getElem? (i := 0) rfl)) all0))
    have c38 : own_Arj Z T31.heap ky ((vs.set 3 (vs.getD chd.toNatClampNeg 0)).set chd.toNatClampNeg ((vs.set 3 (vs.getD chd.toNatClampNeg 0)).getD 3 0)) := w31_0
    have c39 : own_Ari Z T31.heap nd .int ((us.set 3 (us.getD chd.toNatClampNeg 0)).set chd.toNatClampNeg ((us.set 3 (us.getD chd.toNatClampNeg 0)).getD 3 0)) := w31_1
    have N31 : Fr n0 L31 := by rw [l31]; exact Fr.app N20 N31q
    refine own_step (fun t k => st31.trans k) ?_
    refine own_il X31.here hx rfl (hb hby d11_66) rfl ?_
    refine own_step (fun t k => XS.istoreN X31.here hx rfl (hb hby d11_67) rfl (l' := #[rv a1, iv 3, iv 3, iv 3, iv chd]) rfl k) ?_
    refine own_go X31.here hx rfl (pc0 := 68) (pc' := 38) rfl (hb hby d11_68) (by decide) (by decide) ?_
    clear K31q K6 N19 N20 N20q N31q X19 X20 c10 c13 c14 c7 c8 c9 e19 e20 q20 q20' q31 q31' st20 st31 w31_0 w31_1
    show own_G p.tables e below _ (T31.setTop (mkF m 38 #[rv a1, iv 3, iv 3, iv 3, iv chd] []))
    refine own_il X31.here hx rfl (hb hby d11_38) rfl ?_
    refine own_il X31.here hx rfl (hb hby d11_39) rfl ?_
    have hk40 : ¬ ((3 : Int32) < (3 : Int32)) := (by decide)
    refine own_step (fun t k => XS.icmpYes X31.here hx rfl (pc0 := 40) (pc' := 71) rfl (hb hby d11_40) rfl ((flt hk40).2.2.2) (by decide) (by decide) k) ?_
    show own_G p.tables e below _ (T31.setTop (mkF m 71 #[rv a1, iv 3, iv 3, iv 3, iv chd] []))
    refine own_al X31.here hx rfl (hb hby d11_71) rfl rfl ?_
    refine own_ic X31.here hx rfl (hb hby d11_72) ?_
    refine own_il X31.here hx rfl (hb hby d11_73) rfl ?_
    obtain ⟨cq41, q41, q41'⟩ := c32.cell
    obtain ⟨_, _, ⟨T41, L41, k41, n41⟩, -, X41, ⟨Lc41, hQ41, l41, y41, z41⟩, st41⟩ := X31.privateBack hx (y := own_y10) hown (mvT hZ (own_w hw 41 rfl)) (mvT hZ (own_w hw 42 rfl)) (mvT hZ (own_sp10 hw)) (Cond.privateMethod_at (mvP hZ (own_w hw 43 rfl) (args := #[]))) (mvT hZ (own_w hw 44 rfl)) (by decide) (backOf (W := 0) (rm10_u l Z a0 hw [] a1 (0 : Int32) (3 : Int32) ky nd ((vs.set 3 (vs.getD chd.toNatClampNeg 0)).set chd.toNatClampNeg ((vs.set 3 (vs.getD chd.toNatClampNeg 0)).getD 3 0)) ((us.set 3 (us.getD chd.toNatClampNeg 0)).set chd.toNatClampNeg ((us.set 3 (us.getD chd.toNatClampNeg 0)).getD 3 0)) T31.heap n0 (Nat.le_trans Z0 K31.1) c33 c35 c38 c39 ((by first | exact (own_ib hlen (by decide) (by decide)) | exact own_ibs (own_ib hlen (by decide) (by decide)) | exact own_ibs (own_ibs (own_ib hlen (by decide) (by decide)))) : own_Inb (0 : Int32) ((vs.set 3 (vs.getD chd.toNatClampNeg 0)).set chd.toNatClampNeg ((vs.set 3 (vs.getD chd.toNatClampNeg 0)).getD 3 0)).length) ((by first | exact (own_ib hlen (by decide) (by decide)) | exact own_ibs (own_ib hlen (by decide) (by decide)) | exact own_ibs (own_ibs (own_ib hlen (by decide) (by decide)))) : own_Inb (3 : Int32) ((vs.set 3 (vs.getD chd.toNatClampNeg 0)).set chd.toNatClampNeg ((vs.set 3 (vs.getD chd.toNatClampNeg 0)).getD 3 0)).length) ((by first | exact (own_ib hleu (by decide) (by decide)) | exact own_ibs (own_ib hleu (by decide) (by decide)) | exact own_ibs (own_ibs (own_ib hleu (by decide) (by decide)))) : own_Inb (0 : Int32) ((us.set 3 (us.getD chd.toNatClampNeg 0)).set chd.toNatClampNeg ((us.set 3 (us.getD chd.toNatClampNeg 0)).getD 3 0)).length) ((by first | exact (own_ib hleu (by decide) (by decide)) | exact own_ibs (own_ib hleu (by decide) (by decide)) | exact own_ibs (own_ibs (own_ib hleu (by decide) (by decide)))) : own_Inb (3 : Int32) ((us.set 3 (us.getD chd.toNatClampNeg 0)).set chd.toNatClampNeg ((us.set 3 (us.getD chd.toNatClampNeg 0)).getD 3 0)).length) g_ky ne_a1_ky ne_nd_ky g_nd ne_a1_nd) hZ (own_w hw 44 rfl) (own_w hw 12 rfl) (by decide) (by decide)) (g := (mkF m 74 #[rv a1, iv 3, iv 3, iv 3, iv chd] [(.int 3), (.int 0), (.ref a1)])) rfl (by rw [hml]; rfl) (Steps.refl _) (a := a1) q41 q41' (argsL := [(.int 0), (.int 3)]) (rest := []) (lenOf pd_11_u_1 rfl) rfl (own_wl rfl) (hb hby d11_74) (fun _ _ => ⟨rfl, rfl, (by decide : 0 + 0 ≤ _), (by decide : 0 + 0 ≤ _)⟩)
    dsimp only [Pt.U, Pt.locs, Pt.cells, Pt.slots] at X41 l41 y41 z41 st41 hQ41
    subst y41 z41
    obtain ⟨rfl, N41q, K41q, w41_0, w41_1⟩ := hQ41
    have c42 : Exa Z T41.heap a1 own_C := c32.keep K41q
    have c43 : Fld Z T41.heap a1 own_C "keys" "[J" (.ref ky) := c33.keep K41q (ninS ne_a1_ky (ninS ne_a1_nd nin0))
    have c44 : Fld Z T41.heap a1 own_C "end" "I" (.int en) := c34.keep K41q (ninS ne_a1_ky (ninS ne_a1_nd nin0))
    have c45 : Fld Z T41.heap a1 own_C "nodes" "[I" (.ref nd) := c35.keep K41q (ninS ne_a1_ky (ninS ne_a1_nd nin0))
    have K41 : Keep h0 T41.heap [nd, ky] := K31.trans K41q (allS (Or.inl (List.mem_of_getElem? (i := 1) rfl)) (allS (Or.inl (List.mem_of_getElem? (i := 0) rfl)) all0))
    have c48 : own_Arj Z T41.heap ky (((vs.set 3 (vs.getD chd.toNatClampNeg 0)).set chd.toNatClampNeg ((vs.set 3 (vs.getD chd.toNatClampNeg 0)).getD 3 0)).set 3 (((vs.set 3 (vs.getD chd.toNatClampNeg 0)).set chd.toNatClampNeg ((vs.set 3 (vs.getD chd.toNatClampNeg 0)).getD 3 0)).getD 0 0)) := w41_0
    have c49 : own_Ari Z T41.heap nd .int (((us.set 3 (us.getD chd.toNatClampNeg 0)).set chd.toNatClampNeg ((us.set 3 (us.getD chd.toNatClampNeg 0)).getD 3 0)).set 3 (((us.set 3 (us.getD chd.toNatClampNeg 0)).set chd.toNatClampNeg ((us.set 3 (us.getD chd.toNatClampNeg 0)).getD 3 0)).getD 0 0)) := w41_1
    have N41 : Fr n0 L41 := by rw [l41]; exact Fr.app N31 N41q
    refine own_step (fun t k => st41.trans k) ?_
    obtain ⟨fs, hr, hrun, hended, hW, hsame⟩ := X41.leave (v := none) (fun _ => rfl)
    refine own_done (X41.returnOut hx Bd.returns (hb hby d11_77) hr) hrun hended ⟨_, _, rfl, ?_, ⟨_, rfl⟩, hW, hsame.mono (by decide) (by decide)⟩
    show Q11_u Z a1 ky nd en vs us h0 n0 _ T41.heap _
    exact ⟨_, _, rfl, N41, K41, c49, c48, (trivial), (own_pT hlen (own_ch4 hch) (by rw [← hd_chd]; exact own_selD hch) (own_17n hc21))⟩
theorem pn_3_u2 : plainName "com/example/leafcode/leafcode/FourWayHeap" = true := by first | (simp [plainName, overriddenIn]; done) | decide +kernel
theorem pd_3_u2_0 : parseMethodDescriptor "([J)Z" = some ⟨[(.array .long)], some .boolean⟩ := by decide +kernel
theorem pd_3_u2_1 : parseMethodDescriptor "(I)I" = some ⟨[.int], some .int⟩ := by decide +kernel
theorem pd_3_u2_2 : parseMethodDescriptor "(II)V" = some ⟨[.int, .int], none⟩ := by decide +kernel
theorem pd_3_u2_3 : parseMethodDescriptor "(I)V" = some ⟨[.int], none⟩ := by decide +kernel
theorem ef_3_u2 (m : MethodId) (a1 : Addr) (wa : Addr) : entryFrame m #[(.ref a1), (.ref wa)] 4 = mkF m 0 #[rv a1, rv wa, .unset, .unset] [] := by first | (simp [entryFrame, mkF, argsToLocals, Value.category]; done) | rfl
def Q3_u2 (Z : State) (a1 : Addr) (wa : Addr) (wt0 : Int64) (wt1 : Int64) (h0 : Heap) (n0 : Nat) (v : Option Value) (h : Heap) (L : List Loc) : Prop := ∃ (x1 : Addr) (x2 : Addr) (L_x1 : List Int64) (L_x2 : List Int32), v = none ∧ Fr n0 L ∧ Keep h0 h [a1] ∧ Fld Z h a1 own_C "end" "I" (.int 5) ∧ Fld Z h a1 own_C "keys" "[J" (.ref x1) ∧ Fld Z h a1 own_C "nodes" "[I" (.ref x2) ∧ own_Arj Z h x1 L_x1 ∧ own_Ari Z h x2 .int L_x2 ∧ h0.size ≤ x1 ∧ h0.size ≤ x2 ∧ x1 ≠ x2 ∧ (L_x1.length = 8 ∧ (L_x1.getD 3 0).toInt = (min wt0.toInt wt1.toInt)) ∧ (True)
set_option maxRecDepth 65536 in
set_option maxHeartbeats 40000000 in
theorem rm3_u2 (l : Launch) (Z : State) (a0 : Array Value) (hw : ∀ d ∈ tables_1, d.before a0 Z = true) (ws : List Jvm.Cond) (a1 : Addr) (wa : Addr) (wt0 : Int64) (wt1 : Int64) (h0 : Heap) (n0 : Nat) (Z0 : n0 ≤ h0.size) (fp0 : Exa Z h0 a1 own_C) (fp1 : Fld Z h0 a1 own_C "end" "I" (.int 0)) (fp2 : Fld Z h0 a1 own_C "keys" "[J" .null) (fp3 : Fld Z h0 a1 own_C "nodes" "[I" .null) (fp4 : own_Arj Z h0 wa [wt0, wt1]) (hpk : own_f5_n2 wt0 wt1 = 0) (g_a1 : n0 ≤ a1) (ne_wa_a1 : wa ≠ a1) :
    MetFree l (⟨"com/example/leafcode/leafcode/FourWayHeap", "<init>", "([J)V"⟩ : MethodName) (head1 (Jvm.Cond.code (⟨"com/example/leafcode/leafcode/FourWayHeap", "<init>", "([J)V"⟩ : MethodName) prog_20_method_1_code 4 none :: ws) ({ frames := 4, cells := 2, slots := 16, locals := 83 } : Room)) (fun a U => a = #[(.ref a1), (.ref wa)] ∧ Z.Warmed39 U.vm ∧ U.heap = h0) (fun _ _ _ _ _ => True) (fun _ U o U' => ∃ v L, o = .returned v ∧ Q3_u2 Z a1 wa wt0 wt1 h0 n0 v U'.heap L ∧ FrameEnd U o U' L ({ frames := 4, cells := 2, slots := 16, locals := 83 } : Room).cells ({ frames := 4, cells := 2, slots := 16, locals := 83 } : Room).slots) := by
  refine MetFree.of_bodySF (plainFor_of_name pn_3_u2) hisR ?_
  intro p e s m args below meth c s₁ Bd hml0 hP hK
  obtain ⟨rfl, hZ, hh⟩ := hP
  have hx := Bd.exec
  have hby := Bd.bytes
  have hml : c.maxLocals = 4 := hml0
  have hown : s.vm.findClass "com/example/leafcode/leafcode/FourWayHeap" = some m.cls := findClass_of_methodNamed Bd.named
  have hnm := (name_of_methodNamed Bd.named Bd.method).1
  have X0 : Stand p l e ({ frames := 4, cells := 2, slots := 16, locals := 83 } : Room) s m #[(.ref a1), (.ref wa)] below meth c s₁ [] 0 0 := Stand.of_body Bd
  have e0 : s₁.heap = h0 := by rw [← hh, Bd.state]; rfl
  have N0 := Fr.nil n0
  refine own_start (fun t k => castTop (ef_3_u2 m a1 wa) k) ?_
  show own_G p.tables e below _ (s₁.setTop (mkF m 0 #[rv a1, rv wa, .unset, .unset] []))
  refine own_al X0.here hx rfl (hb hby d3_0) rfl rfl ?_
  obtain ⟨T1, X1, e1, st1⟩ := initO X0 hx hZ hown (own_w hw 16 rfl) (own_w hw 17 rfl) (own_w hw 18 rfl) e0 (g := (mkF m 1 #[rv a1, rv wa, .unset, .unset] [(.ref a1)])) rfl (by rw [hml]; rfl) rfl (hb hby d3_1) (by decide) (W := 0) (by show 2 * 0 + _ ≤ _; exact Nat.le_of_eq rfl) (by decide)
  refine own_step st1 ?_
  refine own_al X1.here hx rfl (hb hby d3_4) rfl rfl ?_
  refine own_step (own_lenJ X1 hx hZ e1 fp4 (g := (mkF m 5 #[rv a1, rv wa, .unset, .unset] [(.ref wa)])) rfl rfl (hb hby d3_5)) ?_
  refine own_step (fun t k => XS.istoreN X1.here hx rfl (hb hby d3_6) rfl (l' := #[rv a1, rv wa, iv 2, .unset]) rfl k) ?_
  refine own_al X1.here hx rfl (hb hby d3_7) rfl rfl ?_
  refine own_ic X1.here hx rfl (hb hby d3_8) ?_
  show own_G p.tables e below _ (T1.setTop (mkF m 9 #[rv a1, rv wa, iv 2, .unset] [(.int 3), (.ref a1)]))
  refine own_il X1.here hx rfl (hb hby d3_9) rfl ?_
  refine own_step (fun t k => XS.iadd X1.here hx rfl (hb hby d3_10) rfl k) ?_
  obtain ⟨T2, h2, X2, e2, W2, st2⟩ := putF X1 hx hZ hown (host := "") (Or.inl (own_w hw 19 rfl)) Via.refl e1 fp1 fp0 (Or.inl (own_w hw 20 rfl)) (own_w hw 11 rfl) (ty := .int) (by decide) rfl rfl (g := (mkF m 11 #[rv a1, rv wa, iv 2, .unset] [(.int 5), (.ref a1)])) rfl rfl (hb hby d3_11)
  have N2 := Fr.snoc X2 N0 g_a1
  have c3 : Fld Z h2 a1 own_C "end" "I" (.int 5) := fp1.same W2
  have c4 : Exa Z h2 a1 own_C := fp0.wr W2
  have c6 : Fld Z h2 a1 own_C "keys" "[J" .null := fp2.other W2 (Or.inr (slot_ne (Or.inl (own_w hw 22 rfl)) (Or.inl (own_w hw 20 rfl)) (by decide) (t := (.array .long)) (t' := .int) (by decide) (by decide)))
  have c7 : Fld Z h2 a1 own_C "nodes" "[I" .null := fp3.other W2 (Or.inr (slot_ne (Or.inl (own_w hw 46 rfl)) (Or.inl (own_w hw 20 rfl)) (by decide) (t := (.array .int)) (t' := .int) (by decide) (by decide)))
  have c8 : own_Arj Z h2 wa [wt0, wt1] := fp4.other W2 ne_wa_a1
  have K2 : Keep h0 h2 [a1] := (Keep.refl h0 [a1]).wr W2 (Or.inl (List.mem_of_getElem? (i := 0) rfl))
  refine own_step st2 ?_
  refine own_al X2.here hx rfl (hb hby d3_14) rfl rfl ?_
  refine own_al X2.here hx rfl (hb hby d3_15) rfl rfl ?_
  obtain ⟨T9, X9, e9, st9⟩ := getF X2 hx hZ hown (host := "") (Or.inl (own_w hw 19 rfl)) Via.refl e2 c3 (g := (mkF m 16 #[rv a1, rv wa, iv 2, .unset] [(.ref a1), (.ref a1)])) rfl rfl (hb hby d3_16)
  refine own_step st9 ?_
  refine own_ic X9.here hx rfl (hb hby d3_19) ?_
  show own_G p.tables e below _ (T9.setTop (mkF m 20 #[rv a1, rv wa, iv 2, .unset] [(.int 4), (.int 5), (.ref a1)]))
  refine own_step (fun t k => XS.iadd X9.here hx rfl (hb hby d3_20) rfl k) ?_
  refine own_ic X9.here hx rfl (hb hby d3_21) ?_
  refine own_step (fun t k => XS.isub X9.here hx rfl (hb hby d3_22) rfl k) ?_
  obtain ⟨T10, h10, k10, X10, e10, E10, A10, st10⟩ := newP X9 hx hZ (own_w hw 5 rfl) e9 (g := (mkF m 23 #[rv a1, rv wa, iv 2, .unset] [(.int 8), (.ref a1)])) rfl (hb hby d3_23) rfl (by decide) (cap := 8) (by decide) (by decide) (by decide) (by decide)
  obtain ⟨b10, g10⟩ : ∃ z, z = h2.size := ⟨_, rfl⟩
  have ne11 : a1 ≠ b10 := Nat.ne_of_lt (Nat.lt_of_lt_of_le c4.lt (Nat.le_of_eq g10.symm))
  have ne12 : wa ≠ b10 := Nat.ne_of_lt (Nat.lt_of_lt_of_le c8.lt (Nat.le_of_eq g10.symm))
  have sz10 : h0.size ≤ b10 := Nat.le_trans K2.1 (Nat.le_of_eq g10.symm)
  have ge10 : n0 ≤ b10 := Nat.le_trans Z0 sz10
  have c13 : Exa Z h10 a1 own_C := c4.ext E10
  have c14 : Fld Z h10 a1 own_C "end" "I" (.int 5) := c3.ext E10
  have c15 : Fld Z h10 a1 own_C "keys" "[J" .null := c6.ext E10
  have c16 : Fld Z h10 a1 own_C "nodes" "[I" .null := c7.ext E10
  have c17 : own_Arj Z h10 wa [wt0, wt1] := c8.ext E10
  have K10 : Keep h0 h10 [a1] := K2.ext E10
  rw [← g10] at A10 st10
  have c18 : own_Arj Z h10 b10 [0, 0, 0, 0, 0, 0, 0, 0] := own_Arj_new A10 (by decide)
  refine own_step st10 ?_
  obtain ⟨T19, h19, X19, e19, W19, st19⟩ := putF X10 hx hZ hown (host := "") (Or.inl (own_w hw 21 rfl)) Via.refl e10 c15 c13 (Or.inl (own_w hw 22 rfl)) (own_w hw 11 rfl) (ty := (.array .long)) (by decide) rfl rfl (g := (mkF m 25 #[rv a1, rv wa, iv 2, .unset] [(.ref b10), (.ref a1)])) rfl rfl (hb hby d3_25)
  have N19 := Fr.snoc X19 N2 g_a1
  have c20 : Fld Z h19 a1 own_C "keys" "[J" (.ref b10) := c15.same W19
  have c21 : Exa Z h19 a1 own_C := c13.wr W19
  have c22 : Fld Z h19 a1 own_C "end" "I" (.int 5) := c14.other W19 (Or.inr (slot_ne (Or.inl (own_w hw 20 rfl)) (Or.inl (own_w hw 22 rfl)) (by decide) (t := .int) (t' := (.array .long)) (by decide) (by decide)))
  have c24 : Fld Z h19 a1 own_C "nodes" "[I" .null := c16.other W19 (Or.inr (slot_ne (Or.inl (own_w hw 46 rfl)) (Or.inl (own_w hw 22 rfl)) (by decide) (t := (.array .int)) (t' := (.array .long)) (by decide) (by decide)))
  have c25 : own_Arj Z h19 wa [wt0, wt1] := c17.other W19 ne_wa_a1
  have c26 : own_Arj Z h19 b10 [0, 0, 0, 0, 0, 0, 0, 0] := c18.other W19 (Ne.symm ne11)
  have K19 : Keep h0 h19 [a1] := K10.wr W19 (Or.inl (List.mem_of_getElem? (i := 0) rfl))
  refine own_step st19 ?_
  refine own_al X19.here hx rfl (hb hby d3_28) rfl rfl ?_
  obtain ⟨_, _, ⟨T27, L27, k27, n27⟩, -, X27, ⟨Lc27, hQ27, l27, y27, z27⟩, st27⟩ := Jvm.LawKit.callS X19 hx (y := own_y5) hown (mvT hZ (own_w hw 23 rfl)) (mvT hZ (own_w hw 24 rfl)) (mvT hZ (own_w hw 12 rfl)) (mvT hZ (own_w hw 25 rfl)) (by decide) (backOf (W := 0) (rm5_n2 l Z a0 hw [] wa wt0 wt1 h19 n0 (Nat.le_trans Z0 K19.1) c25) hZ (own_w hw 25 rfl) (own_w hw 12 rfl) (by decide) (by decide)) (g := (mkF m 29 #[rv a1, rv wa, iv 2, .unset] [(.ref wa)])) rfl (by rw [hml]; rfl) (argsL := [(.ref wa)]) (rest := []) (lenOf pd_3_u2_0 rfl) rfl (own_wl rfl) (hb hby d3_29) (fun _ _ => ⟨rfl, e19, (by decide : 1 + 0 ≤ _), (by decide : 8 + 0 ≤ _)⟩)
  dsimp only [Pt.U, Pt.locs, Pt.cells, Pt.slots] at X27 l27 y27 z27 st27 hQ27
  subst y27 z27
  obtain ⟨rfl, N27q, e27⟩ := hQ27
  have N27 : Fr n0 L27 := by rw [l27]; exact Fr.app N19 N27q
  refine own_step st27 ?_
  clear A10 E10 K10 K2 N19 N2 N27q W19 W2 X1 X10 X19 X2 X9 c13 c14 c15 c16 c17 c18 c3 c4 c6 c7 c8 e1 e10 e19 e2 e9 g10 st1 st10 st19 st2 st27 st9
  show own_G p.tables e below _ (T27.setTop (mkF m 32 #[rv a1, rv wa, iv 2, .unset] [(.int (own_f5_n2 wt0 wt1))]))
  have hk28 : (own_f5_n2 wt0 wt1) = (0 : Int32) := hpk
  refine own_step (fun t k => XS.ifYes X27.here hx rfl (pc0 := 32) (pc' := 85) rfl (hb hby d3_32) rfl ((if0 _ _).trans (teq hk28).1) (by decide) (by decide) k) ?_
  show own_G p.tables e below _ (T27.setTop (mkF m 85 #[rv a1, rv wa, iv 2, .unset] []))
  refine own_al X27.here hx rfl (hb hby d3_85) rfl rfl ?_
  refine own_al X27.here hx rfl (hb hby d3_86) rfl rfl ?_
  obtain ⟨T29, X29, e29, st29⟩ := getF X27 hx hZ hown (host := "") (Or.inl (own_w hw 21 rfl)) Via.refl e27 c20 (g := (mkF m 87 #[rv a1, rv wa, iv 2, .unset] [(.ref a1), (.ref a1)])) rfl rfl (hb hby d3_87)
  refine own_step st29 ?_
  refine own_step (own_lenJ X29 hx hZ e29 c26 (g := (mkF m 90 #[rv a1, rv wa, iv 2, .unset] [(.ref b10), (.ref a1)])) rfl rfl (hb hby d3_90)) ?_
  obtain ⟨T30, h30, k30, X30, e30, E30, A30, st30⟩ := newP X29 hx hZ (own_w hw 68 rfl) e29 (g := (mkF m 91 #[rv a1, rv wa, iv 2, .unset] [(.int 8), (.ref a1)])) rfl (hb hby d3_91) rfl (by decide) (cap := 8) (by decide) (by decide) (by decide) (by decide)
  obtain ⟨b30, g30⟩ : ∃ z, z = h19.size := ⟨_, rfl⟩
  have ne31 : a1 ≠ b30 := Nat.ne_of_lt (Nat.lt_of_lt_of_le c21.lt (Nat.le_of_eq g30.symm))
  have ne32 : wa ≠ b30 := Nat.ne_of_lt (Nat.lt_of_lt_of_le c25.lt (Nat.le_of_eq g30.symm))
  have ne33 : b10 ≠ b30 := Nat.ne_of_lt (Nat.lt_of_lt_of_le c26.lt (Nat.le_of_eq g30.symm))
  have sz30 : h0.size ≤ b30 := Nat.le_trans K19.1 (Nat.le_of_eq g30.symm)
  have ge30 : n0 ≤ b30 := Nat.le_trans Z0 sz30
  have c34 : Exa Z h30 a1 own_C := c21.ext E30
  have c35 : Fld Z h30 a1 own_C "end" "I" (.int 5) := c22.ext E30
  have c36 : Fld Z h30 a1 own_C "keys" "[J" (.ref b10) := c20.ext E30
  have c37 : Fld Z h30 a1 own_C "nodes" "[I" .null := c24.ext E30
  have c38 : own_Arj Z h30 wa [wt0, wt1] := c25.ext E30
  have c39 : own_Arj Z h30 b10 [0, 0, 0, 0, 0, 0, 0, 0] := c26.ext E30
  have K30 : Keep h0 h30 [a1] := K19.ext E30
  rw [← g30] at A30 st30
  have c40 : own_Ari Z h30 b30 .int [0, 0, 0, 0, 0, 0, 0, 0] := own_Ari_new (ty := .int) A30 (by decide) rfl
  refine own_step st30 ?_
  obtain ⟨T41, h41, X41, e41, W41, st41⟩ := putF X30 hx hZ hown (host := "") (Or.inl (own_w hw 45 rfl)) Via.refl e30 c37 c34 (Or.inl (own_w hw 46 rfl)) (own_w hw 11 rfl) (ty := (.array .int)) (by decide) rfl rfl (g := (mkF m 93 #[rv a1, rv wa, iv 2, .unset] [(.ref b30), (.ref a1)])) rfl rfl (hb hby d3_93)
  have N41 := Fr.snoc X41 N27 g_a1
  have c42 : Fld Z h41 a1 own_C "nodes" "[I" (.ref b30) := c37.same W41
  have c43 : Exa Z h41 a1 own_C := c34.wr W41
  have c44 : Fld Z h41 a1 own_C "end" "I" (.int 5) := c35.other W41 (Or.inr (slot_ne (Or.inl (own_w hw 20 rfl)) (Or.inl (own_w hw 46 rfl)) (by decide) (t := .int) (t' := (.array .int)) (by decide) (by decide)))
  have c45 : Fld Z h41 a1 own_C "keys" "[J" (.ref b10) := c36.other W41 (Or.inr (slot_ne (Or.inl (own_w hw 22 rfl)) (Or.inl (own_w hw 46 rfl)) (by decide) (t := (.array .long)) (t' := (.array .int)) (by decide) (by decide)))
  have c47 : own_Arj Z h41 wa [wt0, wt1] := c38.other W41 ne_wa_a1
  have c48 : own_Arj Z h41 b10 [0, 0, 0, 0, 0, 0, 0, 0] := c39.other W41 (Ne.symm ne11)
  have c49 : own_Ari Z h41 b30 .int [0, 0, 0, 0, 0, 0, 0, 0] := c40.other W41 (Ne.symm ne31)
  have K41 : Keep h0 h41 [a1] := K30.wr W41 (Or.inl (List.mem_of_getElem? (i := 0) rfl))
  refine own_step st41 ?_
  refine own_al X41.here hx rfl (hb hby d3_96) rfl rfl ?_
  clear A30 E30 K19 K30 N27 W41 X27 X29 X30 c20 c21 c22 c24 c25 c26 c34 c35 c36 c37 c38 c39 c40 e27 e29 e30 g30 hk28 st29 st30 st41
  show own_G p.tables e below _ (T41.setTop (mkF m 97 #[rv a1, rv wa, iv 2, .unset] [(.ref wa)]))
  refine own_ic X41.here hx rfl (hb hby d3_97) ?_
  refine own_al X41.here hx rfl (hb hby d3_98) rfl rfl ?_
  obtain ⟨T50, X50, e50, st50⟩ := getF X41 hx hZ hown (host := "") (Or.inl (own_w hw 21 rfl)) Via.refl e41 c45 (g := (mkF m 99 #[rv a1, rv wa, iv 2, .unset] [(.ref a1), (.int 0), (.ref wa)])) rfl rfl (hb hby d3_99)
  refine own_step st50 ?_
  refine own_ic X50.here hx rfl (hb hby d3_102) ?_
  refine own_il X50.here hx rfl (hb hby d3_103) rfl ?_
  obtain ⟨T51, h51, L51, X51, e51, N51, K51q, A51, st51⟩ := own_cpJ X50 hx hZ hown (own_w hw 69 rfl) (own_w hw 72 rfl) (own_w hw 70 rfl) (own_w hw 71 rfl) e50 c47 c48 (by decide) (by decide) (by decide) (Nat.le_of_ble_eq_true rfl) (Nat.le_of_ble_eq_true rfl) N41 ge10 (g := (mkF m 104 #[rv a1, rv wa, iv 2, .unset] [(.int 2), (.int 3), (.ref b10), (.int 0), (.ref wa)])) rfl (by rw [hml]; rfl) rfl (hb hby d3_104) (by decide) (W := 0) (by show 2 * 0 + _ ≤ _; exact Nat.le_of_eq rfl) (by decide)
  have c52 : Exa Z h51 a1 own_C := c43.keep K51q
  have c53 : Fld Z h51 a1 own_C "end" "I" (.int 5) := c44.keep K51q (ninS ne11 nin0)
  have c54 : Fld Z h51 a1 own_C "keys" "[J" (.ref b10) := c45.keep K51q (ninS ne11 nin0)
  have c55 : Fld Z h51 a1 own_C "nodes" "[I" (.ref b30) := c42.keep K51q (ninS ne11 nin0)
  have c56 : own_Arj Z h51 wa [wt0, wt1] := c47.keep K51q (ninS ne12 nin0)
  have c58 : own_Ari Z h51 b30 .int [0, 0, 0, 0, 0, 0, 0, 0] := c49.keep K51q (ninS (Ne.symm ne33) nin0)
  have c59 : own_Arj Z h51 b10 [0, 0, 0, wt0, wt1, 0, 0, 0] := A51
  have K51 : Keep h0 h51 [a1] := K41.trans K51q (allS (Or.inr sz10) all0)
  refine own_step st51 ?_
  refine own_ic X51.here hx rfl (hb hby d3_107) ?_
  clear A51 K41 K51q N41 X41 X50 c42 c43 c44 c45 c47 c48 c49 e41 e50 st50 st51
  show own_G p.tables e below _ (T51.setTop (mkF m 108 #[rv a1, rv wa, iv 2, .unset] [(.int 0)]))
  refine own_step (fun t k => XS.istoreN X51.here hx rfl (hb hby d3_108) rfl (l' := #[rv a1, rv wa, iv 2, iv 0]) rfl k) ?_
  refine own_il X51.here hx rfl (hb hby d3_109) rfl ?_
  refine own_il X51.here hx rfl (hb hby d3_110) rfl ?_
  have hk60 : (0 : Int32) < (2 : Int32) := (by decide)
  refine own_step (fun t k => XS.icmpNo X51.here hx rfl (hb hby d3_111) rfl ((tlt hk60).2.1) k) ?_
  show own_G p.tables e below _ (T51.setTop (mkF m 114 #[rv a1, rv wa, iv 2, iv 0] []))
  refine own_al X51.here hx rfl (hb hby d3_114) rfl rfl ?_
  obtain ⟨T61, X61, e61, st61⟩ := getF X51 hx hZ hown (host := "") (Or.inl (own_w hw 45 rfl)) Via.refl e51 c55 (g := (mkF m 115 #[rv a1, rv wa, iv 2, iv 0] [(.ref a1)])) rfl rfl (hb hby d3_115)
  refine own_step st61 ?_
  refine own_ic X61.here hx rfl (hb hby d3_118) ?_
  refine own_il X61.here hx rfl (hb hby d3_119) rfl ?_
  refine own_step (fun t k => XS.iadd X61.here hx rfl (hb hby d3_120) rfl k) ?_
  refine own_il X61.here hx rfl (hb hby d3_121) rfl ?_
  obtain ⟨T62, h62, X62, e62, W62, c62, st62⟩ := own_iastore X61 hx hZ e61 c58 (own_inb (by decide) (Nat.le_of_ble_eq_true rfl)) (g := (mkF m 122 #[rv a1, rv wa, iv 2, iv 0] [(.int 0), (.int 3), (.ref b30)])) rfl rfl (hb hby d3_122)
  have N62 := Fr.snoc X62 N51 ge30
  have c63 : own_Ari Z h62 b30 .int [0, 0, 0, 0, 0, 0, 0, 0] := c62
  have c64 : Exa Z h62 a1 own_C := c52.wr W62
  have c65 : Fld Z h62 a1 own_C "end" "I" (.int 5) := c53.other W62 (Or.inl ne31)
  have c66 : Fld Z h62 a1 own_C "keys" "[J" (.ref b10) := c54.other W62 (Or.inl ne31)
  have c67 : Fld Z h62 a1 own_C "nodes" "[I" (.ref b30) := c55.other W62 (Or.inl ne31)
  have c68 : own_Arj Z h62 wa [wt0, wt1] := c56.other W62 ne32
  have c69 : own_Arj Z h62 b10 [0, 0, 0, wt0, wt1, 0, 0, 0] := c59.other W62 ne33
  have K62 : Keep h0 h62 [a1] := K51.wr W62 (Or.inr sz30)
  refine own_step st62 ?_
  clear K51 N51 W62 X51 X61 c52 c53 c54 c55 c56 c58 c59 c62 e51 e61 hk60 st61 st62
  show own_G p.tables e below _ (T62.setTop (mkF m 123 #[rv a1, rv wa, iv 2, iv 0] []))
  refine own_step (fun t k => XS.iinc X62.here hx rfl (hb hby d3_123) rfl (l' := #[rv a1, rv wa, iv 2, iv 1]) rfl k) ?_
  refine own_go X62.here hx rfl (pc0 := 126) (pc' := 109) rfl (hb hby d3_126) (by decide) (by decide) ?_
  refine own_il X62.here hx rfl (hb hby d3_109) rfl ?_
  refine own_il X62.here hx rfl (hb hby d3_110) rfl ?_
  have hk71 : (1 : Int32) < (2 : Int32) := (by decide)
  refine own_step (fun t k => XS.icmpNo X62.here hx rfl (hb hby d3_111) rfl ((tlt hk71).2.1) k) ?_
  show own_G p.tables e below _ (T62.setTop (mkF m 114 #[rv a1, rv wa, iv 2, iv 1] []))
  refine own_al X62.here hx rfl (hb hby d3_114) rfl rfl ?_
  obtain ⟨T72, X72, e72, st72⟩ := getF X62 hx hZ hown (host := "") (Or.inl (own_w hw 45 rfl)) Via.refl e62 c67 (g := (mkF m 115 #[rv a1, rv wa, iv 2, iv 1] [(.ref a1)])) rfl rfl (hb hby d3_115)
  refine own_step st72 ?_
  refine own_ic X72.here hx rfl (hb hby d3_118) ?_
  refine own_il X72.here hx rfl (hb hby d3_119) rfl ?_
  refine own_step (fun t k => XS.iadd X72.here hx rfl (hb hby d3_120) rfl k) ?_
  refine own_il X72.here hx rfl (hb hby d3_121) rfl ?_
  obtain ⟨T73, h73, X73, e73, W73, c73, st73⟩ := own_iastore X72 hx hZ e72 c63 (own_inb (by decide) (Nat.le_of_ble_eq_true rfl)) (g := (mkF m 122 #[rv a1, rv wa, iv 2, iv 1] [(.int 1), (.int 4), (.ref b30)])) rfl rfl (hb hby d3_122)
  have N73 := Fr.snoc X73 N62 ge30
  have c74 : own_Ari Z h73 b30 .int [0, 0, 0, 0, 1, 0, 0, 0] := c73
  have c75 : Exa Z h73 a1 own_C := c64.wr W73
  have c76 : Fld Z h73 a1 own_C "end" "I" (.int 5) := c65.other W73 (Or.inl ne31)
  have c77 : Fld Z h73 a1 own_C "keys" "[J" (.ref b10) := c66.other W73 (Or.inl ne31)
  have c78 : Fld Z h73 a1 own_C "nodes" "[I" (.ref b30) := c67.other W73 (Or.inl ne31)
  have c79 : own_Arj Z h73 wa [wt0, wt1] := c68.other W73 ne32
  have c80 : own_Arj Z h73 b10 [0, 0, 0, wt0, wt1, 0, 0, 0] := c69.other W73 ne33
  have K73 : Keep h0 h73 [a1] := K62.wr W73 (Or.inr sz30)
  refine own_step st73 ?_
  clear K62 N62 W73 X62 X72 c63 c64 c65 c66 c67 c68 c69 c73 e62 e72 hk71 st72 st73
  show own_G p.tables e below _ (T73.setTop (mkF m 123 #[rv a1, rv wa, iv 2, iv 1] []))
  refine own_step (fun t k => XS.iinc X73.here hx rfl (hb hby d3_123) rfl (l' := #[rv a1, rv wa, iv 2, iv 2]) rfl k) ?_
  refine own_go X73.here hx rfl (pc0 := 126) (pc' := 109) rfl (hb hby d3_126) (by decide) (by decide) ?_
  refine own_il X73.here hx rfl (hb hby d3_109) rfl ?_
  refine own_il X73.here hx rfl (hb hby d3_110) rfl ?_
  have hk82 : ¬ ((2 : Int32) < (2 : Int32)) := (by decide)
  refine own_step (fun t k => XS.icmpYes X73.here hx rfl (pc0 := 111) (pc' := 129) rfl (hb hby d3_111) rfl ((flt hk82).2.1) (by decide) (by decide) k) ?_
  show own_G p.tables e below _ (T73.setTop (mkF m 129 #[rv a1, rv wa, iv 2, iv 2] []))
  refine own_al X73.here hx rfl (hb hby d3_129) rfl rfl ?_
  obtain ⟨T83, X83, e83, st83⟩ := getF X73 hx hZ hown (host := "") (Or.inl (own_w hw 19 rfl)) Via.refl e73 c76 (g := (mkF m 130 #[rv a1, rv wa, iv 2, iv 2] [(.ref a1)])) rfl rfl (hb hby d3_130)
  refine own_step st83 ?_
  refine own_ic X83.here hx rfl (hb hby d3_133) ?_
  refine own_step (fun t k => XS.isub X83.here hx rfl (hb hby d3_134) rfl k) ?_
  obtain ⟨_, _, ⟨T84, L84, k84, n84⟩, -, X84, ⟨Lc84, hQ84, l84, y84, z84⟩, st84⟩ := Jvm.LawKit.callS X83 hx (y := own_y9) hown (mvT hZ (own_w hw 38 rfl)) (mvT hZ (own_w hw 39 rfl)) (mvT hZ (own_w hw 12 rfl)) (mvT hZ (own_w hw 40 rfl)) (by decide) (backOf (W := 0) (rm9 l Z a0 hw [] (4 : Int32) h73 n0 (Nat.le_trans Z0 K73.1) ) hZ (own_w hw 40 rfl) (own_w hw 12 rfl) (by decide) (by decide)) (g := (mkF m 135 #[rv a1, rv wa, iv 2, iv 2] [(.int 4)])) rfl (by rw [hml]; rfl) (argsL := [(.int 4)]) (rest := []) (lenOf pd_3_u2_1 rfl) rfl (own_wl rfl) (hb hby d3_135) (fun _ _ => ⟨rfl, e83, (by decide : 2 + 0 ≤ _), (by decide : 16 + 0 ≤ _)⟩)
  dsimp only [Pt.U, Pt.locs, Pt.cells, Pt.slots] at X84 l84 y84 z84 st84 hQ84
  subst y84 z84
  obtain ⟨rfl, N84q, e84⟩ := hQ84
  have N84 : Fr n0 L84 := by rw [l84]; exact Fr.app N73 N84q
  refine own_step st84 ?_
  show own_G p.tables e below _ (T84.setTop (mkF m 138 #[rv a1, rv wa, iv 2, iv 2] [(.int 3)]))
  refine own_step (fun t k => XS.istoreN X84.here hx rfl (hb hby d3_138) rfl (l' := #[rv a1, rv wa, iv 2, iv 3]) rfl k) ?_
  refine own_il X84.here hx rfl (hb hby d3_139) rfl ?_
  refine own_ic X84.here hx rfl (hb hby d3_140) ?_
  have hk85 : ¬ ((3 : Int32) < (3 : Int32)) := (by decide)
  refine own_step (fun t k => XS.icmpNo X84.here hx rfl (hb hby d3_141) rfl ((flt hk85).1) k) ?_
  clear N73 N84q X73 X83 e73 e83 hk82 hk85 st83 st84
  show own_G p.tables e below _ (T84.setTop (mkF m 144 #[rv a1, rv wa, iv 2, iv 3] []))
  refine own_al X84.here hx rfl (hb hby d3_144) rfl rfl ?_
  refine own_il X84.here hx rfl (hb hby d3_145) rfl ?_
  refine own_ic X84.here hx rfl (hb hby d3_146) ?_
  obtain ⟨cq86, q86, q86'⟩ := c75.cell
  obtain ⟨_, _, ⟨T86, L86, k86, n86⟩, -, X86, ⟨Lc86, hQ86, l86, y86, z86⟩, st86⟩ := X84.privateBack hx (y := own_y10) hown (mvT hZ (own_w hw 41 rfl)) (mvT hZ (own_w hw 42 rfl)) (mvT hZ (own_sp10 hw)) (Cond.privateMethod_at (mvP hZ (own_w hw 43 rfl) (args := #[]))) (mvT hZ (own_w hw 44 rfl)) (by decide) (backOf (W := 0) (rm10_u l Z a0 hw [] a1 (3 : Int32) (0 : Int32) b10 b30 [(0 : Int64), (0 : Int64), (0 : Int64), wt0, wt1, (0 : Int64), (0 : Int64), (0 : Int64)] [(0 : Int32), (0 : Int32), (0 : Int32), (0 : Int32), (1 : Int32), (0 : Int32), (0 : Int32), (0 : Int32)] h73 n0 (Nat.le_trans Z0 K73.1) c77 c78 c80 c74 ((own_inb (by decide) (Nat.le_of_ble_eq_true rfl)) : own_Inb (3 : Int32) [(0 : Int64), (0 : Int64), (0 : Int64), wt0, wt1, (0 : Int64), (0 : Int64), (0 : Int64)].length) ((own_inb (by decide) (Nat.le_of_ble_eq_true rfl)) : own_Inb (0 : Int32) [(0 : Int64), (0 : Int64), (0 : Int64), wt0, wt1, (0 : Int64), (0 : Int64), (0 : Int64)].length) ((own_inb (by decide) (Nat.le_of_ble_eq_true rfl)) : own_Inb (3 : Int32) [(0 : Int32), (0 : Int32), (0 : Int32), (0 : Int32), (1 : Int32), (0 : Int32), (0 : Int32), (0 : Int32)].length) ((own_inb (by decide) (Nat.le_of_ble_eq_true rfl)) : own_Inb (0 : Int32) [(0 : Int32), (0 : Int32), (0 : Int32), (0 : Int32), (1 : Int32), (0 : Int32), (0 : Int32), (0 : Int32)].length) ge10 ne11 (Ne.symm ne33) ge30 ne31) hZ (own_w hw 44 rfl) (own_w hw 12 rfl) (by decide) (by decide)) (g := (mkF m 147 #[rv a1, rv wa, iv 2, iv 3] [(.int 0), (.int 3), (.ref a1)])) rfl (by rw [hml]; rfl) (Steps.refl _) (a := a1) (by rw [e84]; exact q86) q86' (argsL := [(.int 3), (.int 0)]) (rest := []) (lenOf pd_3_u2_2 rfl) rfl (own_wl rfl) (hb hby d3_147) (fun _ _ => ⟨rfl, e84, (by decide : 2 + 0 ≤ _), (by decide : 16 + 0 ≤ _)⟩)
  dsimp only [Pt.U, Pt.locs, Pt.cells, Pt.slots] at X86 l86 y86 z86 st86 hQ86
  subst y86 z86
  obtain ⟨rfl, N86q, K86q, w86_0, w86_1⟩ := hQ86
  have c87 : Exa Z T86.heap a1 own_C := c75.keep K86q
  have c88 : Fld Z T86.heap a1 own_C "end" "I" (.int 5) := c76.keep K86q (ninS ne11 (ninS ne31 nin0))
  have c89 : Fld Z T86.heap a1 own_C "keys" "[J" (.ref b10) := c77.keep K86q (ninS ne11 (ninS ne31 nin0))
  have c90 : Fld Z T86.heap a1 own_C "nodes" "[I" (.ref b30) := c78.keep K86q (ninS ne11 (ninS ne31 nin0))
  have c91 : own_Arj Z T86.heap wa [wt0, wt1] := c79.keep K86q (ninS ne12 (ninS ne32 nin0))
  have K86 : Keep h0 T86.heap [a1] := K73.trans K86q (allS (Or.inr sz10) (allS (Or.inr sz30) all0))
  have c94 : own_Arj Z T86.heap b10 [wt0, 0, 0, wt0, wt1, 0, 0, 0] := w86_0
  have c95 : own_Ari Z T86.heap b30 .int [0, 0, 0, 0, 1, 0, 0, 0] := w86_1
  have N86 : Fr n0 L86 := by rw [l86]; exact Fr.app N84 N86q
  refine own_step (fun t k => st86.trans k) ?_
  refine own_al X86.here hx rfl (hb hby d3_150) rfl rfl ?_
  refine own_il X86.here hx rfl (hb hby d3_151) rfl ?_
  obtain ⟨cq96, q96, q96'⟩ := c87.cell
  obtain ⟨_, _, ⟨T96, L96, k96, n96⟩, -, X96, ⟨Lc96, hQ96, l96, y96, z96⟩, st96⟩ := X86.privateBack hx (y := own_y11) hown (mvT hZ (own_w hw 47 rfl)) (mvT hZ (own_w hw 48 rfl)) (mvT hZ (own_sp11 hw)) (Cond.privateMethod_at (mvP hZ (own_w hw 49 rfl) (args := #[]))) (mvT hZ (own_w hw 50 rfl)) (by decide) (backOf (W := 0) (rm11_u l Z a0 hw [] a1 b10 b30 (5 : Int32) [wt0, (0 : Int64), (0 : Int64), wt0, wt1, (0 : Int64), (0 : Int64), (0 : Int64)] [(0 : Int32), (0 : Int32), (0 : Int32), (0 : Int32), (1 : Int32), (0 : Int32), (0 : Int32), (0 : Int32)] T86.heap n0 (Nat.le_trans Z0 K86.1) c87 c89 c88 c90 c94 c95 ((by decide) : (4 : Int32) < (5 : Int32)) ((by decide) : ¬ (8 : Int32) < (5 : Int32)) ((Nat.le_of_ble_eq_true rfl) : 8 ≤ [wt0, (0 : Int64), (0 : Int64), wt0, wt1, (0 : Int64), (0 : Int64), (0 : Int64)].length) ((Nat.le_of_ble_eq_true rfl) : 8 ≤ [(0 : Int32), (0 : Int32), (0 : Int32), (0 : Int32), (1 : Int32), (0 : Int32), (0 : Int32), (0 : Int32)].length) ge10 ne11 (Ne.symm ne33) ge30 ne31) hZ (own_w hw 50 rfl) (own_w hw 12 rfl) (by decide) (by decide)) (g := (mkF m 152 #[rv a1, rv wa, iv 2, iv 3] [(.int 3), (.ref a1)])) rfl (by rw [hml]; rfl) (Steps.refl _) (a := a1) q96 q96' (argsL := [(.int 3)]) (rest := []) (lenOf pd_3_u2_3 rfl) rfl (own_wl rfl) (hb hby d3_152) (fun _ _ => ⟨rfl, rfl, (by decide : 2 + 0 ≤ _), (by decide : 16 + 0 ≤ _)⟩)
  dsimp only [Pt.U, Pt.locs, Pt.cells, Pt.slots] at X96 l96 y96 z96 st96 hQ96
  subst y96 z96
  obtain ⟨bx96_L_nd, bx96_L_ky, rfl, N96q, K96q, w96_0, w96_1, pr96_0, pr96_1⟩ := hQ96
  have c97 : Exa Z T96.heap a1 own_C := c87.keep K96q
  have c98 : Fld Z T96.heap a1 own_C "end" "I" (.int 5) := c88.keep K96q (ninS ne31 (ninS ne11 nin0))
  have c99 : Fld Z T96.heap a1 own_C "keys" "[J" (.ref b10) := c89.keep K96q (ninS ne31 (ninS ne11 nin0))
  have c100 : Fld Z T96.heap a1 own_C "nodes" "[I" (.ref b30) := c90.keep K96q (ninS ne31 (ninS ne11 nin0))
  have c101 : own_Arj Z T96.heap wa [wt0, wt1] := c91.keep K96q (ninS ne32 (ninS ne12 nin0))
  have K96 : Keep h0 T96.heap [a1] := K86.trans K96q (allS (Or.inr sz30) (allS (Or.inr sz10) all0))
  have N96 : Fr n0 L96 := by rw [l96]; exact Fr.app N86 N96q
  refine own_step (fun t k => st96.trans k) ?_
  clear K73 K86 K86q K96q N84 N86 N86q N96q X84 X86 c74 c75 c76 c77 c78 c79 c80 c87 c88 c89 c90 c91 c94 c95 e84 q86 q86' q96 q96' st86 st96 w86_0 w86_1
  show own_G p.tables e below _ (T96.setTop (mkF m 155 #[rv a1, rv wa, iv 2, iv 3] []))
  refine own_step (fun t k => XS.iinc X96.here hx rfl (hb hby d3_155) rfl (l' := #[rv a1, rv wa, iv 2, iv 2]) rfl k) ?_
  refine own_go X96.here hx rfl (pc0 := 158) (pc' := 139) rfl (hb hby d3_158) (by decide) (by decide) ?_
  refine own_il X96.here hx rfl (hb hby d3_139) rfl ?_
  refine own_ic X96.here hx rfl (hb hby d3_140) ?_
  have hk104 : (2 : Int32) < (3 : Int32) := (by decide)
  refine own_step (fun t k => XS.icmpYes X96.here hx rfl (pc0 := 141) (pc' := 161) rfl (hb hby d3_141) rfl ((tlt hk104).1) (by decide) (by decide) k) ?_
  show own_G p.tables e below _ (T96.setTop (mkF m 161 #[rv a1, rv wa, iv 2, iv 2] []))
  obtain ⟨fs, hr, hrun, hended, hW, hsame⟩ := X96.leave (v := none) (fun _ => rfl)
  refine own_done (X96.returnOut hx Bd.returns (hb hby d3_161) hr) hrun hended ⟨_, _, rfl, ?_, ⟨_, rfl⟩, hW, hsame.mono (by decide) (by decide)⟩
  show Q3_u2 Z a1 wa wt0 wt1 h0 n0 _ T96.heap _
  exact ⟨b10, b30, _, _, rfl, N96, K96, c98, c99, c100, w96_1, w96_0, sz10, sz30, ne33, (⟨pr96_1.1, pr96_1.2.trans ((congrArg (fun z => min wt0.toInt z) (own_lcu5 _ _)).trans (show min wt0.toInt wt1.toInt = (min wt0.toInt wt1.toInt) from by omega))⟩), (trivial)⟩
theorem d1_30 : decode method_3_code 30 = .ok (.iload_n 0, 1) := by decide +kernel
theorem d1_31 : decode method_3_code 31 = .ok (.iconst 3, 1) := by decide +kernel
theorem d1_32 : decode method_3_code 32 = .ok (.if_icmp .ne 20, 3) := by decide +kernel
theorem d1_35 : decode method_3_code 35 = .ok (.iconst 3, 1) := by decide +kernel
theorem d1_36 : decode method_3_code 36 = .ok (.newarray .long, 2) := by decide +kernel
theorem d1_38 : decode method_3_code 38 = .ok (.dup, 1) := by decide +kernel
theorem d1_39 : decode method_3_code 39 = .ok (.iconst 0, 1) := by decide +kernel
theorem d1_40 : decode method_3_code 40 = .ok (.lload_n 1, 1) := by decide +kernel
theorem d1_41 : decode method_3_code 41 = .ok (.lastore, 1) := by decide +kernel
theorem d1_42 : decode method_3_code 42 = .ok (.dup, 1) := by decide +kernel
theorem d1_43 : decode method_3_code 43 = .ok (.iconst 1, 1) := by decide +kernel
theorem d1_44 : decode method_3_code 44 = .ok (.lload_n 3, 1) := by decide +kernel
theorem d1_45 : decode method_3_code 45 = .ok (.lastore, 1) := by decide +kernel
theorem d1_46 : decode method_3_code 46 = .ok (.dup, 1) := by decide +kernel
theorem d1_47 : decode method_3_code 47 = .ok (.iconst 2, 1) := by decide +kernel
theorem d1_48 : decode method_3_code 48 = .ok (.lload 5, 2) := by decide +kernel
theorem d1_50 : decode method_3_code 50 = .ok (.lastore, 1) := by decide +kernel
theorem d1_51 : decode method_3_code 51 = .ok (.areturn, 1) := by decide +kernel
theorem pn_1_n3 : plainName "com/example/leafcode/leafcode/FourWayHeapMinWeightPinLaw" = true := by first | (simp [plainName, overriddenIn]; done) | decide +kernel
theorem ef_1_n3 (m : MethodId) (wt0 : Int64) (wt1 : Int64) (wt2 : Int64) (wt3 : Int64) (wt4 : Int64) : entryFrame m #[(.int (3 : Int32)), (.long wt0), (.long wt1), (.long wt2), (.long wt3), (.long wt4)] 11 = mkF m 0 #[iv (3 : Int32), .val (.long wt0), .second, .val (.long wt1), .second, .val (.long wt2), .second, .val (.long wt3), .second, .val (.long wt4), .second] [] := by first | (simp [entryFrame, mkF, argsToLocals, Value.category]; done) | rfl
def Q1_n3 (Z : State) (wt0 : Int64) (wt1 : Int64) (wt2 : Int64) (wt3 : Int64) (wt4 : Int64) (h0 : Heap) (n0 : Nat) (v : Option Value) (h : Heap) (L : List Loc) : Prop := ∃ (rb : Addr), v = some (.ref rb) ∧ Fr n0 L ∧ Keep h0 h [] ∧ own_Arj Z h rb [wt0, wt1, wt2] ∧ h0.size ≤ rb
set_option maxRecDepth 65536 in
set_option maxHeartbeats 40000000 in
theorem rm1_n3 (l : Launch) (Z : State) (a0 : Array Value) (hw : ∀ d ∈ tables_1, d.before a0 Z = true) (ws : List Jvm.Cond) (wt0 : Int64) (wt1 : Int64) (wt2 : Int64) (wt3 : Int64) (wt4 : Int64) (h0 : Heap) (n0 : Nat) (Z0 : n0 ≤ h0.size) :
    MetFree l (⟨"com/example/leafcode/leafcode/FourWayHeapMinWeightPinLaw", "build", "(IJJJJJ)[J"⟩ : MethodName) (head1 (Jvm.Cond.code (⟨"com/example/leafcode/leafcode/FourWayHeapMinWeightPinLaw", "build", "(IJJJJJ)[J"⟩ : MethodName) method_3_code 11 (some (.array .long)) :: ws) ({ frames := 0, cells := 1, slots := 3, locals := 0 } : Room)) (fun a U => a = #[(.int (3 : Int32)), (.long wt0), (.long wt1), (.long wt2), (.long wt3), (.long wt4)] ∧ Z.Warmed39 U.vm ∧ U.heap = h0) (fun _ _ _ _ _ => True) (fun _ U o U' => ∃ v L, o = .returned v ∧ Q1_n3 Z wt0 wt1 wt2 wt3 wt4 h0 n0 v U'.heap L ∧ FrameEnd U o U' L ({ frames := 0, cells := 1, slots := 3, locals := 0 } : Room).cells ({ frames := 0, cells := 1, slots := 3, locals := 0 } : Room).slots) := by
  refine MetFree.of_bodySF (plainFor_of_name pn_1_n3) hisR ?_
  intro p e s m args below meth c s₁ Bd hml0 hP hK
  obtain ⟨rfl, hZ, hh⟩ := hP
  have hx := Bd.exec
  have hby := Bd.bytes
  have hml : c.maxLocals = 11 := hml0
  have hown : s.vm.findClass "com/example/leafcode/leafcode/FourWayHeapMinWeightPinLaw" = some m.cls := findClass_of_methodNamed Bd.named
  have hnm := (name_of_methodNamed Bd.named Bd.method).1
  have X0 : Stand p l e ({ frames := 0, cells := 1, slots := 3, locals := 0 } : Room) s m #[(.int (3 : Int32)), (.long wt0), (.long wt1), (.long wt2), (.long wt3), (.long wt4)] below meth c s₁ [] 0 0 := Stand.of_body Bd
  have e0 : s₁.heap = h0 := by rw [← hh, Bd.state]; rfl
  have N0 := Fr.nil n0
  refine own_start (fun t k => castTop (ef_1_n3 m wt0 wt1 wt2 wt3 wt4) k) ?_
  show own_G p.tables e below _ (s₁.setTop (mkF m 0 #[iv 3, .val (.long wt0), .second, .val (.long wt1), .second, .val (.long wt2), .second, .val (.long wt3), .second, .val (.long wt4), .second] []))
  refine own_il X0.here hx rfl (hb hby d1_0) rfl ?_
  refine own_ic X0.here hx rfl (hb hby d1_1) ?_
  have hk1 : ¬ ((3 : Int32) = (1 : Int32)) := (by decide)
  refine own_step (fun t k => XS.icmpYes X0.here hx rfl (pc0 := 2) (pc' := 13) rfl (hb hby d1_2) rfl ((feq hk1).2) (by decide) (by decide) k) ?_
  show own_G p.tables e below _ (s₁.setTop (mkF m 13 #[iv 3, .val (.long wt0), .second, .val (.long wt1), .second, .val (.long wt2), .second, .val (.long wt3), .second, .val (.long wt4), .second] []))
  refine own_il X0.here hx rfl (hb hby d1_13) rfl ?_
  refine own_ic X0.here hx rfl (hb hby d1_14) ?_
  have hk2 : ¬ ((3 : Int32) = (2 : Int32)) := (by decide)
  refine own_step (fun t k => XS.icmpYes X0.here hx rfl (pc0 := 15) (pc' := 30) rfl (hb hby d1_15) rfl ((feq hk2).2) (by decide) (by decide) k) ?_
  show own_G p.tables e below _ (s₁.setTop (mkF m 30 #[iv 3, .val (.long wt0), .second, .val (.long wt1), .second, .val (.long wt2), .second, .val (.long wt3), .second, .val (.long wt4), .second] []))
  refine own_il X0.here hx rfl (hb hby d1_30) rfl ?_
  refine own_ic X0.here hx rfl (hb hby d1_31) ?_
  have hk3 : (3 : Int32) = (3 : Int32) := rfl
  refine own_step (fun t k => XS.icmpNo X0.here hx rfl (hb hby d1_32) rfl ((teq hk3).2) k) ?_
  show own_G p.tables e below _ (s₁.setTop (mkF m 35 #[iv 3, .val (.long wt0), .second, .val (.long wt1), .second, .val (.long wt2), .second, .val (.long wt3), .second, .val (.long wt4), .second] []))
  refine own_ic X0.here hx rfl (hb hby d1_35) ?_
  obtain ⟨T4, h4, k4, X4, e4, E4, A4, st4⟩ := newP X0 hx hZ (own_w hw 5 rfl) e0 (g := (mkF m 36 #[iv 3, .val (.long wt0), .second, .val (.long wt1), .second, .val (.long wt2), .second, .val (.long wt3), .second, .val (.long wt4), .second] [(.int 3)])) rfl (hb hby d1_36) rfl (by decide) (cap := 3) (by decide) (by decide) (by decide) (by decide)
  obtain ⟨b4, g4⟩ : ∃ z, z = h0.size := ⟨_, rfl⟩
  have sz4 : h0.size ≤ b4 := Nat.le_trans (Keep.refl h0 []).1 (Nat.le_of_eq g4.symm)
  have ge4 : n0 ≤ b4 := Nat.le_trans Z0 sz4
  have K4 : Keep h0 h4 [] := (Keep.refl h0 []).ext E4
  rw [← g4] at A4 st4
  have c5 : own_Arj Z h4 b4 [0, 0, 0] := own_Arj_new A4 (by decide)
  refine own_step st4 ?_
  refine own_step (fun t k => XS.dup X4.here hx rfl (hb hby d1_38) rfl rfl k) ?_
  refine own_ic X4.here hx rfl (hb hby d1_39) ?_
  refine own_step (fun t k => XS.lloadN X4.here hx rfl (hb hby d1_40) rfl k) ?_
  obtain ⟨T6, h6, X6, e6, W6, c6, st6⟩ := own_lastore X4 hx hZ e4 c5 (own_inb (by decide) (Nat.le_of_ble_eq_true rfl)) (g := (mkF m 41 #[iv 3, .val (.long wt0), .second, .val (.long wt1), .second, .val (.long wt2), .second, .val (.long wt3), .second, .val (.long wt4), .second] [(.long wt0), (.int 0), (.ref b4), (.ref b4)])) rfl rfl (hb hby d1_41)
  have N6 := Fr.snoc X6 N0 ge4
  have c7 : own_Arj Z h6 b4 [wt0, 0, 0] := c6
  have K6 : Keep h0 h6 [] := K4.wr W6 (Or.inr sz4)
  refine own_step st6 ?_
  refine own_step (fun t k => XS.dup X6.here hx rfl (hb hby d1_42) rfl rfl k) ?_
  clear A4 E4 K4 W6 X4 c5 c6 e4 g4 hk1 hk2 hk3 st4 st6
  show own_G p.tables e below _ (T6.setTop (mkF m 43 #[iv 3, .val (.long wt0), .second, .val (.long wt1), .second, .val (.long wt2), .second, .val (.long wt3), .second, .val (.long wt4), .second] [(.ref b4), (.ref b4)]))
  refine own_ic X6.here hx rfl (hb hby d1_43) ?_
  refine own_step (fun t k => XS.lloadN X6.here hx rfl (hb hby d1_44) rfl k) ?_
  obtain ⟨T9, h9, X9, e9, W9, c9, st9⟩ := own_lastore X6 hx hZ e6 c7 (own_inb (by decide) (Nat.le_of_ble_eq_true rfl)) (g := (mkF m 45 #[iv 3, .val (.long wt0), .second, .val (.long wt1), .second, .val (.long wt2), .second, .val (.long wt3), .second, .val (.long wt4), .second] [(.long wt1), (.int 1), (.ref b4), (.ref b4)])) rfl rfl (hb hby d1_45)
  have N9 := Fr.snoc X9 N6 ge4
  have c10 : own_Arj Z h9 b4 [wt0, wt1, 0] := c9
  have K9 : Keep h0 h9 [] := K6.wr W9 (Or.inr sz4)
  refine own_step st9 ?_
  refine own_step (fun t k => XS.dup X9.here hx rfl (hb hby d1_46) rfl rfl k) ?_
  refine own_ic X9.here hx rfl (hb hby d1_47) ?_
  refine own_lx X9.here hx rfl (hb hby d1_48) rfl ?_
  obtain ⟨T12, h12, X12, e12, W12, c12, st12⟩ := own_lastore X9 hx hZ e9 c10 (own_inb (by decide) (Nat.le_of_ble_eq_true rfl)) (g := (mkF m 50 #[iv 3, .val (.long wt0), .second, .val (.long wt1), .second, .val (.long wt2), .second, .val (.long wt3), .second, .val (.long wt4), .second] [(.long wt2), (.int 2), (.ref b4), (.ref b4)])) rfl rfl (hb hby d1_50)
  have N12 := Fr.snoc X12 N9 ge4
  have c13 : own_Arj Z h12 b4 [wt0, wt1, wt2] := c12
  have K12 : Keep h0 h12 [] := K9.wr W12 (Or.inr sz4)
  refine own_step st12 ?_
  clear K6 K9 N6 N9 W12 W9 X6 X9 c10 c12 c7 c9 e6 e9 st12 st9
  show own_G p.tables e below _ (T12.setTop (mkF m 51 #[iv 3, .val (.long wt0), .second, .val (.long wt1), .second, .val (.long wt2), .second, .val (.long wt3), .second, .val (.long wt4), .second] [(.ref b4)]))
  obtain ⟨fs, hr, hrun, hended, hW, hsame⟩ := X12.leave (v := some (.ref b4)) (fun h => by rw [Bd.returns] at h; cases h)
  refine own_done (own_retA X12 hx Bd.returns (by decide) rfl (hb hby d1_51) hr) hrun hended ⟨_, _, rfl, ?_, ⟨_, rfl⟩, hW, hsame.mono (by decide) (by decide)⟩
  show Q1_n3 Z wt0 wt1 wt2 wt3 wt4 h0 n0 _ T12.heap _
  rw [e12]
  exact ⟨b4, rfl, N12, K12, c13, sz4⟩
theorem pn_5_n3 : plainName "com/example/leafcode/leafcode/FourWayHeap" = true := by first | (simp [plainName, overriddenIn]; done) | decide +kernel
theorem ef_5_n3 (m : MethodId) (wa : Addr) : entryFrame m #[(.ref wa)] 6 = mkF m 0 #[rv wa, .unset, .unset, .unset, .unset, .unset] [] := by first | (simp [entryFrame, mkF, argsToLocals, Value.category]; done) | rfl
def own_f5_n3 (wt0 : Int64) (wt1 : Int64) (wt2 : Int64) : Int32 :=
  (if (4294967294 : Int64) < wt0 then (0 : Int32) else (if (4294967294 : Int64) < wt1 then (0 : Int32) else (if (4294967294 : Int64) < wt2 then (0 : Int32) else (1 : Int32))))
theorem own_f5z_n3 (wt0 wt1 wt2 : Int64) : own_f5_n3 wt0 wt1 wt2 = 1 ∨ own_f5_n3 wt0 wt1 wt2 = 0 := by
  unfold own_f5_n3
  repeat' split
  all_goals first | exact Or.inl rfl | exact Or.inr rfl
theorem own_f5b_n3 {wt0 wt1 wt2 : Int64} (h : own_f5_n3 wt0 wt1 wt2 = 1) : wt0.toInt ≤ 4294967294 ∧ wt1.toInt ≤ 4294967294 ∧ wt2.toInt ≤ 4294967294 := by
  unfold own_f5_n3 at h
  repeat' split at h
  all_goals first | (cases h; done) | (simp only [Int64.lt_iff_toInt_lt, show (4294967294 : Int64).toInt = 4294967294 from by decide] at *; omega)
def Q5_n3 (Z : State) (wa : Addr) (wt0 : Int64) (wt1 : Int64) (wt2 : Int64) (h0 : Heap) (n0 : Nat) (v : Option Value) (h : Heap) (L : List Loc) : Prop := v = some (.int (own_f5_n3 wt0 wt1 wt2)) ∧ Fr n0 L ∧ h = h0
set_option maxRecDepth 65536 in
set_option maxHeartbeats 40000000 in
theorem rm5_n3 (l : Launch) (Z : State) (a0 : Array Value) (hw : ∀ d ∈ tables_1, d.before a0 Z = true) (ws : List Jvm.Cond) (wa : Addr) (wt0 : Int64) (wt1 : Int64) (wt2 : Int64) (h0 : Heap) (n0 : Nat) (Z0 : n0 ≤ h0.size) (fp0 : own_Arj Z h0 wa [wt0, wt1, wt2]) :
    MetFree l (⟨"com/example/leafcode/leafcode/FourWayHeap", "packable", "([J)Z"⟩ : MethodName) (head1 (Jvm.Cond.code (⟨"com/example/leafcode/leafcode/FourWayHeap", "packable", "([J)Z"⟩ : MethodName) prog_20_method_2_code 6 (some .boolean) :: ws) ({ frames := 0, cells := 0, slots := 0, locals := 0 } : Room)) (fun a U => a = #[(.ref wa)] ∧ Z.Warmed39 U.vm ∧ U.heap = h0) (fun _ _ _ _ _ => True) (fun _ U o U' => ∃ v L, o = .returned v ∧ Q5_n3 Z wa wt0 wt1 wt2 h0 n0 v U'.heap L ∧ FrameEnd U o U' L ({ frames := 0, cells := 0, slots := 0, locals := 0 } : Room).cells ({ frames := 0, cells := 0, slots := 0, locals := 0 } : Room).slots) := by
  refine MetFree.of_bodySF (plainFor_of_name pn_5_n3) hisR ?_
  intro p e s m args below meth c s₁ Bd hml0 hP hK
  obtain ⟨rfl, hZ, hh⟩ := hP
  have hx := Bd.exec
  have hby := Bd.bytes
  have hml : c.maxLocals = 6 := hml0
  have hown : s.vm.findClass "com/example/leafcode/leafcode/FourWayHeap" = some m.cls := findClass_of_methodNamed Bd.named
  have hnm := (name_of_methodNamed Bd.named Bd.method).1
  have X0 : Stand p l e ({ frames := 0, cells := 0, slots := 0, locals := 0 } : Room) s m #[(.ref wa)] below meth c s₁ [] 0 0 := Stand.of_body Bd
  have e0 : s₁.heap = h0 := by rw [← hh, Bd.state]; rfl
  have N0 := Fr.nil n0
  refine own_start (fun t k => castTop (ef_5_n3 m wa) k) ?_
  show own_G p.tables e below _ (s₁.setTop (mkF m 0 #[rv wa, .unset, .unset, .unset, .unset, .unset] []))
  refine own_al X0.here hx rfl (hb hby d5_0) rfl rfl ?_
  refine own_step (fun t k => XS.astoreN X0.here hx rfl (hb hby d5_1) rfl rfl (l' := #[rv wa, rv wa, .unset, .unset, .unset, .unset]) rfl k) ?_
  refine own_al X0.here hx rfl (hb hby d5_2) rfl rfl ?_
  refine own_step (own_lenJ X0 hx hZ e0 fp0 (g := (mkF m 3 #[rv wa, rv wa, .unset, .unset, .unset, .unset] [(.ref wa)])) rfl rfl (hb hby d5_3)) ?_
  refine own_step (fun t k => XS.istoreN X0.here hx rfl (hb hby d5_4) rfl (l' := #[rv wa, rv wa, iv 3, .unset, .unset, .unset]) rfl k) ?_
  refine own_ic X0.here hx rfl (hb hby d5_5) ?_
  refine own_step (fun t k => XS.istoreN X0.here hx rfl (hb hby d5_6) rfl (l' := #[rv wa, rv wa, iv 3, iv 0, .unset, .unset]) rfl k) ?_
  show own_G p.tables e below _ (s₁.setTop (mkF m 7 #[rv wa, rv wa, iv 3, iv 0, .unset, .unset] []))
  refine own_il X0.here hx rfl (hb hby d5_7) rfl ?_
  refine own_il X0.here hx rfl (hb hby d5_8) rfl ?_
  have hk1 : (0 : Int32) < (3 : Int32) := (by decide)
  refine own_step (fun t k => XS.icmpNo X0.here hx rfl (hb hby d5_9) rfl ((tlt hk1).2.1) k) ?_
  show own_G p.tables e below _ (s₁.setTop (mkF m 12 #[rv wa, rv wa, iv 3, iv 0, .unset, .unset] []))
  refine own_al X0.here hx rfl (hb hby d5_12) rfl rfl ?_
  refine own_il X0.here hx rfl (hb hby d5_13) rfl ?_
  refine own_step (own_laload X0 hx hZ e0 fp0 (own_inb (by decide) (Nat.le_of_ble_eq_true rfl)) (g := (mkF m 14 #[rv wa, rv wa, iv 3, iv 0, .unset, .unset] [(.int 0), (.ref wa)])) rfl rfl (hb hby d5_14)) ?_
  refine own_step (fun t k => XS.lstore X0.here hx rfl (hb hby d5_15) rfl (l' := #[rv wa, rv wa, iv 3, iv 0, .val (.long wt0), .second]) rfl k) ?_
  refine own_lx X0.here hx rfl (hb hby d5_17) rfl ?_
  refine own_step (X0.ldc2Long hx hown (mvT hZ (own_w hw 26 rfl)) (g := (mkF m 19 #[rv wa, rv wa, iv 3, iv 0, .val (.long wt0), .second] [(.long wt0)])) rfl (hb hby d5_19)) ?_
  refine own_step (fun t k => XS.lcmp X0.here hx rfl (hb hby d5_22) rfl k) ?_
  show own_G p.tables e below _ (s₁.setTop (mkF m 23 #[rv wa, rv wa, iv 3, iv 0, .val (.long wt0), .second] [(.int (lcmpW wt0 (4294967294 : Int64)))]))
  by_cases hc2 : (4294967294 : Int64) < wt0
  · skip
    refine own_step (fun t k => XS.ifNo X0.here hx rfl (hb hby d5_23) rfl ((if0 _ _).trans (tlt ((lw_gt _ _).mpr hc2)).2.2.2) k) ?_
    show own_G p.tables e below _ (s₁.setTop (mkF m 26 #[rv wa, rv wa, iv 3, iv 0, .val (.long wt0), .second] []))
    refine own_ic X0.here hx rfl (hb hby d5_26) ?_
    obtain ⟨fs, hr, hrun, hended, hW, hsame⟩ := X0.leave (v := some (.int (0 : Int32))) (fun h => by rw [Bd.returns] at h; cases h)
    refine own_done (retN X0 hx (t := .boolean) Bd.returns (by simp) (hb hby d5_27) hr) hrun hended ⟨_, _, rfl, ?_, ⟨_, rfl⟩, hW, hsame.mono (by decide) (by decide)⟩
    show Q5_n3 Z wa wt0 wt1 wt2 h0 n0 _ s₁.heap _
    rw [e0]
    exact ⟨congrArg (fun z => some (Value.int z)) (show (0 : Int32) = (own_f5_n3 wt0 wt1 wt2) from by unfold own_f5_n3; simp only [if_pos hc2]), N0, rfl⟩
  · skip
    refine own_step (fun t k => XS.ifYes X0.here hx rfl (pc0 := 23) (pc' := 28) rfl (hb hby d5_23) rfl ((if0 _ _).trans (flt (fun q => hc2 ((lw_gt _ _).mp q))).2.2.2) (by decide) (by decide) k) ?_
    show own_G p.tables e below _ (s₁.setTop (mkF m 28 #[rv wa, rv wa, iv 3, iv 0, .val (.long wt0), .second] []))
    refine own_step (fun t k => XS.iinc X0.here hx rfl (hb hby d5_28) rfl (l' := #[rv wa, rv wa, iv 3, iv 1, .val (.long wt0), .second]) rfl k) ?_
    refine own_go X0.here hx rfl (pc0 := 31) (pc' := 7) rfl (hb hby d5_31) (by decide) (by decide) ?_
    refine own_il X0.here hx rfl (hb hby d5_7) rfl ?_
    refine own_il X0.here hx rfl (hb hby d5_8) rfl ?_
    have hk3 : (1 : Int32) < (3 : Int32) := (by decide)
    refine own_step (fun t k => XS.icmpNo X0.here hx rfl (hb hby d5_9) rfl ((tlt hk3).2.1) k) ?_
    show own_G p.tables e below _ (s₁.setTop (mkF m 12 #[rv wa, rv wa, iv 3, iv 1, .val (.long wt0), .second] []))
    refine own_al X0.here hx rfl (hb hby d5_12) rfl rfl ?_
    refine own_il X0.here hx rfl (hb hby d5_13) rfl ?_
    refine own_step (own_laload X0 hx hZ e0 fp0 (own_inb (by decide) (Nat.le_of_ble_eq_true rfl)) (g := (mkF m 14 #[rv wa, rv wa, iv 3, iv 1, .val (.long wt0), .second] [(.int 1), (.ref wa)])) rfl rfl (hb hby d5_14)) ?_
    refine own_step (fun t k => XS.lstore X0.here hx rfl (hb hby d5_15) rfl (l' := #[rv wa, rv wa, iv 3, iv 1, .val (.long wt1), .second]) rfl k) ?_
    refine own_lx X0.here hx rfl (hb hby d5_17) rfl ?_
    refine own_step (X0.ldc2Long hx hown (mvT hZ (own_w hw 26 rfl)) (g := (mkF m 19 #[rv wa, rv wa, iv 3, iv 1, .val (.long wt1), .second] [(.long wt1)])) rfl (hb hby d5_19)) ?_
    refine own_step (fun t k => XS.lcmp X0.here hx rfl (hb hby d5_22) rfl k) ?_
    show own_G p.tables e below _ (s₁.setTop (mkF m 23 #[rv wa, rv wa, iv 3, iv 1, .val (.long wt1), .second] [(.int (lcmpW wt1 (4294967294 : Int64)))]))
    by_cases hc4 : (4294967294 : Int64) < wt1
    · skip
      refine own_step (fun t k => XS.ifNo X0.here hx rfl (hb hby d5_23) rfl ((if0 _ _).trans (tlt ((lw_gt _ _).mpr hc4)).2.2.2) k) ?_
      show own_G p.tables e below _ (s₁.setTop (mkF m 26 #[rv wa, rv wa, iv 3, iv 1, .val (.long wt1), .second] []))
      refine own_ic X0.here hx rfl (hb hby d5_26) ?_
      obtain ⟨fs, hr, hrun, hended, hW, hsame⟩ := X0.leave (v := some (.int (0 : Int32))) (fun h => by rw [Bd.returns] at h; cases h)
      refine own_done (retN X0 hx (t := .boolean) Bd.returns (by simp) (hb hby d5_27) hr) hrun hended ⟨_, _, rfl, ?_, ⟨_, rfl⟩, hW, hsame.mono (by decide) (by decide)⟩
      show Q5_n3 Z wa wt0 wt1 wt2 h0 n0 _ s₁.heap _
      rw [e0]
      exact ⟨congrArg (fun z => some (Value.int z)) (show (0 : Int32) = (own_f5_n3 wt0 wt1 wt2) from by unfold own_f5_n3; simp only [if_neg hc2, if_pos hc4]), N0, rfl⟩
    · skip
      refine own_step (fun t k => XS.ifYes X0.here hx rfl (pc0 := 23) (pc' := 28) rfl (hb hby d5_23) rfl ((if0 _ _).trans (flt (fun q => hc4 ((lw_gt _ _).mp q))).2.2.2) (by decide) (by decide) k) ?_
      show own_G p.tables e below _ (s₁.setTop (mkF m 28 #[rv wa, rv wa, iv 3, iv 1, .val (.long wt1), .second] []))
      refine own_step (fun t k => XS.iinc X0.here hx rfl (hb hby d5_28) rfl (l' := #[rv wa, rv wa, iv 3, iv 2, .val (.long wt1), .second]) rfl k) ?_
      refine own_go X0.here hx rfl (pc0 := 31) (pc' := 7) rfl (hb hby d5_31) (by decide) (by decide) ?_
      refine own_il X0.here hx rfl (hb hby d5_7) rfl ?_
      refine own_il X0.here hx rfl (hb hby d5_8) rfl ?_
      have hk5 : (2 : Int32) < (3 : Int32) := (by decide)
      refine own_step (fun t k => XS.icmpNo X0.here hx rfl (hb hby d5_9) rfl ((tlt hk5).2.1) k) ?_
      show own_G p.tables e below _ (s₁.setTop (mkF m 12 #[rv wa, rv wa, iv 3, iv 2, .val (.long wt1), .second] []))
      refine own_al X0.here hx rfl (hb hby d5_12) rfl rfl ?_
      refine own_il X0.here hx rfl (hb hby d5_13) rfl ?_
      refine own_step (own_laload X0 hx hZ e0 fp0 (own_inb (by decide) (Nat.le_of_ble_eq_true rfl)) (g := (mkF m 14 #[rv wa, rv wa, iv 3, iv 2, .val (.long wt1), .second] [(.int 2), (.ref wa)])) rfl rfl (hb hby d5_14)) ?_
      refine own_step (fun t k => XS.lstore X0.here hx rfl (hb hby d5_15) rfl (l' := #[rv wa, rv wa, iv 3, iv 2, .val (.long wt2), .second]) rfl k) ?_
      refine own_lx X0.here hx rfl (hb hby d5_17) rfl ?_
      refine own_step (X0.ldc2Long hx hown (mvT hZ (own_w hw 26 rfl)) (g := (mkF m 19 #[rv wa, rv wa, iv 3, iv 2, .val (.long wt2), .second] [(.long wt2)])) rfl (hb hby d5_19)) ?_
      refine own_step (fun t k => XS.lcmp X0.here hx rfl (hb hby d5_22) rfl k) ?_
      show own_G p.tables e below _ (s₁.setTop (mkF m 23 #[rv wa, rv wa, iv 3, iv 2, .val (.long wt2), .second] [(.int (lcmpW wt2 (4294967294 : Int64)))]))
      by_cases hc6 : (4294967294 : Int64) < wt2
      · skip
        refine own_step (fun t k => XS.ifNo X0.here hx rfl (hb hby d5_23) rfl ((if0 _ _).trans (tlt ((lw_gt _ _).mpr hc6)).2.2.2) k) ?_
        show own_G p.tables e below _ (s₁.setTop (mkF m 26 #[rv wa, rv wa, iv 3, iv 2, .val (.long wt2), .second] []))
        refine own_ic X0.here hx rfl (hb hby d5_26) ?_
        obtain ⟨fs, hr, hrun, hended, hW, hsame⟩ := X0.leave (v := some (.int (0 : Int32))) (fun h => by rw [Bd.returns] at h; cases h)
        refine own_done (retN X0 hx (t := .boolean) Bd.returns (by simp) (hb hby d5_27) hr) hrun hended ⟨_, _, rfl, ?_, ⟨_, rfl⟩, hW, hsame.mono (by decide) (by decide)⟩
        show Q5_n3 Z wa wt0 wt1 wt2 h0 n0 _ s₁.heap _
        rw [e0]
        exact ⟨congrArg (fun z => some (Value.int z)) (show (0 : Int32) = (own_f5_n3 wt0 wt1 wt2) from by unfold own_f5_n3; simp only [if_neg hc2, if_neg hc4, if_pos hc6]), N0, rfl⟩
      · skip
        refine own_step (fun t k => XS.ifYes X0.here hx rfl (pc0 := 23) (pc' := 28) rfl (hb hby d5_23) rfl ((if0 _ _).trans (flt (fun q => hc6 ((lw_gt _ _).mp q))).2.2.2) (by decide) (by decide) k) ?_
        show own_G p.tables e below _ (s₁.setTop (mkF m 28 #[rv wa, rv wa, iv 3, iv 2, .val (.long wt2), .second] []))
        refine own_step (fun t k => XS.iinc X0.here hx rfl (hb hby d5_28) rfl (l' := #[rv wa, rv wa, iv 3, iv 3, .val (.long wt2), .second]) rfl k) ?_
        refine own_go X0.here hx rfl (pc0 := 31) (pc' := 7) rfl (hb hby d5_31) (by decide) (by decide) ?_
        refine own_il X0.here hx rfl (hb hby d5_7) rfl ?_
        refine own_il X0.here hx rfl (hb hby d5_8) rfl ?_
        have hk7 : ¬ ((3 : Int32) < (3 : Int32)) := (by decide)
        refine own_step (fun t k => XS.icmpYes X0.here hx rfl (pc0 := 9) (pc' := 34) rfl (hb hby d5_9) rfl ((flt hk7).2.1) (by decide) (by decide) k) ?_
        show own_G p.tables e below _ (s₁.setTop (mkF m 34 #[rv wa, rv wa, iv 3, iv 3, .val (.long wt2), .second] []))
        refine own_ic X0.here hx rfl (hb hby d5_34) ?_
        obtain ⟨fs, hr, hrun, hended, hW, hsame⟩ := X0.leave (v := some (.int (1 : Int32))) (fun h => by rw [Bd.returns] at h; cases h)
        refine own_done (retN X0 hx (t := .boolean) Bd.returns (by simp) (hb hby d5_35) hr) hrun hended ⟨_, _, rfl, ?_, ⟨_, rfl⟩, hW, hsame.mono (by decide) (by decide)⟩
        show Q5_n3 Z wa wt0 wt1 wt2 h0 n0 _ s₁.heap _
        rw [e0]
        exact ⟨congrArg (fun z => some (Value.int z)) (show (1 : Int32) = (own_f5_n3 wt0 wt1 wt2) from by unfold own_f5_n3; simp only [if_neg hc2, if_neg hc4, if_neg hc6]), N0, rfl⟩
theorem pn_7_n3 : plainName "java/util/Arrays" = true := by first | (simp [plainName, overriddenIn]; done) | decide +kernel
theorem pd_7_n3_0 : parseMethodDescriptor "(III)V" = some ⟨[.int, .int, .int], none⟩ := by decide +kernel
theorem ef_7_n3 (m : MethodId) (ar : Addr) (vv : Int64) : entryFrame m #[(.ref ar), (.int (6 : Int32)), (.int (9 : Int32)), (.long vv)] 6 = mkF m 0 #[rv ar, iv (6 : Int32), iv (9 : Int32), .val (.long vv), .second, .unset] [] := by first | (simp [entryFrame, mkF, argsToLocals, Value.category]; done) | rfl
def Q7_n3 (Z : State) (ar : Addr) (vv : Int64) (kk0 : Int64) (kk1 : Int64) (kk2 : Int64) (kk3 : Int64) (kk4 : Int64) (kk5 : Int64) (kk6 : Int64) (kk7 : Int64) (kk8 : Int64) (h0 : Heap) (n0 : Nat) (v : Option Value) (h : Heap) (L : List Loc) : Prop := v = none ∧ Fr n0 L ∧ Keep h0 h [ar] ∧ own_Arj Z h ar [kk0, kk1, kk2, kk3, kk4, kk5, vv, vv, vv]
set_option maxRecDepth 65536 in
set_option maxHeartbeats 40000000 in
theorem rm7_n3 (l : Launch) (Z : State) (a0 : Array Value) (hw : ∀ d ∈ tables_1, d.before a0 Z = true) (ws : List Jvm.Cond) (ar : Addr) (vv : Int64) (kk0 : Int64) (kk1 : Int64) (kk2 : Int64) (kk3 : Int64) (kk4 : Int64) (kk5 : Int64) (kk6 : Int64) (kk7 : Int64) (kk8 : Int64) (h0 : Heap) (n0 : Nat) (Z0 : n0 ≤ h0.size) (fp0 : own_Arj Z h0 ar [kk0, kk1, kk2, kk3, kk4, kk5, kk6, kk7, kk8]) (g_ar : n0 ≤ ar) :
    MetFree l (⟨"java/util/Arrays", "fill", "([JIIJ)V"⟩ : MethodName) (head1 (Jvm.Cond.code (⟨"java/util/Arrays", "fill", "([JIIJ)V"⟩ : MethodName) jdk_65_method_102_code 6 none :: ws) ({ frames := 1, cells := 0, slots := 0, locals := 14 } : Room)) (fun a U => a = #[(.ref ar), (.int (6 : Int32)), (.int (9 : Int32)), (.long vv)] ∧ Z.Warmed39 U.vm ∧ U.heap = h0) (fun _ _ _ _ _ => True) (fun _ U o U' => ∃ v L, o = .returned v ∧ Q7_n3 Z ar vv kk0 kk1 kk2 kk3 kk4 kk5 kk6 kk7 kk8 h0 n0 v U'.heap L ∧ FrameEnd U o U' L ({ frames := 1, cells := 0, slots := 0, locals := 14 } : Room).cells ({ frames := 1, cells := 0, slots := 0, locals := 14 } : Room).slots) := by
  refine MetFree.of_bodySF (plainFor_of_name pn_7_n3) hisR ?_
  intro p e s m args below meth c s₁ Bd hml0 hP hK
  obtain ⟨rfl, hZ, hh⟩ := hP
  have hx := Bd.exec
  have hby := Bd.bytes
  have hml : c.maxLocals = 6 := hml0
  have hown : s.vm.findClass "java/util/Arrays" = some m.cls := findClass_of_methodNamed Bd.named
  have hnm := (name_of_methodNamed Bd.named Bd.method).1
  have X0 : Stand p l e ({ frames := 1, cells := 0, slots := 0, locals := 14 } : Room) s m #[(.ref ar), (.int (6 : Int32)), (.int (9 : Int32)), (.long vv)] below meth c s₁ [] 0 0 := Stand.of_body Bd
  have e0 : s₁.heap = h0 := by rw [← hh, Bd.state]; rfl
  have N0 := Fr.nil n0
  refine own_start (fun t k => castTop (ef_7_n3 m ar vv) k) ?_
  show own_G p.tables e below _ (s₁.setTop (mkF m 0 #[rv ar, iv 6, iv 9, .val (.long vv), .second, .unset] []))
  refine own_al X0.here hx rfl (hb hby d7_0) rfl rfl ?_
  refine own_step (own_lenJ X0 hx hZ e0 fp0 (g := (mkF m 1 #[rv ar, iv 6, iv 9, .val (.long vv), .second, .unset] [(.ref ar)])) rfl rfl (hb hby d7_1)) ?_
  refine own_il X0.here hx rfl (hb hby d7_2) rfl ?_
  refine own_il X0.here hx rfl (hb hby d7_3) rfl ?_
  obtain ⟨_, _, ⟨T1, L1, k1, n1⟩, -, X1, ⟨Lc1, hQ1, l1, y1, z1⟩, st1⟩ := Jvm.LawKit.callS X0 hx (y := own_y8) hown (mvT hZ (own_w hw 35 rfl)) (mvT hZ (own_w hw 36 rfl)) (mvT hZ (own_w hw 33 rfl)) (mvT hZ (own_w hw 37 rfl)) (by decide) (backOf (W := 0) (rm8 l Z a0 hw [] (9 : Int32) (6 : Int32) (9 : Int32) h0 n0 (Nat.le_trans Z0 (Keep.refl h0 [ar]).1) (by decide : ¬ (9 : Int32) < (6 : Int32)) (by decide : ¬ (6 : Int32) < (0 : Int32)) (by decide : ¬ (9 : Int32) < (9 : Int32))) hZ (own_w hw 37 rfl) (own_w hw 33 rfl) (by decide) (by decide)) (g := (mkF m 4 #[rv ar, iv 6, iv 9, .val (.long vv), .second, .unset] [(.int 9), (.int 6), (.int 9)])) rfl (by rw [hml]; rfl) (argsL := [(.int 9), (.int 6), (.int 9)]) (rest := []) (lenOf pd_7_n3_0 rfl) rfl (own_wl rfl) (hb hby d7_4) (fun _ _ => ⟨rfl, e0, (by decide : 0 + 0 ≤ _), (by decide : 0 + 0 ≤ _)⟩)
  dsimp only [Pt.U, Pt.locs, Pt.cells, Pt.slots] at X1 l1 y1 z1 st1 hQ1
  subst y1 z1
  obtain ⟨rfl, N1q, e1⟩ := hQ1
  have N1 : Fr n0 L1 := by rw [l1]; exact Fr.app N0 N1q
  refine own_step st1 ?_
  refine own_il X1.here hx rfl (hb hby d7_7) rfl ?_
  refine own_step (fun t k => XS.istore X1.here hx rfl (hb hby d7_8) rfl (l' := #[rv ar, iv 6, iv 9, .val (.long vv), .second, iv 6]) rfl k) ?_
  show own_G p.tables e below _ (T1.setTop (mkF m 10 #[rv ar, iv 6, iv 9, .val (.long vv), .second, iv 6] []))
  refine own_ix X1.here hx rfl (hb hby d7_10) rfl ?_
  refine own_il X1.here hx rfl (hb hby d7_12) rfl ?_
  have hk2 : (6 : Int32) < (9 : Int32) := (by decide)
  refine own_step (fun t k => XS.icmpNo X1.here hx rfl (hb hby d7_13) rfl ((tlt hk2).2.1) k) ?_
  show own_G p.tables e below _ (T1.setTop (mkF m 16 #[rv ar, iv 6, iv 9, .val (.long vv), .second, iv 6] []))
  refine own_al X1.here hx rfl (hb hby d7_16) rfl rfl ?_
  refine own_ix X1.here hx rfl (hb hby d7_17) rfl ?_
  refine own_step (fun t k => XS.lloadN X1.here hx rfl (hb hby d7_19) rfl k) ?_
  obtain ⟨T3, h3, X3, e3, W3, c3, st3⟩ := own_lastore X1 hx hZ e1 fp0 (own_inb (by decide) (Nat.le_of_ble_eq_true rfl)) (g := (mkF m 20 #[rv ar, iv 6, iv 9, .val (.long vv), .second, iv 6] [(.long vv), (.int 6), (.ref ar)])) rfl rfl (hb hby d7_20)
  have N3 := Fr.snoc X3 N1 g_ar
  have c4 : own_Arj Z h3 ar [kk0, kk1, kk2, kk3, kk4, kk5, vv, kk7, kk8] := c3
  have K3 : Keep h0 h3 [ar] := (Keep.refl h0 [ar]).wr W3 (Or.inl (List.mem_of_getElem? (i := 0) rfl))
  refine own_step st3 ?_
  refine own_step (fun t k => XS.iinc X3.here hx rfl (hb hby d7_21) rfl (l' := #[rv ar, iv 6, iv 9, .val (.long vv), .second, iv 7]) rfl k) ?_
  refine own_go X3.here hx rfl (pc0 := 24) (pc' := 10) rfl (hb hby d7_24) (by decide) (by decide) ?_
  refine own_ix X3.here hx rfl (hb hby d7_10) rfl ?_
  show own_G p.tables e below _ (T3.setTop (mkF m 12 #[rv ar, iv 6, iv 9, .val (.long vv), .second, iv 7] [(.int 7)]))
  refine own_il X3.here hx rfl (hb hby d7_12) rfl ?_
  have hk6 : (7 : Int32) < (9 : Int32) := (by decide)
  refine own_step (fun t k => XS.icmpNo X3.here hx rfl (hb hby d7_13) rfl ((tlt hk6).2.1) k) ?_
  clear N1 N1q W3 X1 c3 e1 hk2 hk6 st1 st3
  show own_G p.tables e below _ (T3.setTop (mkF m 16 #[rv ar, iv 6, iv 9, .val (.long vv), .second, iv 7] []))
  refine own_al X3.here hx rfl (hb hby d7_16) rfl rfl ?_
  refine own_ix X3.here hx rfl (hb hby d7_17) rfl ?_
  refine own_step (fun t k => XS.lloadN X3.here hx rfl (hb hby d7_19) rfl k) ?_
  obtain ⟨T7, h7, X7, e7, W7, c7, st7⟩ := own_lastore X3 hx hZ e3 c4 (own_inb (by decide) (Nat.le_of_ble_eq_true rfl)) (g := (mkF m 20 #[rv ar, iv 6, iv 9, .val (.long vv), .second, iv 7] [(.long vv), (.int 7), (.ref ar)])) rfl rfl (hb hby d7_20)
  have N7 := Fr.snoc X7 N3 g_ar
  have c8 : own_Arj Z h7 ar [kk0, kk1, kk2, kk3, kk4, kk5, vv, vv, kk8] := c7
  have K7 : Keep h0 h7 [ar] := K3.wr W7 (Or.inl (List.mem_of_getElem? (i := 0) rfl))
  refine own_step st7 ?_
  refine own_step (fun t k => XS.iinc X7.here hx rfl (hb hby d7_21) rfl (l' := #[rv ar, iv 6, iv 9, .val (.long vv), .second, iv 8]) rfl k) ?_
  refine own_go X7.here hx rfl (pc0 := 24) (pc' := 10) rfl (hb hby d7_24) (by decide) (by decide) ?_
  refine own_ix X7.here hx rfl (hb hby d7_10) rfl ?_
  show own_G p.tables e below _ (T7.setTop (mkF m 12 #[rv ar, iv 6, iv 9, .val (.long vv), .second, iv 8] [(.int 8)]))
  refine own_il X7.here hx rfl (hb hby d7_12) rfl ?_
  have hk10 : (8 : Int32) < (9 : Int32) := (by decide)
  refine own_step (fun t k => XS.icmpNo X7.here hx rfl (hb hby d7_13) rfl ((tlt hk10).2.1) k) ?_
  show own_G p.tables e below _ (T7.setTop (mkF m 16 #[rv ar, iv 6, iv 9, .val (.long vv), .second, iv 8] []))
  refine own_al X7.here hx rfl (hb hby d7_16) rfl rfl ?_
  refine own_ix X7.here hx rfl (hb hby d7_17) rfl ?_
  refine own_step (fun t k => XS.lloadN X7.here hx rfl (hb hby d7_19) rfl k) ?_
  obtain ⟨T11, h11, X11, e11, W11, c11, st11⟩ := own_lastore X7 hx hZ e7 c8 (own_inb (by decide) (Nat.le_of_ble_eq_true rfl)) (g := (mkF m 20 #[rv ar, iv 6, iv 9, .val (.long vv), .second, iv 8] [(.long vv), (.int 8), (.ref ar)])) rfl rfl (hb hby d7_20)
  have N11 := Fr.snoc X11 N7 g_ar
  have c12 : own_Arj Z h11 ar [kk0, kk1, kk2, kk3, kk4, kk5, vv, vv, vv] := c11
  have K11 : Keep h0 h11 [ar] := K7.wr W11 (Or.inl (List.mem_of_getElem? (i := 0) rfl))
  refine own_step st11 ?_
  refine own_step (fun t k => XS.iinc X11.here hx rfl (hb hby d7_21) rfl (l' := #[rv ar, iv 6, iv 9, .val (.long vv), .second, iv 9]) rfl k) ?_
  refine own_go X11.here hx rfl (pc0 := 24) (pc' := 10) rfl (hb hby d7_24) (by decide) (by decide) ?_
  refine own_ix X11.here hx rfl (hb hby d7_10) rfl ?_
  clear K3 K7 N3 N7 W11 W7 X3 X7 c11 c4 c7 c8 e3 e7 hk10 st11 st7
  show own_G p.tables e below _ (T11.setTop (mkF m 12 #[rv ar, iv 6, iv 9, .val (.long vv), .second, iv 9] [(.int 9)]))
  refine own_il X11.here hx rfl (hb hby d7_12) rfl ?_
  have hk14 : ¬ ((9 : Int32) < (9 : Int32)) := (by decide)
  refine own_step (fun t k => XS.icmpYes X11.here hx rfl (pc0 := 13) (pc' := 27) rfl (hb hby d7_13) rfl ((flt hk14).2.1) (by decide) (by decide) k) ?_
  show own_G p.tables e below _ (T11.setTop (mkF m 27 #[rv ar, iv 6, iv 9, .val (.long vv), .second, iv 9] []))
  obtain ⟨fs, hr, hrun, hended, hW, hsame⟩ := X11.leave (v := none) (fun _ => rfl)
  refine own_done (X11.returnOut hx Bd.returns (hb hby d7_27) hr) hrun hended ⟨_, _, rfl, ?_, ⟨_, rfl⟩, hW, hsame.mono (by decide) (by decide)⟩
  show Q7_n3 Z ar vv kk0 kk1 kk2 kk3 kk4 kk5 kk6 kk7 kk8 h0 n0 _ T11.heap _
  rw [e11]
  exact ⟨rfl, N11, K11, c12⟩
theorem pn_3_p3 : plainName "com/example/leafcode/leafcode/FourWayHeap" = true := by first | (simp [plainName, overriddenIn]; done) | decide +kernel
theorem pd_3_p3_0 : parseMethodDescriptor "([J)Z" = some ⟨[(.array .long)], some .boolean⟩ := by decide +kernel
theorem pd_3_p3_1 : parseMethodDescriptor "(JI)J" = some ⟨[.long, .int], some .long⟩ := by decide +kernel
theorem pd_3_p3_2 : parseMethodDescriptor "([JIIJ)V" = some ⟨[(.array .long), .int, .int, .long], none⟩ := by decide +kernel
theorem pd_3_p3_3 : parseMethodDescriptor "(I)I" = some ⟨[.int], some .int⟩ := by decide +kernel
theorem pd_3_p3_4 : parseMethodDescriptor "(II)V" = some ⟨[.int, .int], none⟩ := by decide +kernel
theorem pd_3_p3_5 : parseMethodDescriptor "(I)V" = some ⟨[.int], none⟩ := by decide +kernel
theorem ef_3_p3 (m : MethodId) (a1 : Addr) (wa : Addr) : entryFrame m #[(.ref a1), (.ref wa)] 4 = mkF m 0 #[rv a1, rv wa, .unset, .unset] [] := by first | (simp [entryFrame, mkF, argsToLocals, Value.category]; done) | rfl
def Q3_p3 (Z : State) (a1 : Addr) (wa : Addr) (wt0 : Int64) (wt1 : Int64) (wt2 : Int64) (h0 : Heap) (n0 : Nat) (v : Option Value) (h : Heap) (L : List Loc) : Prop := ∃ (x1 : Addr) (L_x1 : List Int64), v = none ∧ Fr n0 L ∧ Keep h0 h [a1] ∧ Fld Z h a1 own_C "end" "I" (.int 6) ∧ Fld Z h a1 own_C "keys" "[J" (.ref x1) ∧ Fld Z h a1 own_C "nodes" "[I" .null ∧ own_Arj Z h x1 L_x1 ∧ h0.size ≤ x1 ∧ (L_x1.length = 9 ∧ (own_ush (L_x1.getD 3 0)).toInt = (min (min wt0.toInt wt1.toInt) wt2.toInt))
set_option maxRecDepth 65536 in
set_option maxHeartbeats 40000000 in
theorem rm3_p3 (l : Launch) (Z : State) (a0 : Array Value) (hw : ∀ d ∈ tables_1, d.before a0 Z = true) (ws : List Jvm.Cond) (a1 : Addr) (wa : Addr) (wt0 : Int64) (wt1 : Int64) (wt2 : Int64) (h0 : Heap) (n0 : Nat) (Z0 : n0 ≤ h0.size) (fp0 : Exa Z h0 a1 own_C) (fp1 : Fld Z h0 a1 own_C "end" "I" (.int 0)) (fp2 : Fld Z h0 a1 own_C "keys" "[J" .null) (fp3 : Fld Z h0 a1 own_C "nodes" "[I" .null) (fp4 : own_Arj Z h0 wa [wt0, wt1, wt2]) (hpk : own_f5_n3 wt0 wt1 wt2 = 1) (hnn0 : 0 ≤ wt0.toInt) (hnn1 : 0 ≤ wt1.toInt) (hnn2 : 0 ≤ wt2.toInt) (g_a1 : n0 ≤ a1) (ne_wa_a1 : wa ≠ a1) :
    MetFree l (⟨"com/example/leafcode/leafcode/FourWayHeap", "<init>", "([J)V"⟩ : MethodName) (head1 (Jvm.Cond.code (⟨"com/example/leafcode/leafcode/FourWayHeap", "<init>", "([J)V"⟩ : MethodName) prog_20_method_1_code 4 none :: ws) ({ frames := 2, cells := 1, slots := 9, locals := 52 } : Room)) (fun a U => a = #[(.ref a1), (.ref wa)] ∧ Z.Warmed39 U.vm ∧ U.heap = h0) (fun _ _ _ _ _ => True) (fun _ U o U' => ∃ v L, o = .returned v ∧ Q3_p3 Z a1 wa wt0 wt1 wt2 h0 n0 v U'.heap L ∧ FrameEnd U o U' L ({ frames := 2, cells := 1, slots := 9, locals := 52 } : Room).cells ({ frames := 2, cells := 1, slots := 9, locals := 52 } : Room).slots) := by
  refine MetFree.of_bodySF (plainFor_of_name pn_3_p3) hisR ?_
  intro p e s m args below meth c s₁ Bd hml0 hP hK
  obtain ⟨rfl, hZ, hh⟩ := hP
  have hx := Bd.exec
  have hby := Bd.bytes
  have hml : c.maxLocals = 4 := hml0
  have hown : s.vm.findClass "com/example/leafcode/leafcode/FourWayHeap" = some m.cls := findClass_of_methodNamed Bd.named
  have hnm := (name_of_methodNamed Bd.named Bd.method).1
  have X0 : Stand p l e ({ frames := 2, cells := 1, slots := 9, locals := 52 } : Room) s m #[(.ref a1), (.ref wa)] below meth c s₁ [] 0 0 := Stand.of_body Bd
  have e0 : s₁.heap = h0 := by rw [← hh, Bd.state]; rfl
  have N0 := Fr.nil n0
  refine own_start (fun t k => castTop (ef_3_p3 m a1 wa) k) ?_
  show own_G p.tables e below _ (s₁.setTop (mkF m 0 #[rv a1, rv wa, .unset, .unset] []))
  refine own_al X0.here hx rfl (hb hby d3_0) rfl rfl ?_
  obtain ⟨T1, X1, e1, st1⟩ := initO X0 hx hZ hown (own_w hw 16 rfl) (own_w hw 17 rfl) (own_w hw 18 rfl) e0 (g := (mkF m 1 #[rv a1, rv wa, .unset, .unset] [(.ref a1)])) rfl (by rw [hml]; rfl) rfl (hb hby d3_1) (by decide) (W := 0) (by show 2 * 0 + _ ≤ _; exact Nat.le_of_eq rfl) (by decide)
  refine own_step st1 ?_
  refine own_al X1.here hx rfl (hb hby d3_4) rfl rfl ?_
  refine own_step (own_lenJ X1 hx hZ e1 fp4 (g := (mkF m 5 #[rv a1, rv wa, .unset, .unset] [(.ref wa)])) rfl rfl (hb hby d3_5)) ?_
  refine own_step (fun t k => XS.istoreN X1.here hx rfl (hb hby d3_6) rfl (l' := #[rv a1, rv wa, iv 3, .unset]) rfl k) ?_
  refine own_al X1.here hx rfl (hb hby d3_7) rfl rfl ?_
  refine own_ic X1.here hx rfl (hb hby d3_8) ?_
  show own_G p.tables e below _ (T1.setTop (mkF m 9 #[rv a1, rv wa, iv 3, .unset] [(.int 3), (.ref a1)]))
  refine own_il X1.here hx rfl (hb hby d3_9) rfl ?_
  refine own_step (fun t k => XS.iadd X1.here hx rfl (hb hby d3_10) rfl k) ?_
  obtain ⟨T2, h2, X2, e2, W2, st2⟩ := putF X1 hx hZ hown (host := "") (Or.inl (own_w hw 19 rfl)) Via.refl e1 fp1 fp0 (Or.inl (own_w hw 20 rfl)) (own_w hw 11 rfl) (ty := .int) (by decide) rfl rfl (g := (mkF m 11 #[rv a1, rv wa, iv 3, .unset] [(.int 6), (.ref a1)])) rfl rfl (hb hby d3_11)
  have N2 := Fr.snoc X2 N0 g_a1
  have c3 : Fld Z h2 a1 own_C "end" "I" (.int 6) := fp1.same W2
  have c4 : Exa Z h2 a1 own_C := fp0.wr W2
  have c6 : Fld Z h2 a1 own_C "keys" "[J" .null := fp2.other W2 (Or.inr (slot_ne (Or.inl (own_w hw 22 rfl)) (Or.inl (own_w hw 20 rfl)) (by decide) (t := (.array .long)) (t' := .int) (by decide) (by decide)))
  have c7 : Fld Z h2 a1 own_C "nodes" "[I" .null := fp3.other W2 (Or.inr (slot_ne (Or.inl (own_w hw 46 rfl)) (Or.inl (own_w hw 20 rfl)) (by decide) (t := (.array .int)) (t' := .int) (by decide) (by decide)))
  have c8 : own_Arj Z h2 wa [wt0, wt1, wt2] := fp4.other W2 ne_wa_a1
  have K2 : Keep h0 h2 [a1] := (Keep.refl h0 [a1]).wr W2 (Or.inl (List.mem_of_getElem? (i := 0) rfl))
  refine own_step st2 ?_
  refine own_al X2.here hx rfl (hb hby d3_14) rfl rfl ?_
  refine own_al X2.here hx rfl (hb hby d3_15) rfl rfl ?_
  obtain ⟨T9, X9, e9, st9⟩ := getF X2 hx hZ hown (host := "") (Or.inl (own_w hw 19 rfl)) Via.refl e2 c3 (g := (mkF m 16 #[rv a1, rv wa, iv 3, .unset] [(.ref a1), (.ref a1)])) rfl rfl (hb hby d3_16)
  refine own_step st9 ?_
  refine own_ic X9.here hx rfl (hb hby d3_19) ?_
  show own_G p.tables e below _ (T9.setTop (mkF m 20 #[rv a1, rv wa, iv 3, .unset] [(.int 4), (.int 6), (.ref a1)]))
  refine own_step (fun t k => XS.iadd X9.here hx rfl (hb hby d3_20) rfl k) ?_
  refine own_ic X9.here hx rfl (hb hby d3_21) ?_
  refine own_step (fun t k => XS.isub X9.here hx rfl (hb hby d3_22) rfl k) ?_
  obtain ⟨T10, h10, k10, X10, e10, E10, A10, st10⟩ := newP X9 hx hZ (own_w hw 5 rfl) e9 (g := (mkF m 23 #[rv a1, rv wa, iv 3, .unset] [(.int 9), (.ref a1)])) rfl (hb hby d3_23) rfl (by decide) (cap := 9) (by decide) (by decide) (by decide) (by decide)
  obtain ⟨b10, g10⟩ : ∃ z, z = h2.size := ⟨_, rfl⟩
  have ne11 : a1 ≠ b10 := Nat.ne_of_lt (Nat.lt_of_lt_of_le c4.lt (Nat.le_of_eq g10.symm))
  have ne12 : wa ≠ b10 := Nat.ne_of_lt (Nat.lt_of_lt_of_le c8.lt (Nat.le_of_eq g10.symm))
  have sz10 : h0.size ≤ b10 := Nat.le_trans K2.1 (Nat.le_of_eq g10.symm)
  have ge10 : n0 ≤ b10 := Nat.le_trans Z0 sz10
  have c13 : Exa Z h10 a1 own_C := c4.ext E10
  have c14 : Fld Z h10 a1 own_C "end" "I" (.int 6) := c3.ext E10
  have c15 : Fld Z h10 a1 own_C "keys" "[J" .null := c6.ext E10
  have c16 : Fld Z h10 a1 own_C "nodes" "[I" .null := c7.ext E10
  have c17 : own_Arj Z h10 wa [wt0, wt1, wt2] := c8.ext E10
  have K10 : Keep h0 h10 [a1] := K2.ext E10
  rw [← g10] at A10 st10
  have c18 : own_Arj Z h10 b10 [0, 0, 0, 0, 0, 0, 0, 0, 0] := own_Arj_new A10 (by decide)
  refine own_step st10 ?_
  obtain ⟨T19, h19, X19, e19, W19, st19⟩ := putF X10 hx hZ hown (host := "") (Or.inl (own_w hw 21 rfl)) Via.refl e10 c15 c13 (Or.inl (own_w hw 22 rfl)) (own_w hw 11 rfl) (ty := (.array .long)) (by decide) rfl rfl (g := (mkF m 25 #[rv a1, rv wa, iv 3, .unset] [(.ref b10), (.ref a1)])) rfl rfl (hb hby d3_25)
  have N19 := Fr.snoc X19 N2 g_a1
  have c20 : Fld Z h19 a1 own_C "keys" "[J" (.ref b10) := c15.same W19
  have c21 : Exa Z h19 a1 own_C := c13.wr W19
  have c22 : Fld Z h19 a1 own_C "end" "I" (.int 6) := c14.other W19 (Or.inr (slot_ne (Or.inl (own_w hw 20 rfl)) (Or.inl (own_w hw 22 rfl)) (by decide) (t := .int) (t' := (.array .long)) (by decide) (by decide)))
  have c24 : Fld Z h19 a1 own_C "nodes" "[I" .null := c16.other W19 (Or.inr (slot_ne (Or.inl (own_w hw 46 rfl)) (Or.inl (own_w hw 22 rfl)) (by decide) (t := (.array .int)) (t' := (.array .long)) (by decide) (by decide)))
  have c25 : own_Arj Z h19 wa [wt0, wt1, wt2] := c17.other W19 ne_wa_a1
  have c26 : own_Arj Z h19 b10 [0, 0, 0, 0, 0, 0, 0, 0, 0] := c18.other W19 (Ne.symm ne11)
  have K19 : Keep h0 h19 [a1] := K10.wr W19 (Or.inl (List.mem_of_getElem? (i := 0) rfl))
  refine own_step st19 ?_
  refine own_al X19.here hx rfl (hb hby d3_28) rfl rfl ?_
  obtain ⟨_, _, ⟨T27, L27, k27, n27⟩, -, X27, ⟨Lc27, hQ27, l27, y27, z27⟩, st27⟩ := Jvm.LawKit.callS X19 hx (y := own_y5) hown (mvT hZ (own_w hw 23 rfl)) (mvT hZ (own_w hw 24 rfl)) (mvT hZ (own_w hw 12 rfl)) (mvT hZ (own_w hw 25 rfl)) (by decide) (backOf (W := 0) (rm5_n3 l Z a0 hw [] wa wt0 wt1 wt2 h19 n0 (Nat.le_trans Z0 K19.1) c25) hZ (own_w hw 25 rfl) (own_w hw 12 rfl) (by decide) (by decide)) (g := (mkF m 29 #[rv a1, rv wa, iv 3, .unset] [(.ref wa)])) rfl (by rw [hml]; rfl) (argsL := [(.ref wa)]) (rest := []) (lenOf pd_3_p3_0 rfl) rfl (own_wl rfl) (hb hby d3_29) (fun _ _ => ⟨rfl, e19, (by decide : 1 + 0 ≤ _), (by decide : 9 + 0 ≤ _)⟩)
  dsimp only [Pt.U, Pt.locs, Pt.cells, Pt.slots] at X27 l27 y27 z27 st27 hQ27
  subst y27 z27
  obtain ⟨rfl, N27q, e27⟩ := hQ27
  have N27 : Fr n0 L27 := by rw [l27]; exact Fr.app N19 N27q
  refine own_step st27 ?_
  clear A10 E10 K10 K2 N19 N2 N27q W19 W2 X1 X10 X19 X2 X9 c13 c14 c15 c16 c17 c18 c3 c4 c6 c7 c8 e1 e10 e19 e2 e9 g10 st1 st10 st19 st2 st27 st9
  show own_G p.tables e below _ (T27.setTop (mkF m 32 #[rv a1, rv wa, iv 3, .unset] [(.int (own_f5_n3 wt0 wt1 wt2))]))
  have hk28 : ¬ ((own_f5_n3 wt0 wt1 wt2) = (0 : Int32)) := (by rw [hpk]; decide)
  refine own_step (fun t k => XS.ifNo X27.here hx rfl (hb hby d3_32) rfl ((if0 _ _).trans (feq hk28).1) k) ?_
  show own_G p.tables e below _ (T27.setTop (mkF m 35 #[rv a1, rv wa, iv 3, .unset] []))
  refine own_ic X27.here hx rfl (hb hby d3_35) ?_
  refine own_step (fun t k => XS.istoreN X27.here hx rfl (hb hby d3_36) rfl (l' := #[rv a1, rv wa, iv 3, iv 0]) rfl k) ?_
  refine own_il X27.here hx rfl (hb hby d3_37) rfl ?_
  refine own_il X27.here hx rfl (hb hby d3_38) rfl ?_
  have hk29 : (0 : Int32) < (3 : Int32) := (by decide)
  refine own_step (fun t k => XS.icmpNo X27.here hx rfl (hb hby d3_39) rfl ((tlt hk29).2.1) k) ?_
  show own_G p.tables e below _ (T27.setTop (mkF m 42 #[rv a1, rv wa, iv 3, iv 0] []))
  refine own_al X27.here hx rfl (hb hby d3_42) rfl rfl ?_
  obtain ⟨T30, X30, e30, st30⟩ := getF X27 hx hZ hown (host := "") (Or.inl (own_w hw 21 rfl)) Via.refl e27 c20 (g := (mkF m 43 #[rv a1, rv wa, iv 3, iv 0] [(.ref a1)])) rfl rfl (hb hby d3_43)
  refine own_step st30 ?_
  refine own_ic X30.here hx rfl (hb hby d3_46) ?_
  refine own_il X30.here hx rfl (hb hby d3_47) rfl ?_
  refine own_step (fun t k => XS.iadd X30.here hx rfl (hb hby d3_48) rfl k) ?_
  refine own_al X30.here hx rfl (hb hby d3_49) rfl rfl ?_
  refine own_il X30.here hx rfl (hb hby d3_50) rfl ?_
  show own_G p.tables e below _ (T30.setTop (mkF m 51 #[rv a1, rv wa, iv 3, iv 0] [(.int 0), (.ref wa), (.int 3), (.ref b10)]))
  refine own_step (own_laload X30 hx hZ e30 c25 (own_inb (by decide) (Nat.le_of_ble_eq_true rfl)) (g := (mkF m 51 #[rv a1, rv wa, iv 3, iv 0] [(.int 0), (.ref wa), (.int 3), (.ref b10)])) rfl rfl (hb hby d3_51)) ?_
  refine own_il X30.here hx rfl (hb hby d3_52) rfl ?_
  obtain ⟨_, _, ⟨T31, L31, k31, n31⟩, -, X31, ⟨Lc31, hQ31, l31, y31, z31⟩, st31⟩ := Jvm.LawKit.callS X30 hx (y := own_y6) hown (mvT hZ (own_w hw 27 rfl)) (mvT hZ (own_w hw 28 rfl)) (mvT hZ (own_w hw 12 rfl)) (mvT hZ (own_w hw 29 rfl)) (by decide) (backOf (W := 2) (rm6 l Z a0 hw [] wt0 (0 : Int32) h19 n0 (Nat.le_trans Z0 K19.1) ) hZ (own_w hw 29 rfl) (own_w hw 12 rfl) (by decide) (by decide)) (g := (mkF m 53 #[rv a1, rv wa, iv 3, iv 0] [(.int 0), (.long wt0), (.int 3), (.ref b10)])) rfl (by rw [hml]; rfl) (argsL := [(.long wt0), (.int 0)]) (rest := [(.int 3), (.ref b10)]) (lenOf pd_3_p3_1 rfl) rfl (own_wl rfl) (hb hby d3_53) (fun _ _ => ⟨rfl, e30, (by decide : 1 + 0 ≤ _), (by decide : 9 + 0 ≤ _)⟩)
  dsimp only [Pt.U, Pt.locs, Pt.cells, Pt.slots] at X31 l31 y31 z31 st31 hQ31
  subst y31 z31
  obtain ⟨rfl, N31q, e31⟩ := hQ31
  have N31 : Fr n0 L31 := by rw [l31]; exact Fr.app N27 N31q
  refine own_step st31 ?_
  obtain ⟨T32, h32, X32, e32, W32, c32, st32⟩ := own_lastore X31 hx hZ e31 c26 (own_inb (by decide) (Nat.le_of_ble_eq_true rfl)) (g := (mkF m 56 #[rv a1, rv wa, iv 3, iv 0] [(.long (own_pk wt0 (0 : Int32))), (.int 3), (.ref b10)])) rfl rfl (hb hby d3_56)
  have N32 := Fr.snoc X32 N31 ge10
  have c33 : own_Arj Z h32 b10 [0, 0, 0, (own_pk wt0 (0 : Int32)), 0, 0, 0, 0, 0] := c32
  have c34 : Exa Z h32 a1 own_C := c21.wr W32
  have c35 : Fld Z h32 a1 own_C "end" "I" (.int 6) := c22.other W32 (Or.inl ne11)
  have c36 : Fld Z h32 a1 own_C "keys" "[J" (.ref b10) := c20.other W32 (Or.inl ne11)
  have c37 : Fld Z h32 a1 own_C "nodes" "[I" .null := c24.other W32 (Or.inl ne11)
  have c38 : own_Arj Z h32 wa [wt0, wt1, wt2] := c25.other W32 ne12
  have K32 : Keep h0 h32 [a1] := K19.wr W32 (Or.inr sz10)
  refine own_step st32 ?_
  refine own_step (fun t k => XS.iinc X32.here hx rfl (hb hby d3_57) rfl (l' := #[rv a1, rv wa, iv 3, iv 1]) rfl k) ?_
  refine own_go X32.here hx rfl (pc0 := 60) (pc' := 37) rfl (hb hby d3_60) (by decide) (by decide) ?_
  refine own_il X32.here hx rfl (hb hby d3_37) rfl ?_
  clear K19 N27 N31 N31q W32 X27 X30 X31 c20 c21 c22 c24 c25 c26 c32 e27 e30 e31 hk28 hk29 st30 st31 st32
  show own_G p.tables e below _ (T32.setTop (mkF m 38 #[rv a1, rv wa, iv 3, iv 1] [(.int 1)]))
  refine own_il X32.here hx rfl (hb hby d3_38) rfl ?_
  have hk40 : (1 : Int32) < (3 : Int32) := (by decide)
  refine own_step (fun t k => XS.icmpNo X32.here hx rfl (hb hby d3_39) rfl ((tlt hk40).2.1) k) ?_
  show own_G p.tables e below _ (T32.setTop (mkF m 42 #[rv a1, rv wa, iv 3, iv 1] []))
  refine own_al X32.here hx rfl (hb hby d3_42) rfl rfl ?_
  obtain ⟨T41, X41, e41, st41⟩ := getF X32 hx hZ hown (host := "") (Or.inl (own_w hw 21 rfl)) Via.refl e32 c36 (g := (mkF m 43 #[rv a1, rv wa, iv 3, iv 1] [(.ref a1)])) rfl rfl (hb hby d3_43)
  refine own_step st41 ?_
  refine own_ic X41.here hx rfl (hb hby d3_46) ?_
  refine own_il X41.here hx rfl (hb hby d3_47) rfl ?_
  refine own_step (fun t k => XS.iadd X41.here hx rfl (hb hby d3_48) rfl k) ?_
  refine own_al X41.here hx rfl (hb hby d3_49) rfl rfl ?_
  refine own_il X41.here hx rfl (hb hby d3_50) rfl ?_
  show own_G p.tables e below _ (T41.setTop (mkF m 51 #[rv a1, rv wa, iv 3, iv 1] [(.int 1), (.ref wa), (.int 4), (.ref b10)]))
  refine own_step (own_laload X41 hx hZ e41 c38 (own_inb (by decide) (Nat.le_of_ble_eq_true rfl)) (g := (mkF m 51 #[rv a1, rv wa, iv 3, iv 1] [(.int 1), (.ref wa), (.int 4), (.ref b10)])) rfl rfl (hb hby d3_51)) ?_
  refine own_il X41.here hx rfl (hb hby d3_52) rfl ?_
  obtain ⟨_, _, ⟨T42, L42, k42, n42⟩, -, X42, ⟨Lc42, hQ42, l42, y42, z42⟩, st42⟩ := Jvm.LawKit.callS X41 hx (y := own_y6) hown (mvT hZ (own_w hw 27 rfl)) (mvT hZ (own_w hw 28 rfl)) (mvT hZ (own_w hw 12 rfl)) (mvT hZ (own_w hw 29 rfl)) (by decide) (backOf (W := 2) (rm6 l Z a0 hw [] wt1 (1 : Int32) h32 n0 (Nat.le_trans Z0 K32.1) ) hZ (own_w hw 29 rfl) (own_w hw 12 rfl) (by decide) (by decide)) (g := (mkF m 53 #[rv a1, rv wa, iv 3, iv 1] [(.int 1), (.long wt1), (.int 4), (.ref b10)])) rfl (by rw [hml]; rfl) (argsL := [(.long wt1), (.int 1)]) (rest := [(.int 4), (.ref b10)]) (lenOf pd_3_p3_1 rfl) rfl (own_wl rfl) (hb hby d3_53) (fun _ _ => ⟨rfl, e41, (by decide : 1 + 0 ≤ _), (by decide : 9 + 0 ≤ _)⟩)
  dsimp only [Pt.U, Pt.locs, Pt.cells, Pt.slots] at X42 l42 y42 z42 st42 hQ42
  subst y42 z42
  obtain ⟨rfl, N42q, e42⟩ := hQ42
  have N42 : Fr n0 L42 := by rw [l42]; exact Fr.app N32 N42q
  refine own_step st42 ?_
  obtain ⟨T43, h43, X43, e43, W43, c43, st43⟩ := own_lastore X42 hx hZ e42 c33 (own_inb (by decide) (Nat.le_of_ble_eq_true rfl)) (g := (mkF m 56 #[rv a1, rv wa, iv 3, iv 1] [(.long (own_pk wt1 (1 : Int32))), (.int 4), (.ref b10)])) rfl rfl (hb hby d3_56)
  have N43 := Fr.snoc X43 N42 ge10
  have c44 : own_Arj Z h43 b10 [0, 0, 0, (own_pk wt0 (0 : Int32)), (own_pk wt1 (1 : Int32)), 0, 0, 0, 0] := c43
  have c45 : Exa Z h43 a1 own_C := c34.wr W43
  have c46 : Fld Z h43 a1 own_C "end" "I" (.int 6) := c35.other W43 (Or.inl ne11)
  have c47 : Fld Z h43 a1 own_C "keys" "[J" (.ref b10) := c36.other W43 (Or.inl ne11)
  have c48 : Fld Z h43 a1 own_C "nodes" "[I" .null := c37.other W43 (Or.inl ne11)
  have c49 : own_Arj Z h43 wa [wt0, wt1, wt2] := c38.other W43 ne12
  have K43 : Keep h0 h43 [a1] := K32.wr W43 (Or.inr sz10)
  refine own_step st43 ?_
  refine own_step (fun t k => XS.iinc X43.here hx rfl (hb hby d3_57) rfl (l' := #[rv a1, rv wa, iv 3, iv 2]) rfl k) ?_
  refine own_go X43.here hx rfl (pc0 := 60) (pc' := 37) rfl (hb hby d3_60) (by decide) (by decide) ?_
  refine own_il X43.here hx rfl (hb hby d3_37) rfl ?_
  clear K32 N32 N42 N42q W43 X32 X41 X42 c33 c34 c35 c36 c37 c38 c43 e32 e41 e42 hk40 st41 st42 st43
  show own_G p.tables e below _ (T43.setTop (mkF m 38 #[rv a1, rv wa, iv 3, iv 2] [(.int 2)]))
  refine own_il X43.here hx rfl (hb hby d3_38) rfl ?_
  have hk51 : (2 : Int32) < (3 : Int32) := (by decide)
  refine own_step (fun t k => XS.icmpNo X43.here hx rfl (hb hby d3_39) rfl ((tlt hk51).2.1) k) ?_
  show own_G p.tables e below _ (T43.setTop (mkF m 42 #[rv a1, rv wa, iv 3, iv 2] []))
  refine own_al X43.here hx rfl (hb hby d3_42) rfl rfl ?_
  obtain ⟨T52, X52, e52, st52⟩ := getF X43 hx hZ hown (host := "") (Or.inl (own_w hw 21 rfl)) Via.refl e43 c47 (g := (mkF m 43 #[rv a1, rv wa, iv 3, iv 2] [(.ref a1)])) rfl rfl (hb hby d3_43)
  refine own_step st52 ?_
  refine own_ic X52.here hx rfl (hb hby d3_46) ?_
  refine own_il X52.here hx rfl (hb hby d3_47) rfl ?_
  refine own_step (fun t k => XS.iadd X52.here hx rfl (hb hby d3_48) rfl k) ?_
  refine own_al X52.here hx rfl (hb hby d3_49) rfl rfl ?_
  refine own_il X52.here hx rfl (hb hby d3_50) rfl ?_
  show own_G p.tables e below _ (T52.setTop (mkF m 51 #[rv a1, rv wa, iv 3, iv 2] [(.int 2), (.ref wa), (.int 5), (.ref b10)]))
  refine own_step (own_laload X52 hx hZ e52 c49 (own_inb (by decide) (Nat.le_of_ble_eq_true rfl)) (g := (mkF m 51 #[rv a1, rv wa, iv 3, iv 2] [(.int 2), (.ref wa), (.int 5), (.ref b10)])) rfl rfl (hb hby d3_51)) ?_
  refine own_il X52.here hx rfl (hb hby d3_52) rfl ?_
  obtain ⟨_, _, ⟨T53, L53, k53, n53⟩, -, X53, ⟨Lc53, hQ53, l53, y53, z53⟩, st53⟩ := Jvm.LawKit.callS X52 hx (y := own_y6) hown (mvT hZ (own_w hw 27 rfl)) (mvT hZ (own_w hw 28 rfl)) (mvT hZ (own_w hw 12 rfl)) (mvT hZ (own_w hw 29 rfl)) (by decide) (backOf (W := 2) (rm6 l Z a0 hw [] wt2 (2 : Int32) h43 n0 (Nat.le_trans Z0 K43.1) ) hZ (own_w hw 29 rfl) (own_w hw 12 rfl) (by decide) (by decide)) (g := (mkF m 53 #[rv a1, rv wa, iv 3, iv 2] [(.int 2), (.long wt2), (.int 5), (.ref b10)])) rfl (by rw [hml]; rfl) (argsL := [(.long wt2), (.int 2)]) (rest := [(.int 5), (.ref b10)]) (lenOf pd_3_p3_1 rfl) rfl (own_wl rfl) (hb hby d3_53) (fun _ _ => ⟨rfl, e52, (by decide : 1 + 0 ≤ _), (by decide : 9 + 0 ≤ _)⟩)
  dsimp only [Pt.U, Pt.locs, Pt.cells, Pt.slots] at X53 l53 y53 z53 st53 hQ53
  subst y53 z53
  obtain ⟨rfl, N53q, e53⟩ := hQ53
  have N53 : Fr n0 L53 := by rw [l53]; exact Fr.app N43 N53q
  refine own_step st53 ?_
  obtain ⟨T54, h54, X54, e54, W54, c54, st54⟩ := own_lastore X53 hx hZ e53 c44 (own_inb (by decide) (Nat.le_of_ble_eq_true rfl)) (g := (mkF m 56 #[rv a1, rv wa, iv 3, iv 2] [(.long (own_pk wt2 (2 : Int32))), (.int 5), (.ref b10)])) rfl rfl (hb hby d3_56)
  have N54 := Fr.snoc X54 N53 ge10
  have c55 : own_Arj Z h54 b10 [0, 0, 0, (own_pk wt0 (0 : Int32)), (own_pk wt1 (1 : Int32)), (own_pk wt2 (2 : Int32)), 0, 0, 0] := c54
  have c56 : Exa Z h54 a1 own_C := c45.wr W54
  have c57 : Fld Z h54 a1 own_C "end" "I" (.int 6) := c46.other W54 (Or.inl ne11)
  have c58 : Fld Z h54 a1 own_C "keys" "[J" (.ref b10) := c47.other W54 (Or.inl ne11)
  have c59 : Fld Z h54 a1 own_C "nodes" "[I" .null := c48.other W54 (Or.inl ne11)
  have c60 : own_Arj Z h54 wa [wt0, wt1, wt2] := c49.other W54 ne12
  have K54 : Keep h0 h54 [a1] := K43.wr W54 (Or.inr sz10)
  refine own_step st54 ?_
  refine own_step (fun t k => XS.iinc X54.here hx rfl (hb hby d3_57) rfl (l' := #[rv a1, rv wa, iv 3, iv 3]) rfl k) ?_
  refine own_go X54.here hx rfl (pc0 := 60) (pc' := 37) rfl (hb hby d3_60) (by decide) (by decide) ?_
  refine own_il X54.here hx rfl (hb hby d3_37) rfl ?_
  clear K43 N43 N53 N53q W54 X43 X52 X53 c44 c45 c46 c47 c48 c49 c54 e43 e52 e53 hk51 st52 st53 st54
  show own_G p.tables e below _ (T54.setTop (mkF m 38 #[rv a1, rv wa, iv 3, iv 3] [(.int 3)]))
  refine own_il X54.here hx rfl (hb hby d3_38) rfl ?_
  have hk62 : ¬ ((3 : Int32) < (3 : Int32)) := (by decide)
  refine own_step (fun t k => XS.icmpYes X54.here hx rfl (pc0 := 39) (pc' := 63) rfl (hb hby d3_39) rfl ((flt hk62).2.1) (by decide) (by decide) k) ?_
  show own_G p.tables e below _ (T54.setTop (mkF m 63 #[rv a1, rv wa, iv 3, iv 3] []))
  refine own_al X54.here hx rfl (hb hby d3_63) rfl rfl ?_
  obtain ⟨T63, X63, e63, st63⟩ := getF X54 hx hZ hown (host := "") (Or.inl (own_w hw 21 rfl)) Via.refl e54 c58 (g := (mkF m 64 #[rv a1, rv wa, iv 3, iv 3] [(.ref a1)])) rfl rfl (hb hby d3_64)
  refine own_step st63 ?_
  refine own_al X63.here hx rfl (hb hby d3_67) rfl rfl ?_
  obtain ⟨T64, X64, e64, st64⟩ := getF X63 hx hZ hown (host := "") (Or.inl (own_w hw 19 rfl)) Via.refl e63 c57 (g := (mkF m 68 #[rv a1, rv wa, iv 3, iv 3] [(.ref a1), (.ref b10)])) rfl rfl (hb hby d3_68)
  refine own_step st64 ?_
  refine own_al X64.here hx rfl (hb hby d3_71) rfl rfl ?_
  obtain ⟨T65, X65, e65, st65⟩ := getF X64 hx hZ hown (host := "") (Or.inl (own_w hw 21 rfl)) Via.refl e64 c58 (g := (mkF m 72 #[rv a1, rv wa, iv 3, iv 3] [(.ref a1), (.int 6), (.ref b10)])) rfl rfl (hb hby d3_72)
  refine own_step st65 ?_
  refine own_step (own_lenJ X65 hx hZ e65 c55 (g := (mkF m 75 #[rv a1, rv wa, iv 3, iv 3] [(.ref b10), (.int 6), (.ref b10)])) rfl rfl (hb hby d3_75)) ?_
  clear X54 X63 X64 e54 e63 e64 hk62 st63 st64 st65
  show own_G p.tables e below _ (T65.setTop (mkF m 76 #[rv a1, rv wa, iv 3, iv 3] [(.int 9), (.int 6), (.ref b10)]))
  refine own_step (X65.ldc2Long hx hown (mvT hZ (own_w hw 30 rfl)) (g := (mkF m 76 #[rv a1, rv wa, iv 3, iv 3] [(.int 9), (.int 6), (.ref b10)])) rfl (hb hby d3_76)) ?_
  obtain ⟨_, _, ⟨T66, L66, k66, n66⟩, -, X66, ⟨Lc66, hQ66, l66, y66, z66⟩, st66⟩ := Jvm.LawKit.callS X65 hx (y := own_y7) hown (mvT hZ (own_w hw 31 rfl)) (mvT hZ (own_w hw 32 rfl)) (mvT hZ (own_w hw 33 rfl)) (mvT hZ (own_w hw 34 rfl)) (by decide) (backOf (W := 0) (rm7_n3 l Z a0 hw [] b10 (9223372036854775807 : Int64) (0 : Int64) (0 : Int64) (0 : Int64) (own_pk wt0 (0 : Int32)) (own_pk wt1 (1 : Int32)) (own_pk wt2 (2 : Int32)) (0 : Int64) (0 : Int64) (0 : Int64) h54 n0 (Nat.le_trans Z0 K54.1) c55 ge10) hZ (own_w hw 34 rfl) (own_w hw 33 rfl) (by decide) (by decide)) (g := (mkF m 79 #[rv a1, rv wa, iv 3, iv 3] [(.long 9223372036854775807), (.int 9), (.int 6), (.ref b10)])) rfl (by rw [hml]; rfl) (argsL := [(.ref b10), (.int 6), (.int 9), (.long 9223372036854775807)]) (rest := []) (lenOf pd_3_p3_2 rfl) rfl (own_wl rfl) (hb hby d3_79) (fun _ _ => ⟨rfl, e65, (by decide : 1 + 0 ≤ _), (by decide : 9 + 0 ≤ _)⟩)
  dsimp only [Pt.U, Pt.locs, Pt.cells, Pt.slots] at X66 l66 y66 z66 st66 hQ66
  subst y66 z66
  obtain ⟨rfl, N66q, K66q, w66_0⟩ := hQ66
  have c67 : Exa Z T66.heap a1 own_C := c56.keep K66q
  have c68 : Fld Z T66.heap a1 own_C "end" "I" (.int 6) := c57.keep K66q (ninS ne11 nin0)
  have c69 : Fld Z T66.heap a1 own_C "keys" "[J" (.ref b10) := c58.keep K66q (ninS ne11 nin0)
  have c70 : Fld Z T66.heap a1 own_C "nodes" "[I" .null := c59.keep K66q (ninS ne11 nin0)
  have c71 : own_Arj Z T66.heap wa [wt0, wt1, wt2] := c60.keep K66q (ninS ne12 nin0)
  have K66 : Keep h0 T66.heap [a1] := K54.trans K66q (allS (Or.inr sz10) all0)
  have N66 : Fr n0 L66 := by rw [l66]; exact Fr.app N54 N66q
  refine own_step st66 ?_
  refine own_go X66.here hx rfl (pc0 := 82) (pc' := 129) rfl (hb hby d3_82) (by decide) (by decide) ?_
  refine own_al X66.here hx rfl (hb hby d3_129) rfl rfl ?_
  obtain ⟨T73, X73, e73, st73⟩ := getF X66 hx hZ hown (host := "") (Or.inl (own_w hw 19 rfl)) Via.refl rfl c68 (g := (mkF m 130 #[rv a1, rv wa, iv 3, iv 3] [(.ref a1)])) rfl rfl (hb hby d3_130)
  refine own_step st73 ?_
  refine own_ic X73.here hx rfl (hb hby d3_133) ?_
  refine own_step (fun t k => XS.isub X73.here hx rfl (hb hby d3_134) rfl k) ?_
  clear K54 K66q N54 N66q X65 X66 c55 c56 c57 c58 c59 c60 e65 st66 st73
  show own_G p.tables e below _ (T73.setTop (mkF m 135 #[rv a1, rv wa, iv 3, iv 3] [(.int 5)]))
  obtain ⟨_, _, ⟨T74, L74, k74, n74⟩, -, X74, ⟨Lc74, hQ74, l74, y74, z74⟩, st74⟩ := Jvm.LawKit.callS X73 hx (y := own_y9) hown (mvT hZ (own_w hw 38 rfl)) (mvT hZ (own_w hw 39 rfl)) (mvT hZ (own_w hw 12 rfl)) (mvT hZ (own_w hw 40 rfl)) (by decide) (backOf (W := 0) (rm9 l Z a0 hw [] (5 : Int32) T66.heap n0 (Nat.le_trans Z0 K66.1) ) hZ (own_w hw 40 rfl) (own_w hw 12 rfl) (by decide) (by decide)) (g := (mkF m 135 #[rv a1, rv wa, iv 3, iv 3] [(.int 5)])) rfl (by rw [hml]; rfl) (argsL := [(.int 5)]) (rest := []) (lenOf pd_3_p3_3 rfl) rfl (own_wl rfl) (hb hby d3_135) (fun _ _ => ⟨rfl, e73, (by decide : 1 + 0 ≤ _), (by decide : 9 + 0 ≤ _)⟩)
  dsimp only [Pt.U, Pt.locs, Pt.cells, Pt.slots] at X74 l74 y74 z74 st74 hQ74
  subst y74 z74
  obtain ⟨rfl, N74q, e74⟩ := hQ74
  have N74 : Fr n0 L74 := by rw [l74]; exact Fr.app N66 N74q
  refine own_step st74 ?_
  show own_G p.tables e below _ (T74.setTop (mkF m 138 #[rv a1, rv wa, iv 3, iv 3] [(.int 3)]))
  refine own_step (fun t k => XS.istoreN X74.here hx rfl (hb hby d3_138) rfl (l' := #[rv a1, rv wa, iv 3, iv 3]) rfl k) ?_
  refine own_il X74.here hx rfl (hb hby d3_139) rfl ?_
  refine own_ic X74.here hx rfl (hb hby d3_140) ?_
  have hk75 : ¬ ((3 : Int32) < (3 : Int32)) := (by decide)
  refine own_step (fun t k => XS.icmpNo X74.here hx rfl (hb hby d3_141) rfl ((flt hk75).1) k) ?_
  show own_G p.tables e below _ (T74.setTop (mkF m 144 #[rv a1, rv wa, iv 3, iv 3] []))
  refine own_al X74.here hx rfl (hb hby d3_144) rfl rfl ?_
  refine own_il X74.here hx rfl (hb hby d3_145) rfl ?_
  refine own_ic X74.here hx rfl (hb hby d3_146) ?_
  obtain ⟨cq76, q76, q76'⟩ := c67.cell
  obtain ⟨_, _, ⟨T76, L76, k76, n76⟩, -, X76, ⟨Lc76, hQ76, l76, y76, z76⟩, st76⟩ := X74.privateBack hx (y := own_y10) hown (mvT hZ (own_w hw 41 rfl)) (mvT hZ (own_w hw 42 rfl)) (mvT hZ (own_sp10 hw)) (Cond.privateMethod_at (mvP hZ (own_w hw 43 rfl) (args := #[]))) (mvT hZ (own_w hw 44 rfl)) (by decide) (backOf (W := 0) (rm10_p l Z a0 hw [] a1 (3 : Int32) (0 : Int32) b10 [(0 : Int64), (0 : Int64), (0 : Int64), (own_pk wt0 (0 : Int32)), (own_pk wt1 (1 : Int32)), (own_pk wt2 (2 : Int32)), (9223372036854775807 : Int64), (9223372036854775807 : Int64), (9223372036854775807 : Int64)] T66.heap n0 (Nat.le_trans Z0 K66.1) c69 c70 w66_0 ((own_inb (by decide) (Nat.le_of_ble_eq_true rfl)) : own_Inb (3 : Int32) [(0 : Int64), (0 : Int64), (0 : Int64), (own_pk wt0 (0 : Int32)), (own_pk wt1 (1 : Int32)), (own_pk wt2 (2 : Int32)), (9223372036854775807 : Int64), (9223372036854775807 : Int64), (9223372036854775807 : Int64)].length) ((own_inb (by decide) (Nat.le_of_ble_eq_true rfl)) : own_Inb (0 : Int32) [(0 : Int64), (0 : Int64), (0 : Int64), (own_pk wt0 (0 : Int32)), (own_pk wt1 (1 : Int32)), (own_pk wt2 (2 : Int32)), (9223372036854775807 : Int64), (9223372036854775807 : Int64), (9223372036854775807 : Int64)].length) ge10 ne11) hZ (own_w hw 44 rfl) (own_w hw 12 rfl) (by decide) (by decide)) (g := (mkF m 147 #[rv a1, rv wa, iv 3, iv 3] [(.int 0), (.int 3), (.ref a1)])) rfl (by rw [hml]; rfl) (Steps.refl _) (a := a1) (by rw [e74]; exact q76) q76' (argsL := [(.int 3), (.int 0)]) (rest := []) (lenOf pd_3_p3_4 rfl) rfl (own_wl rfl) (hb hby d3_147) (fun _ _ => ⟨rfl, e74, (by decide : 1 + 0 ≤ _), (by decide : 9 + 0 ≤ _)⟩)
  dsimp only [Pt.U, Pt.locs, Pt.cells, Pt.slots] at X76 l76 y76 z76 st76 hQ76
  subst y76 z76
  obtain ⟨rfl, N76q, K76q, w76_0⟩ := hQ76
  have c77 : Exa Z T76.heap a1 own_C := c67.keep K76q
  have c78 : Fld Z T76.heap a1 own_C "end" "I" (.int 6) := c68.keep K76q (ninS ne11 nin0)
  have c79 : Fld Z T76.heap a1 own_C "keys" "[J" (.ref b10) := c69.keep K76q (ninS ne11 nin0)
  have c80 : Fld Z T76.heap a1 own_C "nodes" "[I" .null := c70.keep K76q (ninS ne11 nin0)
  have c81 : own_Arj Z T76.heap wa [wt0, wt1, wt2] := c71.keep K76q (ninS ne12 nin0)
  have K76 : Keep h0 T76.heap [a1] := K66.trans K76q (allS (Or.inr sz10) all0)
  have c83 : own_Arj Z T76.heap b10 [(own_pk wt0 (0 : Int32)), 0, 0, (own_pk wt0 (0 : Int32)), (own_pk wt1 (1 : Int32)), (own_pk wt2 (2 : Int32)), 9223372036854775807, 9223372036854775807, 9223372036854775807] := w76_0
  have N76 : Fr n0 L76 := by rw [l76]; exact Fr.app N74 N76q
  refine own_step (fun t k => st76.trans k) ?_
  refine own_al X76.here hx rfl (hb hby d3_150) rfl rfl ?_
  refine own_il X76.here hx rfl (hb hby d3_151) rfl ?_
  obtain ⟨cq84, q84, q84'⟩ := c77.cell
  obtain ⟨_, _, ⟨T84, L84, k84, n84⟩, -, X84, ⟨Lc84, hQ84, l84, y84, z84⟩, st84⟩ := X76.privateBack hx (y := own_y11) hown (mvT hZ (own_w hw 47 rfl)) (mvT hZ (own_w hw 48 rfl)) (mvT hZ (own_sp11 hw)) (Cond.privateMethod_at (mvP hZ (own_w hw 49 rfl) (args := #[]))) (mvT hZ (own_w hw 50 rfl)) (by decide) (backOf (W := 0) (rm11_p l Z a0 hw [] a1 b10 (6 : Int32) [(own_pk wt0 (0 : Int32)), (0 : Int64), (0 : Int64), (own_pk wt0 (0 : Int32)), (own_pk wt1 (1 : Int32)), (own_pk wt2 (2 : Int32)), (9223372036854775807 : Int64), (9223372036854775807 : Int64), (9223372036854775807 : Int64)] T76.heap n0 (Nat.le_trans Z0 K76.1) c77 c79 c78 c80 c83 ((by decide) : (4 : Int32) < (6 : Int32)) ((by decide) : ¬ (8 : Int32) < (6 : Int32)) ((Nat.le_of_ble_eq_true rfl) : 8 ≤ [(own_pk wt0 (0 : Int32)), (0 : Int64), (0 : Int64), (own_pk wt0 (0 : Int32)), (own_pk wt1 (1 : Int32)), (own_pk wt2 (2 : Int32)), (9223372036854775807 : Int64), (9223372036854775807 : Int64), (9223372036854775807 : Int64)].length) ge10 ne11) hZ (own_w hw 50 rfl) (own_w hw 12 rfl) (by decide) (by decide)) (g := (mkF m 152 #[rv a1, rv wa, iv 3, iv 3] [(.int 3), (.ref a1)])) rfl (by rw [hml]; rfl) (Steps.refl _) (a := a1) q84 q84' (argsL := [(.int 3)]) (rest := []) (lenOf pd_3_p3_5 rfl) rfl (own_wl rfl) (hb hby d3_152) (fun _ _ => ⟨rfl, rfl, (by decide : 1 + 0 ≤ _), (by decide : 9 + 0 ≤ _)⟩)
  dsimp only [Pt.U, Pt.locs, Pt.cells, Pt.slots] at X84 l84 y84 z84 st84 hQ84
  subst y84 z84
  obtain ⟨bx84_L_ky, rfl, N84q, K84q, w84_0, pr84_0⟩ := hQ84
  have c85 : Exa Z T84.heap a1 own_C := c77.keep K84q
  have c86 : Fld Z T84.heap a1 own_C "end" "I" (.int 6) := c78.keep K84q (ninS ne11 nin0)
  have c87 : Fld Z T84.heap a1 own_C "keys" "[J" (.ref b10) := c79.keep K84q (ninS ne11 nin0)
  have c88 : Fld Z T84.heap a1 own_C "nodes" "[I" .null := c80.keep K84q (ninS ne11 nin0)
  have c89 : own_Arj Z T84.heap wa [wt0, wt1, wt2] := c81.keep K84q (ninS ne12 nin0)
  have K84 : Keep h0 T84.heap [a1] := K76.trans K84q (allS (Or.inr sz10) all0)
  have N84 : Fr n0 L84 := by rw [l84]; exact Fr.app N76 N84q
  refine own_step (fun t k => st84.trans k) ?_
  clear K66 K76 K76q K84q N66 N74 N74q N76 N76q N84q X73 X74 X76 c67 c68 c69 c70 c71 c77 c78 c79 c80 c81 c83 e73 e74 hk75 q76 q76' q84 q84' st74 st76 st84 w66_0 w76_0
  show own_G p.tables e below _ (T84.setTop (mkF m 155 #[rv a1, rv wa, iv 3, iv 3] []))
  refine own_step (fun t k => XS.iinc X84.here hx rfl (hb hby d3_155) rfl (l' := #[rv a1, rv wa, iv 3, iv 2]) rfl k) ?_
  refine own_go X84.here hx rfl (pc0 := 158) (pc' := 139) rfl (hb hby d3_158) (by decide) (by decide) ?_
  refine own_il X84.here hx rfl (hb hby d3_139) rfl ?_
  refine own_ic X84.here hx rfl (hb hby d3_140) ?_
  have hk91 : (2 : Int32) < (3 : Int32) := (by decide)
  refine own_step (fun t k => XS.icmpYes X84.here hx rfl (pc0 := 141) (pc' := 161) rfl (hb hby d3_141) rfl ((tlt hk91).1) (by decide) (by decide) k) ?_
  show own_G p.tables e below _ (T84.setTop (mkF m 161 #[rv a1, rv wa, iv 3, iv 2] []))
  obtain ⟨fs, hr, hrun, hended, hW, hsame⟩ := X84.leave (v := none) (fun _ => rfl)
  refine own_done (X84.returnOut hx Bd.returns (hb hby d3_161) hr) hrun hended ⟨_, _, rfl, ?_, ⟨_, rfl⟩, hW, hsame.mono (by decide) (by decide)⟩
  show Q3_p3 Z a1 wa wt0 wt1 wt2 h0 n0 _ T84.heap _
  exact ⟨b10, _, rfl, N84, K84, c86, c87, c88, w84_0, sz10, (by have hbq := own_f5b_n3 hpk; obtain ⟨hbq0, hbq1, hbq2⟩ := hbq; exact ⟨pr84_0.1, (own_P (own_R_pk (i := 0) hnn0 hbq0 (by decide) (by decide)) (own_R_pk (i := 1) hnn1 hbq1 (by decide) (by decide)) (own_R_pk (i := 2) hnn2 hbq2 (by decide) (by decide)) own_R_max own_R_max pr84_0.2).trans (by omega)⟩)⟩
theorem pn_3_u3 : plainName "com/example/leafcode/leafcode/FourWayHeap" = true := by first | (simp [plainName, overriddenIn]; done) | decide +kernel
theorem pd_3_u3_0 : parseMethodDescriptor "([J)Z" = some ⟨[(.array .long)], some .boolean⟩ := by decide +kernel
theorem pd_3_u3_1 : parseMethodDescriptor "(I)I" = some ⟨[.int], some .int⟩ := by decide +kernel
theorem pd_3_u3_2 : parseMethodDescriptor "(II)V" = some ⟨[.int, .int], none⟩ := by decide +kernel
theorem pd_3_u3_3 : parseMethodDescriptor "(I)V" = some ⟨[.int], none⟩ := by decide +kernel
theorem ef_3_u3 (m : MethodId) (a1 : Addr) (wa : Addr) : entryFrame m #[(.ref a1), (.ref wa)] 4 = mkF m 0 #[rv a1, rv wa, .unset, .unset] [] := by first | (simp [entryFrame, mkF, argsToLocals, Value.category]; done) | rfl
def Q3_u3 (Z : State) (a1 : Addr) (wa : Addr) (wt0 : Int64) (wt1 : Int64) (wt2 : Int64) (h0 : Heap) (n0 : Nat) (v : Option Value) (h : Heap) (L : List Loc) : Prop := ∃ (x1 : Addr) (x2 : Addr) (L_x1 : List Int64) (L_x2 : List Int32), v = none ∧ Fr n0 L ∧ Keep h0 h [a1] ∧ Fld Z h a1 own_C "end" "I" (.int 6) ∧ Fld Z h a1 own_C "keys" "[J" (.ref x1) ∧ Fld Z h a1 own_C "nodes" "[I" (.ref x2) ∧ own_Arj Z h x1 L_x1 ∧ own_Ari Z h x2 .int L_x2 ∧ h0.size ≤ x1 ∧ h0.size ≤ x2 ∧ x1 ≠ x2 ∧ (L_x1.length = 9 ∧ (L_x1.getD 3 0).toInt = (min (min wt0.toInt wt1.toInt) wt2.toInt)) ∧ (True)
set_option maxRecDepth 65536 in
set_option maxHeartbeats 40000000 in
theorem rm3_u3 (l : Launch) (Z : State) (a0 : Array Value) (hw : ∀ d ∈ tables_1, d.before a0 Z = true) (ws : List Jvm.Cond) (a1 : Addr) (wa : Addr) (wt0 : Int64) (wt1 : Int64) (wt2 : Int64) (h0 : Heap) (n0 : Nat) (Z0 : n0 ≤ h0.size) (fp0 : Exa Z h0 a1 own_C) (fp1 : Fld Z h0 a1 own_C "end" "I" (.int 0)) (fp2 : Fld Z h0 a1 own_C "keys" "[J" .null) (fp3 : Fld Z h0 a1 own_C "nodes" "[I" .null) (fp4 : own_Arj Z h0 wa [wt0, wt1, wt2]) (hpk : own_f5_n3 wt0 wt1 wt2 = 0) (g_a1 : n0 ≤ a1) (ne_wa_a1 : wa ≠ a1) :
    MetFree l (⟨"com/example/leafcode/leafcode/FourWayHeap", "<init>", "([J)V"⟩ : MethodName) (head1 (Jvm.Cond.code (⟨"com/example/leafcode/leafcode/FourWayHeap", "<init>", "([J)V"⟩ : MethodName) prog_20_method_1_code 4 none :: ws) ({ frames := 4, cells := 2, slots := 18, locals := 83 } : Room)) (fun a U => a = #[(.ref a1), (.ref wa)] ∧ Z.Warmed39 U.vm ∧ U.heap = h0) (fun _ _ _ _ _ => True) (fun _ U o U' => ∃ v L, o = .returned v ∧ Q3_u3 Z a1 wa wt0 wt1 wt2 h0 n0 v U'.heap L ∧ FrameEnd U o U' L ({ frames := 4, cells := 2, slots := 18, locals := 83 } : Room).cells ({ frames := 4, cells := 2, slots := 18, locals := 83 } : Room).slots) := by
  refine MetFree.of_bodySF (plainFor_of_name pn_3_u3) hisR ?_
  intro p e s m args below meth c s₁ Bd hml0 hP hK
  obtain ⟨rfl, hZ, hh⟩ := hP
  have hx := Bd.exec
  have hby := Bd.bytes
  have hml : c.maxLocals = 4 := hml0
  have hown : s.vm.findClass "com/example/leafcode/leafcode/FourWayHeap" = some m.cls := findClass_of_methodNamed Bd.named
  have hnm := (name_of_methodNamed Bd.named Bd.method).1
  have X0 : Stand p l e ({ frames := 4, cells := 2, slots := 18, locals := 83 } : Room) s m #[(.ref a1), (.ref wa)] below meth c s₁ [] 0 0 := Stand.of_body Bd
  have e0 : s₁.heap = h0 := by rw [← hh, Bd.state]; rfl
  have N0 := Fr.nil n0
  refine own_start (fun t k => castTop (ef_3_u3 m a1 wa) k) ?_
  show own_G p.tables e below _ (s₁.setTop (mkF m 0 #[rv a1, rv wa, .unset, .unset] []))
  refine own_al X0.here hx rfl (hb hby d3_0) rfl rfl ?_
  obtain ⟨T1, X1, e1, st1⟩ := initO X0 hx hZ hown (own_w hw 16 rfl) (own_w hw 17 rfl) (own_w hw 18 rfl) e0 (g := (mkF m 1 #[rv a1, rv wa, .unset, .unset] [(.ref a1)])) rfl (by rw [hml]; rfl) rfl (hb hby d3_1) (by decide) (W := 0) (by show 2 * 0 + _ ≤ _; exact Nat.le_of_eq rfl) (by decide)
  refine own_step st1 ?_
  refine own_al X1.here hx rfl (hb hby d3_4) rfl rfl ?_
  refine own_step (own_lenJ X1 hx hZ e1 fp4 (g := (mkF m 5 #[rv a1, rv wa, .unset, .unset] [(.ref wa)])) rfl rfl (hb hby d3_5)) ?_
  refine own_step (fun t k => XS.istoreN X1.here hx rfl (hb hby d3_6) rfl (l' := #[rv a1, rv wa, iv 3, .unset]) rfl k) ?_
  refine own_al X1.here hx rfl (hb hby d3_7) rfl rfl ?_
  refine own_ic X1.here hx rfl (hb hby d3_8) ?_
  show own_G p.tables e below _ (T1.setTop (mkF m 9 #[rv a1, rv wa, iv 3, .unset] [(.int 3), (.ref a1)]))
  refine own_il X1.here hx rfl (hb hby d3_9) rfl ?_
  refine own_step (fun t k => XS.iadd X1.here hx rfl (hb hby d3_10) rfl k) ?_
  obtain ⟨T2, h2, X2, e2, W2, st2⟩ := putF X1 hx hZ hown (host := "") (Or.inl (own_w hw 19 rfl)) Via.refl e1 fp1 fp0 (Or.inl (own_w hw 20 rfl)) (own_w hw 11 rfl) (ty := .int) (by decide) rfl rfl (g := (mkF m 11 #[rv a1, rv wa, iv 3, .unset] [(.int 6), (.ref a1)])) rfl rfl (hb hby d3_11)
  have N2 := Fr.snoc X2 N0 g_a1
  have c3 : Fld Z h2 a1 own_C "end" "I" (.int 6) := fp1.same W2
  have c4 : Exa Z h2 a1 own_C := fp0.wr W2
  have c6 : Fld Z h2 a1 own_C "keys" "[J" .null := fp2.other W2 (Or.inr (slot_ne (Or.inl (own_w hw 22 rfl)) (Or.inl (own_w hw 20 rfl)) (by decide) (t := (.array .long)) (t' := .int) (by decide) (by decide)))
  have c7 : Fld Z h2 a1 own_C "nodes" "[I" .null := fp3.other W2 (Or.inr (slot_ne (Or.inl (own_w hw 46 rfl)) (Or.inl (own_w hw 20 rfl)) (by decide) (t := (.array .int)) (t' := .int) (by decide) (by decide)))
  have c8 : own_Arj Z h2 wa [wt0, wt1, wt2] := fp4.other W2 ne_wa_a1
  have K2 : Keep h0 h2 [a1] := (Keep.refl h0 [a1]).wr W2 (Or.inl (List.mem_of_getElem? (i := 0) rfl))
  refine own_step st2 ?_
  refine own_al X2.here hx rfl (hb hby d3_14) rfl rfl ?_
  refine own_al X2.here hx rfl (hb hby d3_15) rfl rfl ?_
  obtain ⟨T9, X9, e9, st9⟩ := getF X2 hx hZ hown (host := "") (Or.inl (own_w hw 19 rfl)) Via.refl e2 c3 (g := (mkF m 16 #[rv a1, rv wa, iv 3, .unset] [(.ref a1), (.ref a1)])) rfl rfl (hb hby d3_16)
  refine own_step st9 ?_
  refine own_ic X9.here hx rfl (hb hby d3_19) ?_
  show own_G p.tables e below _ (T9.setTop (mkF m 20 #[rv a1, rv wa, iv 3, .unset] [(.int 4), (.int 6), (.ref a1)]))
  refine own_step (fun t k => XS.iadd X9.here hx rfl (hb hby d3_20) rfl k) ?_
  refine own_ic X9.here hx rfl (hb hby d3_21) ?_
  refine own_step (fun t k => XS.isub X9.here hx rfl (hb hby d3_22) rfl k) ?_
  obtain ⟨T10, h10, k10, X10, e10, E10, A10, st10⟩ := newP X9 hx hZ (own_w hw 5 rfl) e9 (g := (mkF m 23 #[rv a1, rv wa, iv 3, .unset] [(.int 9), (.ref a1)])) rfl (hb hby d3_23) rfl (by decide) (cap := 9) (by decide) (by decide) (by decide) (by decide)
  obtain ⟨b10, g10⟩ : ∃ z, z = h2.size := ⟨_, rfl⟩
  have ne11 : a1 ≠ b10 := Nat.ne_of_lt (Nat.lt_of_lt_of_le c4.lt (Nat.le_of_eq g10.symm))
  have ne12 : wa ≠ b10 := Nat.ne_of_lt (Nat.lt_of_lt_of_le c8.lt (Nat.le_of_eq g10.symm))
  have sz10 : h0.size ≤ b10 := Nat.le_trans K2.1 (Nat.le_of_eq g10.symm)
  have ge10 : n0 ≤ b10 := Nat.le_trans Z0 sz10
  have c13 : Exa Z h10 a1 own_C := c4.ext E10
  have c14 : Fld Z h10 a1 own_C "end" "I" (.int 6) := c3.ext E10
  have c15 : Fld Z h10 a1 own_C "keys" "[J" .null := c6.ext E10
  have c16 : Fld Z h10 a1 own_C "nodes" "[I" .null := c7.ext E10
  have c17 : own_Arj Z h10 wa [wt0, wt1, wt2] := c8.ext E10
  have K10 : Keep h0 h10 [a1] := K2.ext E10
  rw [← g10] at A10 st10
  have c18 : own_Arj Z h10 b10 [0, 0, 0, 0, 0, 0, 0, 0, 0] := own_Arj_new A10 (by decide)
  refine own_step st10 ?_
  obtain ⟨T19, h19, X19, e19, W19, st19⟩ := putF X10 hx hZ hown (host := "") (Or.inl (own_w hw 21 rfl)) Via.refl e10 c15 c13 (Or.inl (own_w hw 22 rfl)) (own_w hw 11 rfl) (ty := (.array .long)) (by decide) rfl rfl (g := (mkF m 25 #[rv a1, rv wa, iv 3, .unset] [(.ref b10), (.ref a1)])) rfl rfl (hb hby d3_25)
  have N19 := Fr.snoc X19 N2 g_a1
  have c20 : Fld Z h19 a1 own_C "keys" "[J" (.ref b10) := c15.same W19
  have c21 : Exa Z h19 a1 own_C := c13.wr W19
  have c22 : Fld Z h19 a1 own_C "end" "I" (.int 6) := c14.other W19 (Or.inr (slot_ne (Or.inl (own_w hw 20 rfl)) (Or.inl (own_w hw 22 rfl)) (by decide) (t := .int) (t' := (.array .long)) (by decide) (by decide)))
  have c24 : Fld Z h19 a1 own_C "nodes" "[I" .null := c16.other W19 (Or.inr (slot_ne (Or.inl (own_w hw 46 rfl)) (Or.inl (own_w hw 22 rfl)) (by decide) (t := (.array .int)) (t' := (.array .long)) (by decide) (by decide)))
  have c25 : own_Arj Z h19 wa [wt0, wt1, wt2] := c17.other W19 ne_wa_a1
  have c26 : own_Arj Z h19 b10 [0, 0, 0, 0, 0, 0, 0, 0, 0] := c18.other W19 (Ne.symm ne11)
  have K19 : Keep h0 h19 [a1] := K10.wr W19 (Or.inl (List.mem_of_getElem? (i := 0) rfl))
  refine own_step st19 ?_
  refine own_al X19.here hx rfl (hb hby d3_28) rfl rfl ?_
  obtain ⟨_, _, ⟨T27, L27, k27, n27⟩, -, X27, ⟨Lc27, hQ27, l27, y27, z27⟩, st27⟩ := Jvm.LawKit.callS X19 hx (y := own_y5) hown (mvT hZ (own_w hw 23 rfl)) (mvT hZ (own_w hw 24 rfl)) (mvT hZ (own_w hw 12 rfl)) (mvT hZ (own_w hw 25 rfl)) (by decide) (backOf (W := 0) (rm5_n3 l Z a0 hw [] wa wt0 wt1 wt2 h19 n0 (Nat.le_trans Z0 K19.1) c25) hZ (own_w hw 25 rfl) (own_w hw 12 rfl) (by decide) (by decide)) (g := (mkF m 29 #[rv a1, rv wa, iv 3, .unset] [(.ref wa)])) rfl (by rw [hml]; rfl) (argsL := [(.ref wa)]) (rest := []) (lenOf pd_3_u3_0 rfl) rfl (own_wl rfl) (hb hby d3_29) (fun _ _ => ⟨rfl, e19, (by decide : 1 + 0 ≤ _), (by decide : 9 + 0 ≤ _)⟩)
  dsimp only [Pt.U, Pt.locs, Pt.cells, Pt.slots] at X27 l27 y27 z27 st27 hQ27
  subst y27 z27
  obtain ⟨rfl, N27q, e27⟩ := hQ27
  have N27 : Fr n0 L27 := by rw [l27]; exact Fr.app N19 N27q
  refine own_step st27 ?_
  clear A10 E10 K10 K2 N19 N2 N27q W19 W2 X1 X10 X19 X2 X9 c13 c14 c15 c16 c17 c18 c3 c4 c6 c7 c8 e1 e10 e19 e2 e9 g10 st1 st10 st19 st2 st27 st9
  show own_G p.tables e below _ (T27.setTop (mkF m 32 #[rv a1, rv wa, iv 3, .unset] [(.int (own_f5_n3 wt0 wt1 wt2))]))
  have hk28 : (own_f5_n3 wt0 wt1 wt2) = (0 : Int32) := hpk
  refine own_step (fun t k => XS.ifYes X27.here hx rfl (pc0 := 32) (pc' := 85) rfl (hb hby d3_32) rfl ((if0 _ _).trans (teq hk28).1) (by decide) (by decide) k) ?_
  show own_G p.tables e below _ (T27.setTop (mkF m 85 #[rv a1, rv wa, iv 3, .unset] []))
  refine own_al X27.here hx rfl (hb hby d3_85) rfl rfl ?_
  refine own_al X27.here hx rfl (hb hby d3_86) rfl rfl ?_
  obtain ⟨T29, X29, e29, st29⟩ := getF X27 hx hZ hown (host := "") (Or.inl (own_w hw 21 rfl)) Via.refl e27 c20 (g := (mkF m 87 #[rv a1, rv wa, iv 3, .unset] [(.ref a1), (.ref a1)])) rfl rfl (hb hby d3_87)
  refine own_step st29 ?_
  refine own_step (own_lenJ X29 hx hZ e29 c26 (g := (mkF m 90 #[rv a1, rv wa, iv 3, .unset] [(.ref b10), (.ref a1)])) rfl rfl (hb hby d3_90)) ?_
  obtain ⟨T30, h30, k30, X30, e30, E30, A30, st30⟩ := newP X29 hx hZ (own_w hw 68 rfl) e29 (g := (mkF m 91 #[rv a1, rv wa, iv 3, .unset] [(.int 9), (.ref a1)])) rfl (hb hby d3_91) rfl (by decide) (cap := 9) (by decide) (by decide) (by decide) (by decide)
  obtain ⟨b30, g30⟩ : ∃ z, z = h19.size := ⟨_, rfl⟩
  have ne31 : a1 ≠ b30 := Nat.ne_of_lt (Nat.lt_of_lt_of_le c21.lt (Nat.le_of_eq g30.symm))
  have ne32 : wa ≠ b30 := Nat.ne_of_lt (Nat.lt_of_lt_of_le c25.lt (Nat.le_of_eq g30.symm))
  have ne33 : b10 ≠ b30 := Nat.ne_of_lt (Nat.lt_of_lt_of_le c26.lt (Nat.le_of_eq g30.symm))
  have sz30 : h0.size ≤ b30 := Nat.le_trans K19.1 (Nat.le_of_eq g30.symm)
  have ge30 : n0 ≤ b30 := Nat.le_trans Z0 sz30
  have c34 : Exa Z h30 a1 own_C := c21.ext E30
  have c35 : Fld Z h30 a1 own_C "end" "I" (.int 6) := c22.ext E30
  have c36 : Fld Z h30 a1 own_C "keys" "[J" (.ref b10) := c20.ext E30
  have c37 : Fld Z h30 a1 own_C "nodes" "[I" .null := c24.ext E30
  have c38 : own_Arj Z h30 wa [wt0, wt1, wt2] := c25.ext E30
  have c39 : own_Arj Z h30 b10 [0, 0, 0, 0, 0, 0, 0, 0, 0] := c26.ext E30
  have K30 : Keep h0 h30 [a1] := K19.ext E30
  rw [← g30] at A30 st30
  have c40 : own_Ari Z h30 b30 .int [0, 0, 0, 0, 0, 0, 0, 0, 0] := own_Ari_new (ty := .int) A30 (by decide) rfl
  refine own_step st30 ?_
  obtain ⟨T41, h41, X41, e41, W41, st41⟩ := putF X30 hx hZ hown (host := "") (Or.inl (own_w hw 45 rfl)) Via.refl e30 c37 c34 (Or.inl (own_w hw 46 rfl)) (own_w hw 11 rfl) (ty := (.array .int)) (by decide) rfl rfl (g := (mkF m 93 #[rv a1, rv wa, iv 3, .unset] [(.ref b30), (.ref a1)])) rfl rfl (hb hby d3_93)
  have N41 := Fr.snoc X41 N27 g_a1
  have c42 : Fld Z h41 a1 own_C "nodes" "[I" (.ref b30) := c37.same W41
  have c43 : Exa Z h41 a1 own_C := c34.wr W41
  have c44 : Fld Z h41 a1 own_C "end" "I" (.int 6) := c35.other W41 (Or.inr (slot_ne (Or.inl (own_w hw 20 rfl)) (Or.inl (own_w hw 46 rfl)) (by decide) (t := .int) (t' := (.array .int)) (by decide) (by decide)))
  have c45 : Fld Z h41 a1 own_C "keys" "[J" (.ref b10) := c36.other W41 (Or.inr (slot_ne (Or.inl (own_w hw 22 rfl)) (Or.inl (own_w hw 46 rfl)) (by decide) (t := (.array .long)) (t' := (.array .int)) (by decide) (by decide)))
  have c47 : own_Arj Z h41 wa [wt0, wt1, wt2] := c38.other W41 ne_wa_a1
  have c48 : own_Arj Z h41 b10 [0, 0, 0, 0, 0, 0, 0, 0, 0] := c39.other W41 (Ne.symm ne11)
  have c49 : own_Ari Z h41 b30 .int [0, 0, 0, 0, 0, 0, 0, 0, 0] := c40.other W41 (Ne.symm ne31)
  have K41 : Keep h0 h41 [a1] := K30.wr W41 (Or.inl (List.mem_of_getElem? (i := 0) rfl))
  refine own_step st41 ?_
  refine own_al X41.here hx rfl (hb hby d3_96) rfl rfl ?_
  clear A30 E30 K19 K30 N27 W41 X27 X29 X30 c20 c21 c22 c24 c25 c26 c34 c35 c36 c37 c38 c39 c40 e27 e29 e30 g30 hk28 st29 st30 st41
  show own_G p.tables e below _ (T41.setTop (mkF m 97 #[rv a1, rv wa, iv 3, .unset] [(.ref wa)]))
  refine own_ic X41.here hx rfl (hb hby d3_97) ?_
  refine own_al X41.here hx rfl (hb hby d3_98) rfl rfl ?_
  obtain ⟨T50, X50, e50, st50⟩ := getF X41 hx hZ hown (host := "") (Or.inl (own_w hw 21 rfl)) Via.refl e41 c45 (g := (mkF m 99 #[rv a1, rv wa, iv 3, .unset] [(.ref a1), (.int 0), (.ref wa)])) rfl rfl (hb hby d3_99)
  refine own_step st50 ?_
  refine own_ic X50.here hx rfl (hb hby d3_102) ?_
  refine own_il X50.here hx rfl (hb hby d3_103) rfl ?_
  obtain ⟨T51, h51, L51, X51, e51, N51, K51q, A51, st51⟩ := own_cpJ X50 hx hZ hown (own_w hw 69 rfl) (own_w hw 72 rfl) (own_w hw 70 rfl) (own_w hw 71 rfl) e50 c47 c48 (by decide) (by decide) (by decide) (Nat.le_of_ble_eq_true rfl) (Nat.le_of_ble_eq_true rfl) N41 ge10 (g := (mkF m 104 #[rv a1, rv wa, iv 3, .unset] [(.int 3), (.int 3), (.ref b10), (.int 0), (.ref wa)])) rfl (by rw [hml]; rfl) rfl (hb hby d3_104) (by decide) (W := 0) (by show 2 * 0 + _ ≤ _; exact Nat.le_of_eq rfl) (by decide)
  have c52 : Exa Z h51 a1 own_C := c43.keep K51q
  have c53 : Fld Z h51 a1 own_C "end" "I" (.int 6) := c44.keep K51q (ninS ne11 nin0)
  have c54 : Fld Z h51 a1 own_C "keys" "[J" (.ref b10) := c45.keep K51q (ninS ne11 nin0)
  have c55 : Fld Z h51 a1 own_C "nodes" "[I" (.ref b30) := c42.keep K51q (ninS ne11 nin0)
  have c56 : own_Arj Z h51 wa [wt0, wt1, wt2] := c47.keep K51q (ninS ne12 nin0)
  have c58 : own_Ari Z h51 b30 .int [0, 0, 0, 0, 0, 0, 0, 0, 0] := c49.keep K51q (ninS (Ne.symm ne33) nin0)
  have c59 : own_Arj Z h51 b10 [0, 0, 0, wt0, wt1, wt2, 0, 0, 0] := A51
  have K51 : Keep h0 h51 [a1] := K41.trans K51q (allS (Or.inr sz10) all0)
  refine own_step st51 ?_
  refine own_ic X51.here hx rfl (hb hby d3_107) ?_
  clear A51 K41 K51q N41 X41 X50 c42 c43 c44 c45 c47 c48 c49 e41 e50 st50 st51
  show own_G p.tables e below _ (T51.setTop (mkF m 108 #[rv a1, rv wa, iv 3, .unset] [(.int 0)]))
  refine own_step (fun t k => XS.istoreN X51.here hx rfl (hb hby d3_108) rfl (l' := #[rv a1, rv wa, iv 3, iv 0]) rfl k) ?_
  refine own_il X51.here hx rfl (hb hby d3_109) rfl ?_
  refine own_il X51.here hx rfl (hb hby d3_110) rfl ?_
  have hk60 : (0 : Int32) < (3 : Int32) := (by decide)
  refine own_step (fun t k => XS.icmpNo X51.here hx rfl (hb hby d3_111) rfl ((tlt hk60).2.1) k) ?_
  show own_G p.tables e below _ (T51.setTop (mkF m 114 #[rv a1, rv wa, iv 3, iv 0] []))
  refine own_al X51.here hx rfl (hb hby d3_114) rfl rfl ?_
  obtain ⟨T61, X61, e61, st61⟩ := getF X51 hx hZ hown (host := "") (Or.inl (own_w hw 45 rfl)) Via.refl e51 c55 (g := (mkF m 115 #[rv a1, rv wa, iv 3, iv 0] [(.ref a1)])) rfl rfl (hb hby d3_115)
  refine own_step st61 ?_
  refine own_ic X61.here hx rfl (hb hby d3_118) ?_
  refine own_il X61.here hx rfl (hb hby d3_119) rfl ?_
  refine own_step (fun t k => XS.iadd X61.here hx rfl (hb hby d3_120) rfl k) ?_
  refine own_il X61.here hx rfl (hb hby d3_121) rfl ?_
  obtain ⟨T62, h62, X62, e62, W62, c62, st62⟩ := own_iastore X61 hx hZ e61 c58 (own_inb (by decide) (Nat.le_of_ble_eq_true rfl)) (g := (mkF m 122 #[rv a1, rv wa, iv 3, iv 0] [(.int 0), (.int 3), (.ref b30)])) rfl rfl (hb hby d3_122)
  have N62 := Fr.snoc X62 N51 ge30
  have c63 : own_Ari Z h62 b30 .int [0, 0, 0, 0, 0, 0, 0, 0, 0] := c62
  have c64 : Exa Z h62 a1 own_C := c52.wr W62
  have c65 : Fld Z h62 a1 own_C "end" "I" (.int 6) := c53.other W62 (Or.inl ne31)
  have c66 : Fld Z h62 a1 own_C "keys" "[J" (.ref b10) := c54.other W62 (Or.inl ne31)
  have c67 : Fld Z h62 a1 own_C "nodes" "[I" (.ref b30) := c55.other W62 (Or.inl ne31)
  have c68 : own_Arj Z h62 wa [wt0, wt1, wt2] := c56.other W62 ne32
  have c69 : own_Arj Z h62 b10 [0, 0, 0, wt0, wt1, wt2, 0, 0, 0] := c59.other W62 ne33
  have K62 : Keep h0 h62 [a1] := K51.wr W62 (Or.inr sz30)
  refine own_step st62 ?_
  clear K51 N51 W62 X51 X61 c52 c53 c54 c55 c56 c58 c59 c62 e51 e61 hk60 st61 st62
  show own_G p.tables e below _ (T62.setTop (mkF m 123 #[rv a1, rv wa, iv 3, iv 0] []))
  refine own_step (fun t k => XS.iinc X62.here hx rfl (hb hby d3_123) rfl (l' := #[rv a1, rv wa, iv 3, iv 1]) rfl k) ?_
  refine own_go X62.here hx rfl (pc0 := 126) (pc' := 109) rfl (hb hby d3_126) (by decide) (by decide) ?_
  refine own_il X62.here hx rfl (hb hby d3_109) rfl ?_
  refine own_il X62.here hx rfl (hb hby d3_110) rfl ?_
  have hk71 : (1 : Int32) < (3 : Int32) := (by decide)
  refine own_step (fun t k => XS.icmpNo X62.here hx rfl (hb hby d3_111) rfl ((tlt hk71).2.1) k) ?_
  show own_G p.tables e below _ (T62.setTop (mkF m 114 #[rv a1, rv wa, iv 3, iv 1] []))
  refine own_al X62.here hx rfl (hb hby d3_114) rfl rfl ?_
  obtain ⟨T72, X72, e72, st72⟩ := getF X62 hx hZ hown (host := "") (Or.inl (own_w hw 45 rfl)) Via.refl e62 c67 (g := (mkF m 115 #[rv a1, rv wa, iv 3, iv 1] [(.ref a1)])) rfl rfl (hb hby d3_115)
  refine own_step st72 ?_
  refine own_ic X72.here hx rfl (hb hby d3_118) ?_
  refine own_il X72.here hx rfl (hb hby d3_119) rfl ?_
  refine own_step (fun t k => XS.iadd X72.here hx rfl (hb hby d3_120) rfl k) ?_
  refine own_il X72.here hx rfl (hb hby d3_121) rfl ?_
  obtain ⟨T73, h73, X73, e73, W73, c73, st73⟩ := own_iastore X72 hx hZ e72 c63 (own_inb (by decide) (Nat.le_of_ble_eq_true rfl)) (g := (mkF m 122 #[rv a1, rv wa, iv 3, iv 1] [(.int 1), (.int 4), (.ref b30)])) rfl rfl (hb hby d3_122)
  have N73 := Fr.snoc X73 N62 ge30
  have c74 : own_Ari Z h73 b30 .int [0, 0, 0, 0, 1, 0, 0, 0, 0] := c73
  have c75 : Exa Z h73 a1 own_C := c64.wr W73
  have c76 : Fld Z h73 a1 own_C "end" "I" (.int 6) := c65.other W73 (Or.inl ne31)
  have c77 : Fld Z h73 a1 own_C "keys" "[J" (.ref b10) := c66.other W73 (Or.inl ne31)
  have c78 : Fld Z h73 a1 own_C "nodes" "[I" (.ref b30) := c67.other W73 (Or.inl ne31)
  have c79 : own_Arj Z h73 wa [wt0, wt1, wt2] := c68.other W73 ne32
  have c80 : own_Arj Z h73 b10 [0, 0, 0, wt0, wt1, wt2, 0, 0, 0] := c69.other W73 ne33
  have K73 : Keep h0 h73 [a1] := K62.wr W73 (Or.inr sz30)
  refine own_step st73 ?_
  clear K62 N62 W73 X62 X72 c63 c64 c65 c66 c67 c68 c69 c73 e62 e72 hk71 st72 st73
  show own_G p.tables e below _ (T73.setTop (mkF m 123 #[rv a1, rv wa, iv 3, iv 1] []))
  refine own_step (fun t k => XS.iinc X73.here hx rfl (hb hby d3_123) rfl (l' := #[rv a1, rv wa, iv 3, iv 2]) rfl k) ?_
  refine own_go X73.here hx rfl (pc0 := 126) (pc' := 109) rfl (hb hby d3_126) (by decide) (by decide) ?_
  refine own_il X73.here hx rfl (hb hby d3_109) rfl ?_
  refine own_il X73.here hx rfl (hb hby d3_110) rfl ?_
  have hk82 : (2 : Int32) < (3 : Int32) := (by decide)
  refine own_step (fun t k => XS.icmpNo X73.here hx rfl (hb hby d3_111) rfl ((tlt hk82).2.1) k) ?_
  show own_G p.tables e below _ (T73.setTop (mkF m 114 #[rv a1, rv wa, iv 3, iv 2] []))
  refine own_al X73.here hx rfl (hb hby d3_114) rfl rfl ?_
  obtain ⟨T83, X83, e83, st83⟩ := getF X73 hx hZ hown (host := "") (Or.inl (own_w hw 45 rfl)) Via.refl e73 c78 (g := (mkF m 115 #[rv a1, rv wa, iv 3, iv 2] [(.ref a1)])) rfl rfl (hb hby d3_115)
  refine own_step st83 ?_
  refine own_ic X83.here hx rfl (hb hby d3_118) ?_
  refine own_il X83.here hx rfl (hb hby d3_119) rfl ?_
  refine own_step (fun t k => XS.iadd X83.here hx rfl (hb hby d3_120) rfl k) ?_
  refine own_il X83.here hx rfl (hb hby d3_121) rfl ?_
  obtain ⟨T84, h84, X84, e84, W84, c84, st84⟩ := own_iastore X83 hx hZ e83 c74 (own_inb (by decide) (Nat.le_of_ble_eq_true rfl)) (g := (mkF m 122 #[rv a1, rv wa, iv 3, iv 2] [(.int 2), (.int 5), (.ref b30)])) rfl rfl (hb hby d3_122)
  have N84 := Fr.snoc X84 N73 ge30
  have c85 : own_Ari Z h84 b30 .int [0, 0, 0, 0, 1, 2, 0, 0, 0] := c84
  have c86 : Exa Z h84 a1 own_C := c75.wr W84
  have c87 : Fld Z h84 a1 own_C "end" "I" (.int 6) := c76.other W84 (Or.inl ne31)
  have c88 : Fld Z h84 a1 own_C "keys" "[J" (.ref b10) := c77.other W84 (Or.inl ne31)
  have c89 : Fld Z h84 a1 own_C "nodes" "[I" (.ref b30) := c78.other W84 (Or.inl ne31)
  have c90 : own_Arj Z h84 wa [wt0, wt1, wt2] := c79.other W84 ne32
  have c91 : own_Arj Z h84 b10 [0, 0, 0, wt0, wt1, wt2, 0, 0, 0] := c80.other W84 ne33
  have K84 : Keep h0 h84 [a1] := K73.wr W84 (Or.inr sz30)
  refine own_step st84 ?_
  clear K73 N73 W84 X73 X83 c74 c75 c76 c77 c78 c79 c80 c84 e73 e83 hk82 st83 st84
  show own_G p.tables e below _ (T84.setTop (mkF m 123 #[rv a1, rv wa, iv 3, iv 2] []))
  refine own_step (fun t k => XS.iinc X84.here hx rfl (hb hby d3_123) rfl (l' := #[rv a1, rv wa, iv 3, iv 3]) rfl k) ?_
  refine own_go X84.here hx rfl (pc0 := 126) (pc' := 109) rfl (hb hby d3_126) (by decide) (by decide) ?_
  refine own_il X84.here hx rfl (hb hby d3_109) rfl ?_
  refine own_il X84.here hx rfl (hb hby d3_110) rfl ?_
  have hk93 : ¬ ((3 : Int32) < (3 : Int32)) := (by decide)
  refine own_step (fun t k => XS.icmpYes X84.here hx rfl (pc0 := 111) (pc' := 129) rfl (hb hby d3_111) rfl ((flt hk93).2.1) (by decide) (by decide) k) ?_
  show own_G p.tables e below _ (T84.setTop (mkF m 129 #[rv a1, rv wa, iv 3, iv 3] []))
  refine own_al X84.here hx rfl (hb hby d3_129) rfl rfl ?_
  obtain ⟨T94, X94, e94, st94⟩ := getF X84 hx hZ hown (host := "") (Or.inl (own_w hw 19 rfl)) Via.refl e84 c87 (g := (mkF m 130 #[rv a1, rv wa, iv 3, iv 3] [(.ref a1)])) rfl rfl (hb hby d3_130)
  refine own_step st94 ?_
  refine own_ic X94.here hx rfl (hb hby d3_133) ?_
  refine own_step (fun t k => XS.isub X94.here hx rfl (hb hby d3_134) rfl k) ?_
  obtain ⟨_, _, ⟨T95, L95, k95, n95⟩, -, X95, ⟨Lc95, hQ95, l95, y95, z95⟩, st95⟩ := Jvm.LawKit.callS X94 hx (y := own_y9) hown (mvT hZ (own_w hw 38 rfl)) (mvT hZ (own_w hw 39 rfl)) (mvT hZ (own_w hw 12 rfl)) (mvT hZ (own_w hw 40 rfl)) (by decide) (backOf (W := 0) (rm9 l Z a0 hw [] (5 : Int32) h84 n0 (Nat.le_trans Z0 K84.1) ) hZ (own_w hw 40 rfl) (own_w hw 12 rfl) (by decide) (by decide)) (g := (mkF m 135 #[rv a1, rv wa, iv 3, iv 3] [(.int 5)])) rfl (by rw [hml]; rfl) (argsL := [(.int 5)]) (rest := []) (lenOf pd_3_u3_1 rfl) rfl (own_wl rfl) (hb hby d3_135) (fun _ _ => ⟨rfl, e94, (by decide : 2 + 0 ≤ _), (by decide : 18 + 0 ≤ _)⟩)
  dsimp only [Pt.U, Pt.locs, Pt.cells, Pt.slots] at X95 l95 y95 z95 st95 hQ95
  subst y95 z95
  obtain ⟨rfl, N95q, e95⟩ := hQ95
  have N95 : Fr n0 L95 := by rw [l95]; exact Fr.app N84 N95q
  refine own_step st95 ?_
  show own_G p.tables e below _ (T95.setTop (mkF m 138 #[rv a1, rv wa, iv 3, iv 3] [(.int 3)]))
  refine own_step (fun t k => XS.istoreN X95.here hx rfl (hb hby d3_138) rfl (l' := #[rv a1, rv wa, iv 3, iv 3]) rfl k) ?_
  refine own_il X95.here hx rfl (hb hby d3_139) rfl ?_
  refine own_ic X95.here hx rfl (hb hby d3_140) ?_
  have hk96 : ¬ ((3 : Int32) < (3 : Int32)) := (by decide)
  refine own_step (fun t k => XS.icmpNo X95.here hx rfl (hb hby d3_141) rfl ((flt hk96).1) k) ?_
  clear N84 N95q X84 X94 e84 e94 hk93 hk96 st94 st95
  show own_G p.tables e below _ (T95.setTop (mkF m 144 #[rv a1, rv wa, iv 3, iv 3] []))
  refine own_al X95.here hx rfl (hb hby d3_144) rfl rfl ?_
  refine own_il X95.here hx rfl (hb hby d3_145) rfl ?_
  refine own_ic X95.here hx rfl (hb hby d3_146) ?_
  obtain ⟨cq97, q97, q97'⟩ := c86.cell
  obtain ⟨_, _, ⟨T97, L97, k97, n97⟩, -, X97, ⟨Lc97, hQ97, l97, y97, z97⟩, st97⟩ := X95.privateBack hx (y := own_y10) hown (mvT hZ (own_w hw 41 rfl)) (mvT hZ (own_w hw 42 rfl)) (mvT hZ (own_sp10 hw)) (Cond.privateMethod_at (mvP hZ (own_w hw 43 rfl) (args := #[]))) (mvT hZ (own_w hw 44 rfl)) (by decide) (backOf (W := 0) (rm10_u l Z a0 hw [] a1 (3 : Int32) (0 : Int32) b10 b30 [(0 : Int64), (0 : Int64), (0 : Int64), wt0, wt1, wt2, (0 : Int64), (0 : Int64), (0 : Int64)] [(0 : Int32), (0 : Int32), (0 : Int32), (0 : Int32), (1 : Int32), (2 : Int32), (0 : Int32), (0 : Int32), (0 : Int32)] h84 n0 (Nat.le_trans Z0 K84.1) c88 c89 c91 c85 ((own_inb (by decide) (Nat.le_of_ble_eq_true rfl)) : own_Inb (3 : Int32) [(0 : Int64), (0 : Int64), (0 : Int64), wt0, wt1, wt2, (0 : Int64), (0 : Int64), (0 : Int64)].length) ((own_inb (by decide) (Nat.le_of_ble_eq_true rfl)) : own_Inb (0 : Int32) [(0 : Int64), (0 : Int64), (0 : Int64), wt0, wt1, wt2, (0 : Int64), (0 : Int64), (0 : Int64)].length) ((own_inb (by decide) (Nat.le_of_ble_eq_true rfl)) : own_Inb (3 : Int32) [(0 : Int32), (0 : Int32), (0 : Int32), (0 : Int32), (1 : Int32), (2 : Int32), (0 : Int32), (0 : Int32), (0 : Int32)].length) ((own_inb (by decide) (Nat.le_of_ble_eq_true rfl)) : own_Inb (0 : Int32) [(0 : Int32), (0 : Int32), (0 : Int32), (0 : Int32), (1 : Int32), (2 : Int32), (0 : Int32), (0 : Int32), (0 : Int32)].length) ge10 ne11 (Ne.symm ne33) ge30 ne31) hZ (own_w hw 44 rfl) (own_w hw 12 rfl) (by decide) (by decide)) (g := (mkF m 147 #[rv a1, rv wa, iv 3, iv 3] [(.int 0), (.int 3), (.ref a1)])) rfl (by rw [hml]; rfl) (Steps.refl _) (a := a1) (by rw [e95]; exact q97) q97' (argsL := [(.int 3), (.int 0)]) (rest := []) (lenOf pd_3_u3_2 rfl) rfl (own_wl rfl) (hb hby d3_147) (fun _ _ => ⟨rfl, e95, (by decide : 2 + 0 ≤ _), (by decide : 18 + 0 ≤ _)⟩)
  dsimp only [Pt.U, Pt.locs, Pt.cells, Pt.slots] at X97 l97 y97 z97 st97 hQ97
  subst y97 z97
  obtain ⟨rfl, N97q, K97q, w97_0, w97_1⟩ := hQ97
  have c98 : Exa Z T97.heap a1 own_C := c86.keep K97q
  have c99 : Fld Z T97.heap a1 own_C "end" "I" (.int 6) := c87.keep K97q (ninS ne11 (ninS ne31 nin0))
  have c100 : Fld Z T97.heap a1 own_C "keys" "[J" (.ref b10) := c88.keep K97q (ninS ne11 (ninS ne31 nin0))
  have c101 : Fld Z T97.heap a1 own_C "nodes" "[I" (.ref b30) := c89.keep K97q (ninS ne11 (ninS ne31 nin0))
  have c102 : own_Arj Z T97.heap wa [wt0, wt1, wt2] := c90.keep K97q (ninS ne12 (ninS ne32 nin0))
  have K97 : Keep h0 T97.heap [a1] := K84.trans K97q (allS (Or.inr sz10) (allS (Or.inr sz30) all0))
  have c105 : own_Arj Z T97.heap b10 [wt0, 0, 0, wt0, wt1, wt2, 0, 0, 0] := w97_0
  have c106 : own_Ari Z T97.heap b30 .int [0, 0, 0, 0, 1, 2, 0, 0, 0] := w97_1
  have N97 : Fr n0 L97 := by rw [l97]; exact Fr.app N95 N97q
  refine own_step (fun t k => st97.trans k) ?_
  refine own_al X97.here hx rfl (hb hby d3_150) rfl rfl ?_
  refine own_il X97.here hx rfl (hb hby d3_151) rfl ?_
  obtain ⟨cq107, q107, q107'⟩ := c98.cell
  obtain ⟨_, _, ⟨T107, L107, k107, n107⟩, -, X107, ⟨Lc107, hQ107, l107, y107, z107⟩, st107⟩ := X97.privateBack hx (y := own_y11) hown (mvT hZ (own_w hw 47 rfl)) (mvT hZ (own_w hw 48 rfl)) (mvT hZ (own_sp11 hw)) (Cond.privateMethod_at (mvP hZ (own_w hw 49 rfl) (args := #[]))) (mvT hZ (own_w hw 50 rfl)) (by decide) (backOf (W := 0) (rm11_u l Z a0 hw [] a1 b10 b30 (6 : Int32) [wt0, (0 : Int64), (0 : Int64), wt0, wt1, wt2, (0 : Int64), (0 : Int64), (0 : Int64)] [(0 : Int32), (0 : Int32), (0 : Int32), (0 : Int32), (1 : Int32), (2 : Int32), (0 : Int32), (0 : Int32), (0 : Int32)] T97.heap n0 (Nat.le_trans Z0 K97.1) c98 c100 c99 c101 c105 c106 ((by decide) : (4 : Int32) < (6 : Int32)) ((by decide) : ¬ (8 : Int32) < (6 : Int32)) ((Nat.le_of_ble_eq_true rfl) : 8 ≤ [wt0, (0 : Int64), (0 : Int64), wt0, wt1, wt2, (0 : Int64), (0 : Int64), (0 : Int64)].length) ((Nat.le_of_ble_eq_true rfl) : 8 ≤ [(0 : Int32), (0 : Int32), (0 : Int32), (0 : Int32), (1 : Int32), (2 : Int32), (0 : Int32), (0 : Int32), (0 : Int32)].length) ge10 ne11 (Ne.symm ne33) ge30 ne31) hZ (own_w hw 50 rfl) (own_w hw 12 rfl) (by decide) (by decide)) (g := (mkF m 152 #[rv a1, rv wa, iv 3, iv 3] [(.int 3), (.ref a1)])) rfl (by rw [hml]; rfl) (Steps.refl _) (a := a1) q107 q107' (argsL := [(.int 3)]) (rest := []) (lenOf pd_3_u3_3 rfl) rfl (own_wl rfl) (hb hby d3_152) (fun _ _ => ⟨rfl, rfl, (by decide : 2 + 0 ≤ _), (by decide : 18 + 0 ≤ _)⟩)
  dsimp only [Pt.U, Pt.locs, Pt.cells, Pt.slots] at X107 l107 y107 z107 st107 hQ107
  subst y107 z107
  obtain ⟨bx107_L_nd, bx107_L_ky, rfl, N107q, K107q, w107_0, w107_1, pr107_0, pr107_1⟩ := hQ107
  have c108 : Exa Z T107.heap a1 own_C := c98.keep K107q
  have c109 : Fld Z T107.heap a1 own_C "end" "I" (.int 6) := c99.keep K107q (ninS ne31 (ninS ne11 nin0))
  have c110 : Fld Z T107.heap a1 own_C "keys" "[J" (.ref b10) := c100.keep K107q (ninS ne31 (ninS ne11 nin0))
  have c111 : Fld Z T107.heap a1 own_C "nodes" "[I" (.ref b30) := c101.keep K107q (ninS ne31 (ninS ne11 nin0))
  have c112 : own_Arj Z T107.heap wa [wt0, wt1, wt2] := c102.keep K107q (ninS ne32 (ninS ne12 nin0))
  have K107 : Keep h0 T107.heap [a1] := K97.trans K107q (allS (Or.inr sz30) (allS (Or.inr sz10) all0))
  have N107 : Fr n0 L107 := by rw [l107]; exact Fr.app N97 N107q
  refine own_step (fun t k => st107.trans k) ?_
  clear K107q K84 K97 K97q N107q N95 N97 N97q X95 X97 c100 c101 c102 c105 c106 c85 c86 c87 c88 c89 c90 c91 c98 c99 e95 q107 q107' q97 q97' st107 st97 w97_0 w97_1
  show own_G p.tables e below _ (T107.setTop (mkF m 155 #[rv a1, rv wa, iv 3, iv 3] []))
  refine own_step (fun t k => XS.iinc X107.here hx rfl (hb hby d3_155) rfl (l' := #[rv a1, rv wa, iv 3, iv 2]) rfl k) ?_
  refine own_go X107.here hx rfl (pc0 := 158) (pc' := 139) rfl (hb hby d3_158) (by decide) (by decide) ?_
  refine own_il X107.here hx rfl (hb hby d3_139) rfl ?_
  refine own_ic X107.here hx rfl (hb hby d3_140) ?_
  have hk115 : (2 : Int32) < (3 : Int32) := (by decide)
  refine own_step (fun t k => XS.icmpYes X107.here hx rfl (pc0 := 141) (pc' := 161) rfl (hb hby d3_141) rfl ((tlt hk115).1) (by decide) (by decide) k) ?_
  show own_G p.tables e below _ (T107.setTop (mkF m 161 #[rv a1, rv wa, iv 3, iv 2] []))
  obtain ⟨fs, hr, hrun, hended, hW, hsame⟩ := X107.leave (v := none) (fun _ => rfl)
  refine own_done (X107.returnOut hx Bd.returns (hb hby d3_161) hr) hrun hended ⟨_, _, rfl, ?_, ⟨_, rfl⟩, hW, hsame.mono (by decide) (by decide)⟩
  show Q3_u3 Z a1 wa wt0 wt1 wt2 h0 n0 _ T107.heap _
  exact ⟨b10, b30, _, _, rfl, N107, K107, c109, c110, c111, w107_1, w107_0, sz10, sz30, ne33, (⟨pr107_1.1, pr107_1.2.trans ((congrArg (fun z => min wt0.toInt z) (own_lcu6 _ _)).trans (show min wt0.toInt (min wt1.toInt wt2.toInt) = (min (min wt0.toInt wt1.toInt) wt2.toInt) from by omega))⟩), (trivial)⟩
theorem d1_52 : decode method_3_code 52 = .ok (.iload_n 0, 1) := by decide +kernel
theorem d1_53 : decode method_3_code 53 = .ok (.iconst 4, 1) := by decide +kernel
theorem d1_54 : decode method_3_code 54 = .ok (.if_icmp .ne 25, 3) := by decide +kernel
theorem d1_57 : decode method_3_code 57 = .ok (.iconst 4, 1) := by decide +kernel
theorem d1_58 : decode method_3_code 58 = .ok (.newarray .long, 2) := by decide +kernel
theorem d1_60 : decode method_3_code 60 = .ok (.dup, 1) := by decide +kernel
theorem d1_61 : decode method_3_code 61 = .ok (.iconst 0, 1) := by decide +kernel
theorem d1_62 : decode method_3_code 62 = .ok (.lload_n 1, 1) := by decide +kernel
theorem d1_63 : decode method_3_code 63 = .ok (.lastore, 1) := by decide +kernel
theorem d1_64 : decode method_3_code 64 = .ok (.dup, 1) := by decide +kernel
theorem d1_65 : decode method_3_code 65 = .ok (.iconst 1, 1) := by decide +kernel
theorem d1_66 : decode method_3_code 66 = .ok (.lload_n 3, 1) := by decide +kernel
theorem d1_67 : decode method_3_code 67 = .ok (.lastore, 1) := by decide +kernel
theorem d1_68 : decode method_3_code 68 = .ok (.dup, 1) := by decide +kernel
theorem d1_69 : decode method_3_code 69 = .ok (.iconst 2, 1) := by decide +kernel
theorem d1_70 : decode method_3_code 70 = .ok (.lload 5, 2) := by decide +kernel
theorem d1_72 : decode method_3_code 72 = .ok (.lastore, 1) := by decide +kernel
theorem d1_73 : decode method_3_code 73 = .ok (.dup, 1) := by decide +kernel
theorem d1_74 : decode method_3_code 74 = .ok (.iconst 3, 1) := by decide +kernel
theorem d1_75 : decode method_3_code 75 = .ok (.lload 7, 2) := by decide +kernel
theorem d1_77 : decode method_3_code 77 = .ok (.lastore, 1) := by decide +kernel
theorem d1_78 : decode method_3_code 78 = .ok (.areturn, 1) := by decide +kernel
theorem pn_1_n4 : plainName "com/example/leafcode/leafcode/FourWayHeapMinWeightPinLaw" = true := by first | (simp [plainName, overriddenIn]; done) | decide +kernel
theorem ef_1_n4 (m : MethodId) (wt0 : Int64) (wt1 : Int64) (wt2 : Int64) (wt3 : Int64) (wt4 : Int64) : entryFrame m #[(.int (4 : Int32)), (.long wt0), (.long wt1), (.long wt2), (.long wt3), (.long wt4)] 11 = mkF m 0 #[iv (4 : Int32), .val (.long wt0), .second, .val (.long wt1), .second, .val (.long wt2), .second, .val (.long wt3), .second, .val (.long wt4), .second] [] := by first | (simp [entryFrame, mkF, argsToLocals, Value.category]; done) | rfl
def Q1_n4 (Z : State) (wt0 : Int64) (wt1 : Int64) (wt2 : Int64) (wt3 : Int64) (wt4 : Int64) (h0 : Heap) (n0 : Nat) (v : Option Value) (h : Heap) (L : List Loc) : Prop := ∃ (rb : Addr), v = some (.ref rb) ∧ Fr n0 L ∧ Keep h0 h [] ∧ own_Arj Z h rb [wt0, wt1, wt2, wt3] ∧ h0.size ≤ rb
set_option maxRecDepth 65536 in
set_option maxHeartbeats 40000000 in
theorem rm1_n4 (l : Launch) (Z : State) (a0 : Array Value) (hw : ∀ d ∈ tables_1, d.before a0 Z = true) (ws : List Jvm.Cond) (wt0 : Int64) (wt1 : Int64) (wt2 : Int64) (wt3 : Int64) (wt4 : Int64) (h0 : Heap) (n0 : Nat) (Z0 : n0 ≤ h0.size) :
    MetFree l (⟨"com/example/leafcode/leafcode/FourWayHeapMinWeightPinLaw", "build", "(IJJJJJ)[J"⟩ : MethodName) (head1 (Jvm.Cond.code (⟨"com/example/leafcode/leafcode/FourWayHeapMinWeightPinLaw", "build", "(IJJJJJ)[J"⟩ : MethodName) method_3_code 11 (some (.array .long)) :: ws) ({ frames := 0, cells := 1, slots := 4, locals := 0 } : Room)) (fun a U => a = #[(.int (4 : Int32)), (.long wt0), (.long wt1), (.long wt2), (.long wt3), (.long wt4)] ∧ Z.Warmed39 U.vm ∧ U.heap = h0) (fun _ _ _ _ _ => True) (fun _ U o U' => ∃ v L, o = .returned v ∧ Q1_n4 Z wt0 wt1 wt2 wt3 wt4 h0 n0 v U'.heap L ∧ FrameEnd U o U' L ({ frames := 0, cells := 1, slots := 4, locals := 0 } : Room).cells ({ frames := 0, cells := 1, slots := 4, locals := 0 } : Room).slots) := by
  refine MetFree.of_bodySF (plainFor_of_name pn_1_n4) hisR ?_
  intro p e s m args below meth c s₁ Bd hml0 hP hK
  obtain ⟨rfl, hZ, hh⟩ := hP
  have hx := Bd.exec
  have hby := Bd.bytes
  have hml : c.maxLocals = 11 := hml0
  have hown : s.vm.findClass "com/example/leafcode/leafcode/FourWayHeapMinWeightPinLaw" = some m.cls := findClass_of_methodNamed Bd.named
  have hnm := (name_of_methodNamed Bd.named Bd.method).1
  have X0 : Stand p l e ({ frames := 0, cells := 1, slots := 4, locals := 0 } : Room) s m #[(.int (4 : Int32)), (.long wt0), (.long wt1), (.long wt2), (.long wt3), (.long wt4)] below meth c s₁ [] 0 0 := Stand.of_body Bd
  have e0 : s₁.heap = h0 := by rw [← hh, Bd.state]; rfl
  have N0 := Fr.nil n0
  refine own_start (fun t k => castTop (ef_1_n4 m wt0 wt1 wt2 wt3 wt4) k) ?_
  show own_G p.tables e below _ (s₁.setTop (mkF m 0 #[iv 4, .val (.long wt0), .second, .val (.long wt1), .second, .val (.long wt2), .second, .val (.long wt3), .second, .val (.long wt4), .second] []))
  refine own_il X0.here hx rfl (hb hby d1_0) rfl ?_
  refine own_ic X0.here hx rfl (hb hby d1_1) ?_
  have hk1 : ¬ ((4 : Int32) = (1 : Int32)) := (by decide)
  refine own_step (fun t k => XS.icmpYes X0.here hx rfl (pc0 := 2) (pc' := 13) rfl (hb hby d1_2) rfl ((feq hk1).2) (by decide) (by decide) k) ?_
  show own_G p.tables e below _ (s₁.setTop (mkF m 13 #[iv 4, .val (.long wt0), .second, .val (.long wt1), .second, .val (.long wt2), .second, .val (.long wt3), .second, .val (.long wt4), .second] []))
  refine own_il X0.here hx rfl (hb hby d1_13) rfl ?_
  refine own_ic X0.here hx rfl (hb hby d1_14) ?_
  have hk2 : ¬ ((4 : Int32) = (2 : Int32)) := (by decide)
  refine own_step (fun t k => XS.icmpYes X0.here hx rfl (pc0 := 15) (pc' := 30) rfl (hb hby d1_15) rfl ((feq hk2).2) (by decide) (by decide) k) ?_
  show own_G p.tables e below _ (s₁.setTop (mkF m 30 #[iv 4, .val (.long wt0), .second, .val (.long wt1), .second, .val (.long wt2), .second, .val (.long wt3), .second, .val (.long wt4), .second] []))
  refine own_il X0.here hx rfl (hb hby d1_30) rfl ?_
  refine own_ic X0.here hx rfl (hb hby d1_31) ?_
  have hk3 : ¬ ((4 : Int32) = (3 : Int32)) := (by decide)
  refine own_step (fun t k => XS.icmpYes X0.here hx rfl (pc0 := 32) (pc' := 52) rfl (hb hby d1_32) rfl ((feq hk3).2) (by decide) (by decide) k) ?_
  show own_G p.tables e below _ (s₁.setTop (mkF m 52 #[iv 4, .val (.long wt0), .second, .val (.long wt1), .second, .val (.long wt2), .second, .val (.long wt3), .second, .val (.long wt4), .second] []))
  refine own_il X0.here hx rfl (hb hby d1_52) rfl ?_
  refine own_ic X0.here hx rfl (hb hby d1_53) ?_
  have hk4 : (4 : Int32) = (4 : Int32) := rfl
  refine own_step (fun t k => XS.icmpNo X0.here hx rfl (hb hby d1_54) rfl ((teq hk4).2) k) ?_
  show own_G p.tables e below _ (s₁.setTop (mkF m 57 #[iv 4, .val (.long wt0), .second, .val (.long wt1), .second, .val (.long wt2), .second, .val (.long wt3), .second, .val (.long wt4), .second] []))
  refine own_ic X0.here hx rfl (hb hby d1_57) ?_
  obtain ⟨T5, h5, k5, X5, e5, E5, A5, st5⟩ := newP X0 hx hZ (own_w hw 5 rfl) e0 (g := (mkF m 58 #[iv 4, .val (.long wt0), .second, .val (.long wt1), .second, .val (.long wt2), .second, .val (.long wt3), .second, .val (.long wt4), .second] [(.int 4)])) rfl (hb hby d1_58) rfl (by decide) (cap := 4) (by decide) (by decide) (by decide) (by decide)
  obtain ⟨b5, g5⟩ : ∃ z, z = h0.size := ⟨_, rfl⟩
  have sz5 : h0.size ≤ b5 := Nat.le_trans (Keep.refl h0 []).1 (Nat.le_of_eq g5.symm)
  have ge5 : n0 ≤ b5 := Nat.le_trans Z0 sz5
  have K5 : Keep h0 h5 [] := (Keep.refl h0 []).ext E5
  rw [← g5] at A5 st5
  have c6 : own_Arj Z h5 b5 [0, 0, 0, 0] := own_Arj_new A5 (by decide)
  refine own_step st5 ?_
  refine own_step (fun t k => XS.dup X5.here hx rfl (hb hby d1_60) rfl rfl k) ?_
  refine own_ic X5.here hx rfl (hb hby d1_61) ?_
  refine own_step (fun t k => XS.lloadN X5.here hx rfl (hb hby d1_62) rfl k) ?_
  obtain ⟨T7, h7, X7, e7, W7, c7, st7⟩ := own_lastore X5 hx hZ e5 c6 (own_inb (by decide) (Nat.le_of_ble_eq_true rfl)) (g := (mkF m 63 #[iv 4, .val (.long wt0), .second, .val (.long wt1), .second, .val (.long wt2), .second, .val (.long wt3), .second, .val (.long wt4), .second] [(.long wt0), (.int 0), (.ref b5), (.ref b5)])) rfl rfl (hb hby d1_63)
  have N7 := Fr.snoc X7 N0 ge5
  have c8 : own_Arj Z h7 b5 [wt0, 0, 0, 0] := c7
  have K7 : Keep h0 h7 [] := K5.wr W7 (Or.inr sz5)
  refine own_step st7 ?_
  refine own_step (fun t k => XS.dup X7.here hx rfl (hb hby d1_64) rfl rfl k) ?_
  clear A5 E5 K5 W7 X5 c6 c7 e5 g5 hk1 hk2 hk3 hk4 st5 st7
  show own_G p.tables e below _ (T7.setTop (mkF m 65 #[iv 4, .val (.long wt0), .second, .val (.long wt1), .second, .val (.long wt2), .second, .val (.long wt3), .second, .val (.long wt4), .second] [(.ref b5), (.ref b5)]))
  refine own_ic X7.here hx rfl (hb hby d1_65) ?_
  refine own_step (fun t k => XS.lloadN X7.here hx rfl (hb hby d1_66) rfl k) ?_
  obtain ⟨T10, h10, X10, e10, W10, c10, st10⟩ := own_lastore X7 hx hZ e7 c8 (own_inb (by decide) (Nat.le_of_ble_eq_true rfl)) (g := (mkF m 67 #[iv 4, .val (.long wt0), .second, .val (.long wt1), .second, .val (.long wt2), .second, .val (.long wt3), .second, .val (.long wt4), .second] [(.long wt1), (.int 1), (.ref b5), (.ref b5)])) rfl rfl (hb hby d1_67)
  have N10 := Fr.snoc X10 N7 ge5
  have c11 : own_Arj Z h10 b5 [wt0, wt1, 0, 0] := c10
  have K10 : Keep h0 h10 [] := K7.wr W10 (Or.inr sz5)
  refine own_step st10 ?_
  refine own_step (fun t k => XS.dup X10.here hx rfl (hb hby d1_68) rfl rfl k) ?_
  refine own_ic X10.here hx rfl (hb hby d1_69) ?_
  refine own_lx X10.here hx rfl (hb hby d1_70) rfl ?_
  obtain ⟨T13, h13, X13, e13, W13, c13, st13⟩ := own_lastore X10 hx hZ e10 c11 (own_inb (by decide) (Nat.le_of_ble_eq_true rfl)) (g := (mkF m 72 #[iv 4, .val (.long wt0), .second, .val (.long wt1), .second, .val (.long wt2), .second, .val (.long wt3), .second, .val (.long wt4), .second] [(.long wt2), (.int 2), (.ref b5), (.ref b5)])) rfl rfl (hb hby d1_72)
  have N13 := Fr.snoc X13 N10 ge5
  have c14 : own_Arj Z h13 b5 [wt0, wt1, wt2, 0] := c13
  have K13 : Keep h0 h13 [] := K10.wr W13 (Or.inr sz5)
  refine own_step st13 ?_
  clear K10 K7 N10 N7 W10 W13 X10 X7 c10 c11 c13 c8 e10 e7 st10 st13
  show own_G p.tables e below _ (T13.setTop (mkF m 73 #[iv 4, .val (.long wt0), .second, .val (.long wt1), .second, .val (.long wt2), .second, .val (.long wt3), .second, .val (.long wt4), .second] [(.ref b5)]))
  refine own_step (fun t k => XS.dup X13.here hx rfl (hb hby d1_73) rfl rfl k) ?_
  refine own_ic X13.here hx rfl (hb hby d1_74) ?_
  refine own_lx X13.here hx rfl (hb hby d1_75) rfl ?_
  obtain ⟨T16, h16, X16, e16, W16, c16, st16⟩ := own_lastore X13 hx hZ e13 c14 (own_inb (by decide) (Nat.le_of_ble_eq_true rfl)) (g := (mkF m 77 #[iv 4, .val (.long wt0), .second, .val (.long wt1), .second, .val (.long wt2), .second, .val (.long wt3), .second, .val (.long wt4), .second] [(.long wt3), (.int 3), (.ref b5), (.ref b5)])) rfl rfl (hb hby d1_77)
  have N16 := Fr.snoc X16 N13 ge5
  have c17 : own_Arj Z h16 b5 [wt0, wt1, wt2, wt3] := c16
  have K16 : Keep h0 h16 [] := K13.wr W16 (Or.inr sz5)
  refine own_step st16 ?_
  obtain ⟨fs, hr, hrun, hended, hW, hsame⟩ := X16.leave (v := some (.ref b5)) (fun h => by rw [Bd.returns] at h; cases h)
  refine own_done (own_retA X16 hx Bd.returns (by decide) rfl (hb hby d1_78) hr) hrun hended ⟨_, _, rfl, ?_, ⟨_, rfl⟩, hW, hsame.mono (by decide) (by decide)⟩
  show Q1_n4 Z wt0 wt1 wt2 wt3 wt4 h0 n0 _ T16.heap _
  rw [e16]
  exact ⟨b5, rfl, N16, K16, c17, sz5⟩
theorem pn_5_n4 : plainName "com/example/leafcode/leafcode/FourWayHeap" = true := by first | (simp [plainName, overriddenIn]; done) | decide +kernel
theorem ef_5_n4 (m : MethodId) (wa : Addr) : entryFrame m #[(.ref wa)] 6 = mkF m 0 #[rv wa, .unset, .unset, .unset, .unset, .unset] [] := by first | (simp [entryFrame, mkF, argsToLocals, Value.category]; done) | rfl
def own_f5_n4 (wt0 : Int64) (wt1 : Int64) (wt2 : Int64) (wt3 : Int64) : Int32 :=
  (if (4294967294 : Int64) < wt0 then (0 : Int32) else (if (4294967294 : Int64) < wt1 then (0 : Int32) else (if (4294967294 : Int64) < wt2 then (0 : Int32) else (if (4294967294 : Int64) < wt3 then (0 : Int32) else (1 : Int32)))))
theorem own_f5z_n4 (wt0 wt1 wt2 wt3 : Int64) : own_f5_n4 wt0 wt1 wt2 wt3 = 1 ∨ own_f5_n4 wt0 wt1 wt2 wt3 = 0 := by
  unfold own_f5_n4
  repeat' split
  all_goals first | exact Or.inl rfl | exact Or.inr rfl
theorem own_f5b_n4 {wt0 wt1 wt2 wt3 : Int64} (h : own_f5_n4 wt0 wt1 wt2 wt3 = 1) : wt0.toInt ≤ 4294967294 ∧ wt1.toInt ≤ 4294967294 ∧ wt2.toInt ≤ 4294967294 ∧ wt3.toInt ≤ 4294967294 := by
  unfold own_f5_n4 at h
  repeat' split at h
  all_goals first | (cases h; done) | (simp only [Int64.lt_iff_toInt_lt, show (4294967294 : Int64).toInt = 4294967294 from by decide] at *; omega)
def Q5_n4 (Z : State) (wa : Addr) (wt0 : Int64) (wt1 : Int64) (wt2 : Int64) (wt3 : Int64) (h0 : Heap) (n0 : Nat) (v : Option Value) (h : Heap) (L : List Loc) : Prop := v = some (.int (own_f5_n4 wt0 wt1 wt2 wt3)) ∧ Fr n0 L ∧ h = h0
set_option maxRecDepth 65536 in
set_option maxHeartbeats 40000000 in
theorem rm5_n4 (l : Launch) (Z : State) (a0 : Array Value) (hw : ∀ d ∈ tables_1, d.before a0 Z = true) (ws : List Jvm.Cond) (wa : Addr) (wt0 : Int64) (wt1 : Int64) (wt2 : Int64) (wt3 : Int64) (h0 : Heap) (n0 : Nat) (Z0 : n0 ≤ h0.size) (fp0 : own_Arj Z h0 wa [wt0, wt1, wt2, wt3]) :
    MetFree l (⟨"com/example/leafcode/leafcode/FourWayHeap", "packable", "([J)Z"⟩ : MethodName) (head1 (Jvm.Cond.code (⟨"com/example/leafcode/leafcode/FourWayHeap", "packable", "([J)Z"⟩ : MethodName) prog_20_method_2_code 6 (some .boolean) :: ws) ({ frames := 0, cells := 0, slots := 0, locals := 0 } : Room)) (fun a U => a = #[(.ref wa)] ∧ Z.Warmed39 U.vm ∧ U.heap = h0) (fun _ _ _ _ _ => True) (fun _ U o U' => ∃ v L, o = .returned v ∧ Q5_n4 Z wa wt0 wt1 wt2 wt3 h0 n0 v U'.heap L ∧ FrameEnd U o U' L ({ frames := 0, cells := 0, slots := 0, locals := 0 } : Room).cells ({ frames := 0, cells := 0, slots := 0, locals := 0 } : Room).slots) := by
  refine MetFree.of_bodySF (plainFor_of_name pn_5_n4) hisR ?_
  intro p e s m args below meth c s₁ Bd hml0 hP hK
  obtain ⟨rfl, hZ, hh⟩ := hP
  have hx := Bd.exec
  have hby := Bd.bytes
  have hml : c.maxLocals = 6 := hml0
  have hown : s.vm.findClass "com/example/leafcode/leafcode/FourWayHeap" = some m.cls := findClass_of_methodNamed Bd.named
  have hnm := (name_of_methodNamed Bd.named Bd.method).1
  have X0 : Stand p l e ({ frames := 0, cells := 0, slots := 0, locals := 0 } : Room) s m #[(.ref wa)] below meth c s₁ [] 0 0 := Stand.of_body Bd
  have e0 : s₁.heap = h0 := by rw [← hh, Bd.state]; rfl
  have N0 := Fr.nil n0
  refine own_start (fun t k => castTop (ef_5_n4 m wa) k) ?_
  show own_G p.tables e below _ (s₁.setTop (mkF m 0 #[rv wa, .unset, .unset, .unset, .unset, .unset] []))
  refine own_al X0.here hx rfl (hb hby d5_0) rfl rfl ?_
  refine own_step (fun t k => XS.astoreN X0.here hx rfl (hb hby d5_1) rfl rfl (l' := #[rv wa, rv wa, .unset, .unset, .unset, .unset]) rfl k) ?_
  refine own_al X0.here hx rfl (hb hby d5_2) rfl rfl ?_
  refine own_step (own_lenJ X0 hx hZ e0 fp0 (g := (mkF m 3 #[rv wa, rv wa, .unset, .unset, .unset, .unset] [(.ref wa)])) rfl rfl (hb hby d5_3)) ?_
  refine own_step (fun t k => XS.istoreN X0.here hx rfl (hb hby d5_4) rfl (l' := #[rv wa, rv wa, iv 4, .unset, .unset, .unset]) rfl k) ?_
  refine own_ic X0.here hx rfl (hb hby d5_5) ?_
  refine own_step (fun t k => XS.istoreN X0.here hx rfl (hb hby d5_6) rfl (l' := #[rv wa, rv wa, iv 4, iv 0, .unset, .unset]) rfl k) ?_
  show own_G p.tables e below _ (s₁.setTop (mkF m 7 #[rv wa, rv wa, iv 4, iv 0, .unset, .unset] []))
  refine own_il X0.here hx rfl (hb hby d5_7) rfl ?_
  refine own_il X0.here hx rfl (hb hby d5_8) rfl ?_
  have hk1 : (0 : Int32) < (4 : Int32) := (by decide)
  refine own_step (fun t k => XS.icmpNo X0.here hx rfl (hb hby d5_9) rfl ((tlt hk1).2.1) k) ?_
  show own_G p.tables e below _ (s₁.setTop (mkF m 12 #[rv wa, rv wa, iv 4, iv 0, .unset, .unset] []))
  refine own_al X0.here hx rfl (hb hby d5_12) rfl rfl ?_
  refine own_il X0.here hx rfl (hb hby d5_13) rfl ?_
  refine own_step (own_laload X0 hx hZ e0 fp0 (own_inb (by decide) (Nat.le_of_ble_eq_true rfl)) (g := (mkF m 14 #[rv wa, rv wa, iv 4, iv 0, .unset, .unset] [(.int 0), (.ref wa)])) rfl rfl (hb hby d5_14)) ?_
  refine own_step (fun t k => XS.lstore X0.here hx rfl (hb hby d5_15) rfl (l' := #[rv wa, rv wa, iv 4, iv 0, .val (.long wt0), .second]) rfl k) ?_
  refine own_lx X0.here hx rfl (hb hby d5_17) rfl ?_
  refine own_step (X0.ldc2Long hx hown (mvT hZ (own_w hw 26 rfl)) (g := (mkF m 19 #[rv wa, rv wa, iv 4, iv 0, .val (.long wt0), .second] [(.long wt0)])) rfl (hb hby d5_19)) ?_
  refine own_step (fun t k => XS.lcmp X0.here hx rfl (hb hby d5_22) rfl k) ?_
  show own_G p.tables e below _ (s₁.setTop (mkF m 23 #[rv wa, rv wa, iv 4, iv 0, .val (.long wt0), .second] [(.int (lcmpW wt0 (4294967294 : Int64)))]))
  by_cases hc2 : (4294967294 : Int64) < wt0
  · skip
    refine own_step (fun t k => XS.ifNo X0.here hx rfl (hb hby d5_23) rfl ((if0 _ _).trans (tlt ((lw_gt _ _).mpr hc2)).2.2.2) k) ?_
    show own_G p.tables e below _ (s₁.setTop (mkF m 26 #[rv wa, rv wa, iv 4, iv 0, .val (.long wt0), .second] []))
    refine own_ic X0.here hx rfl (hb hby d5_26) ?_
    obtain ⟨fs, hr, hrun, hended, hW, hsame⟩ := X0.leave (v := some (.int (0 : Int32))) (fun h => by rw [Bd.returns] at h; cases h)
    refine own_done (retN X0 hx (t := .boolean) Bd.returns (by simp) (hb hby d5_27) hr) hrun hended ⟨_, _, rfl, ?_, ⟨_, rfl⟩, hW, hsame.mono (by decide) (by decide)⟩
    show Q5_n4 Z wa wt0 wt1 wt2 wt3 h0 n0 _ s₁.heap _
    rw [e0]
    exact ⟨congrArg (fun z => some (Value.int z)) (show (0 : Int32) = (own_f5_n4 wt0 wt1 wt2 wt3) from by unfold own_f5_n4; simp only [if_pos hc2]), N0, rfl⟩
  · skip
    refine own_step (fun t k => XS.ifYes X0.here hx rfl (pc0 := 23) (pc' := 28) rfl (hb hby d5_23) rfl ((if0 _ _).trans (flt (fun q => hc2 ((lw_gt _ _).mp q))).2.2.2) (by decide) (by decide) k) ?_
    show own_G p.tables e below _ (s₁.setTop (mkF m 28 #[rv wa, rv wa, iv 4, iv 0, .val (.long wt0), .second] []))
    refine own_step (fun t k => XS.iinc X0.here hx rfl (hb hby d5_28) rfl (l' := #[rv wa, rv wa, iv 4, iv 1, .val (.long wt0), .second]) rfl k) ?_
    refine own_go X0.here hx rfl (pc0 := 31) (pc' := 7) rfl (hb hby d5_31) (by decide) (by decide) ?_
    refine own_il X0.here hx rfl (hb hby d5_7) rfl ?_
    refine own_il X0.here hx rfl (hb hby d5_8) rfl ?_
    have hk3 : (1 : Int32) < (4 : Int32) := (by decide)
    refine own_step (fun t k => XS.icmpNo X0.here hx rfl (hb hby d5_9) rfl ((tlt hk3).2.1) k) ?_
    show own_G p.tables e below _ (s₁.setTop (mkF m 12 #[rv wa, rv wa, iv 4, iv 1, .val (.long wt0), .second] []))
    refine own_al X0.here hx rfl (hb hby d5_12) rfl rfl ?_
    refine own_il X0.here hx rfl (hb hby d5_13) rfl ?_
    refine own_step (own_laload X0 hx hZ e0 fp0 (own_inb (by decide) (Nat.le_of_ble_eq_true rfl)) (g := (mkF m 14 #[rv wa, rv wa, iv 4, iv 1, .val (.long wt0), .second] [(.int 1), (.ref wa)])) rfl rfl (hb hby d5_14)) ?_
    refine own_step (fun t k => XS.lstore X0.here hx rfl (hb hby d5_15) rfl (l' := #[rv wa, rv wa, iv 4, iv 1, .val (.long wt1), .second]) rfl k) ?_
    refine own_lx X0.here hx rfl (hb hby d5_17) rfl ?_
    refine own_step (X0.ldc2Long hx hown (mvT hZ (own_w hw 26 rfl)) (g := (mkF m 19 #[rv wa, rv wa, iv 4, iv 1, .val (.long wt1), .second] [(.long wt1)])) rfl (hb hby d5_19)) ?_
    refine own_step (fun t k => XS.lcmp X0.here hx rfl (hb hby d5_22) rfl k) ?_
    show own_G p.tables e below _ (s₁.setTop (mkF m 23 #[rv wa, rv wa, iv 4, iv 1, .val (.long wt1), .second] [(.int (lcmpW wt1 (4294967294 : Int64)))]))
    by_cases hc4 : (4294967294 : Int64) < wt1
    · skip
      refine own_step (fun t k => XS.ifNo X0.here hx rfl (hb hby d5_23) rfl ((if0 _ _).trans (tlt ((lw_gt _ _).mpr hc4)).2.2.2) k) ?_
      show own_G p.tables e below _ (s₁.setTop (mkF m 26 #[rv wa, rv wa, iv 4, iv 1, .val (.long wt1), .second] []))
      refine own_ic X0.here hx rfl (hb hby d5_26) ?_
      obtain ⟨fs, hr, hrun, hended, hW, hsame⟩ := X0.leave (v := some (.int (0 : Int32))) (fun h => by rw [Bd.returns] at h; cases h)
      refine own_done (retN X0 hx (t := .boolean) Bd.returns (by simp) (hb hby d5_27) hr) hrun hended ⟨_, _, rfl, ?_, ⟨_, rfl⟩, hW, hsame.mono (by decide) (by decide)⟩
      show Q5_n4 Z wa wt0 wt1 wt2 wt3 h0 n0 _ s₁.heap _
      rw [e0]
      exact ⟨congrArg (fun z => some (Value.int z)) (show (0 : Int32) = (own_f5_n4 wt0 wt1 wt2 wt3) from by unfold own_f5_n4; simp only [if_neg hc2, if_pos hc4]), N0, rfl⟩
    · skip
      refine own_step (fun t k => XS.ifYes X0.here hx rfl (pc0 := 23) (pc' := 28) rfl (hb hby d5_23) rfl ((if0 _ _).trans (flt (fun q => hc4 ((lw_gt _ _).mp q))).2.2.2) (by decide) (by decide) k) ?_
      show own_G p.tables e below _ (s₁.setTop (mkF m 28 #[rv wa, rv wa, iv 4, iv 1, .val (.long wt1), .second] []))
      refine own_step (fun t k => XS.iinc X0.here hx rfl (hb hby d5_28) rfl (l' := #[rv wa, rv wa, iv 4, iv 2, .val (.long wt1), .second]) rfl k) ?_
      refine own_go X0.here hx rfl (pc0 := 31) (pc' := 7) rfl (hb hby d5_31) (by decide) (by decide) ?_
      refine own_il X0.here hx rfl (hb hby d5_7) rfl ?_
      refine own_il X0.here hx rfl (hb hby d5_8) rfl ?_
      have hk5 : (2 : Int32) < (4 : Int32) := (by decide)
      refine own_step (fun t k => XS.icmpNo X0.here hx rfl (hb hby d5_9) rfl ((tlt hk5).2.1) k) ?_
      show own_G p.tables e below _ (s₁.setTop (mkF m 12 #[rv wa, rv wa, iv 4, iv 2, .val (.long wt1), .second] []))
      refine own_al X0.here hx rfl (hb hby d5_12) rfl rfl ?_
      refine own_il X0.here hx rfl (hb hby d5_13) rfl ?_
      refine own_step (own_laload X0 hx hZ e0 fp0 (own_inb (by decide) (Nat.le_of_ble_eq_true rfl)) (g := (mkF m 14 #[rv wa, rv wa, iv 4, iv 2, .val (.long wt1), .second] [(.int 2), (.ref wa)])) rfl rfl (hb hby d5_14)) ?_
      refine own_step (fun t k => XS.lstore X0.here hx rfl (hb hby d5_15) rfl (l' := #[rv wa, rv wa, iv 4, iv 2, .val (.long wt2), .second]) rfl k) ?_
      refine own_lx X0.here hx rfl (hb hby d5_17) rfl ?_
      refine own_step (X0.ldc2Long hx hown (mvT hZ (own_w hw 26 rfl)) (g := (mkF m 19 #[rv wa, rv wa, iv 4, iv 2, .val (.long wt2), .second] [(.long wt2)])) rfl (hb hby d5_19)) ?_
      refine own_step (fun t k => XS.lcmp X0.here hx rfl (hb hby d5_22) rfl k) ?_
      show own_G p.tables e below _ (s₁.setTop (mkF m 23 #[rv wa, rv wa, iv 4, iv 2, .val (.long wt2), .second] [(.int (lcmpW wt2 (4294967294 : Int64)))]))
      by_cases hc6 : (4294967294 : Int64) < wt2
      · skip
        refine own_step (fun t k => XS.ifNo X0.here hx rfl (hb hby d5_23) rfl ((if0 _ _).trans (tlt ((lw_gt _ _).mpr hc6)).2.2.2) k) ?_
        show own_G p.tables e below _ (s₁.setTop (mkF m 26 #[rv wa, rv wa, iv 4, iv 2, .val (.long wt2), .second] []))
        refine own_ic X0.here hx rfl (hb hby d5_26) ?_
        obtain ⟨fs, hr, hrun, hended, hW, hsame⟩ := X0.leave (v := some (.int (0 : Int32))) (fun h => by rw [Bd.returns] at h; cases h)
        refine own_done (retN X0 hx (t := .boolean) Bd.returns (by simp) (hb hby d5_27) hr) hrun hended ⟨_, _, rfl, ?_, ⟨_, rfl⟩, hW, hsame.mono (by decide) (by decide)⟩
        show Q5_n4 Z wa wt0 wt1 wt2 wt3 h0 n0 _ s₁.heap _
        rw [e0]
        exact ⟨congrArg (fun z => some (Value.int z)) (show (0 : Int32) = (own_f5_n4 wt0 wt1 wt2 wt3) from by unfold own_f5_n4; simp only [if_neg hc2, if_neg hc4, if_pos hc6]), N0, rfl⟩
      · skip
        refine own_step (fun t k => XS.ifYes X0.here hx rfl (pc0 := 23) (pc' := 28) rfl (hb hby d5_23) rfl ((if0 _ _).trans (flt (fun q => hc6 ((lw_gt _ _).mp q))).2.2.2) (by decide) (by decide) k) ?_
        show own_G p.tables e below _ (s₁.setTop (mkF m 28 #[rv wa, rv wa, iv 4, iv 2, .val (.long wt2), .second] []))
        refine own_step (fun t k => XS.iinc X0.here hx rfl (hb hby d5_28) rfl (l' := #[rv wa, rv wa, iv 4, iv 3, .val (.long wt2), .second]) rfl k) ?_
        refine own_go X0.here hx rfl (pc0 := 31) (pc' := 7) rfl (hb hby d5_31) (by decide) (by decide) ?_
        refine own_il X0.here hx rfl (hb hby d5_7) rfl ?_
        refine own_il X0.here hx rfl (hb hby d5_8) rfl ?_
        have hk7 : (3 : Int32) < (4 : Int32) := (by decide)
        refine own_step (fun t k => XS.icmpNo X0.here hx rfl (hb hby d5_9) rfl ((tlt hk7).2.1) k) ?_
        show own_G p.tables e below _ (s₁.setTop (mkF m 12 #[rv wa, rv wa, iv 4, iv 3, .val (.long wt2), .second] []))
        refine own_al X0.here hx rfl (hb hby d5_12) rfl rfl ?_
        refine own_il X0.here hx rfl (hb hby d5_13) rfl ?_
        refine own_step (own_laload X0 hx hZ e0 fp0 (own_inb (by decide) (Nat.le_of_ble_eq_true rfl)) (g := (mkF m 14 #[rv wa, rv wa, iv 4, iv 3, .val (.long wt2), .second] [(.int 3), (.ref wa)])) rfl rfl (hb hby d5_14)) ?_
        refine own_step (fun t k => XS.lstore X0.here hx rfl (hb hby d5_15) rfl (l' := #[rv wa, rv wa, iv 4, iv 3, .val (.long wt3), .second]) rfl k) ?_
        refine own_lx X0.here hx rfl (hb hby d5_17) rfl ?_
        refine own_step (X0.ldc2Long hx hown (mvT hZ (own_w hw 26 rfl)) (g := (mkF m 19 #[rv wa, rv wa, iv 4, iv 3, .val (.long wt3), .second] [(.long wt3)])) rfl (hb hby d5_19)) ?_
        refine own_step (fun t k => XS.lcmp X0.here hx rfl (hb hby d5_22) rfl k) ?_
        show own_G p.tables e below _ (s₁.setTop (mkF m 23 #[rv wa, rv wa, iv 4, iv 3, .val (.long wt3), .second] [(.int (lcmpW wt3 (4294967294 : Int64)))]))
        by_cases hc8 : (4294967294 : Int64) < wt3
        · skip
          refine own_step (fun t k => XS.ifNo X0.here hx rfl (hb hby d5_23) rfl ((if0 _ _).trans (tlt ((lw_gt _ _).mpr hc8)).2.2.2) k) ?_
          show own_G p.tables e below _ (s₁.setTop (mkF m 26 #[rv wa, rv wa, iv 4, iv 3, .val (.long wt3), .second] []))
          refine own_ic X0.here hx rfl (hb hby d5_26) ?_
          obtain ⟨fs, hr, hrun, hended, hW, hsame⟩ := X0.leave (v := some (.int (0 : Int32))) (fun h => by rw [Bd.returns] at h; cases h)
          refine own_done (retN X0 hx (t := .boolean) Bd.returns (by simp) (hb hby d5_27) hr) hrun hended ⟨_, _, rfl, ?_, ⟨_, rfl⟩, hW, hsame.mono (by decide) (by decide)⟩
          show Q5_n4 Z wa wt0 wt1 wt2 wt3 h0 n0 _ s₁.heap _
          rw [e0]
          exact ⟨congrArg (fun z => some (Value.int z)) (show (0 : Int32) = (own_f5_n4 wt0 wt1 wt2 wt3) from by unfold own_f5_n4; simp only [if_neg hc2, if_neg hc4, if_neg hc6, if_pos hc8]), N0, rfl⟩
        · skip
          refine own_step (fun t k => XS.ifYes X0.here hx rfl (pc0 := 23) (pc' := 28) rfl (hb hby d5_23) rfl ((if0 _ _).trans (flt (fun q => hc8 ((lw_gt _ _).mp q))).2.2.2) (by decide) (by decide) k) ?_
          show own_G p.tables e below _ (s₁.setTop (mkF m 28 #[rv wa, rv wa, iv 4, iv 3, .val (.long wt3), .second] []))
          refine own_step (fun t k => XS.iinc X0.here hx rfl (hb hby d5_28) rfl (l' := #[rv wa, rv wa, iv 4, iv 4, .val (.long wt3), .second]) rfl k) ?_
          refine own_go X0.here hx rfl (pc0 := 31) (pc' := 7) rfl (hb hby d5_31) (by decide) (by decide) ?_
          refine own_il X0.here hx rfl (hb hby d5_7) rfl ?_
          refine own_il X0.here hx rfl (hb hby d5_8) rfl ?_
          have hk9 : ¬ ((4 : Int32) < (4 : Int32)) := (by decide)
          refine own_step (fun t k => XS.icmpYes X0.here hx rfl (pc0 := 9) (pc' := 34) rfl (hb hby d5_9) rfl ((flt hk9).2.1) (by decide) (by decide) k) ?_
          show own_G p.tables e below _ (s₁.setTop (mkF m 34 #[rv wa, rv wa, iv 4, iv 4, .val (.long wt3), .second] []))
          refine own_ic X0.here hx rfl (hb hby d5_34) ?_
          obtain ⟨fs, hr, hrun, hended, hW, hsame⟩ := X0.leave (v := some (.int (1 : Int32))) (fun h => by rw [Bd.returns] at h; cases h)
          refine own_done (retN X0 hx (t := .boolean) Bd.returns (by simp) (hb hby d5_35) hr) hrun hended ⟨_, _, rfl, ?_, ⟨_, rfl⟩, hW, hsame.mono (by decide) (by decide)⟩
          show Q5_n4 Z wa wt0 wt1 wt2 wt3 h0 n0 _ s₁.heap _
          rw [e0]
          exact ⟨congrArg (fun z => some (Value.int z)) (show (1 : Int32) = (own_f5_n4 wt0 wt1 wt2 wt3) from by unfold own_f5_n4; simp only [if_neg hc2, if_neg hc4, if_neg hc6, if_neg hc8]), N0, rfl⟩
theorem pn_7_n4 : plainName "java/util/Arrays" = true := by first | (simp [plainName, overriddenIn]; done) | decide +kernel
theorem pd_7_n4_0 : parseMethodDescriptor "(III)V" = some ⟨[.int, .int, .int], none⟩ := by decide +kernel
theorem ef_7_n4 (m : MethodId) (ar : Addr) (vv : Int64) : entryFrame m #[(.ref ar), (.int (7 : Int32)), (.int (10 : Int32)), (.long vv)] 6 = mkF m 0 #[rv ar, iv (7 : Int32), iv (10 : Int32), .val (.long vv), .second, .unset] [] := by first | (simp [entryFrame, mkF, argsToLocals, Value.category]; done) | rfl
def Q7_n4 (Z : State) (ar : Addr) (vv : Int64) (kk0 : Int64) (kk1 : Int64) (kk2 : Int64) (kk3 : Int64) (kk4 : Int64) (kk5 : Int64) (kk6 : Int64) (kk7 : Int64) (kk8 : Int64) (kk9 : Int64) (h0 : Heap) (n0 : Nat) (v : Option Value) (h : Heap) (L : List Loc) : Prop := v = none ∧ Fr n0 L ∧ Keep h0 h [ar] ∧ own_Arj Z h ar [kk0, kk1, kk2, kk3, kk4, kk5, kk6, vv, vv, vv]
set_option maxRecDepth 65536 in
set_option maxHeartbeats 40000000 in
theorem rm7_n4 (l : Launch) (Z : State) (a0 : Array Value) (hw : ∀ d ∈ tables_1, d.before a0 Z = true) (ws : List Jvm.Cond) (ar : Addr) (vv : Int64) (kk0 : Int64) (kk1 : Int64) (kk2 : Int64) (kk3 : Int64) (kk4 : Int64) (kk5 : Int64) (kk6 : Int64) (kk7 : Int64) (kk8 : Int64) (kk9 : Int64) (h0 : Heap) (n0 : Nat) (Z0 : n0 ≤ h0.size) (fp0 : own_Arj Z h0 ar [kk0, kk1, kk2, kk3, kk4, kk5, kk6, kk7, kk8, kk9]) (g_ar : n0 ≤ ar) :
    MetFree l (⟨"java/util/Arrays", "fill", "([JIIJ)V"⟩ : MethodName) (head1 (Jvm.Cond.code (⟨"java/util/Arrays", "fill", "([JIIJ)V"⟩ : MethodName) jdk_65_method_102_code 6 none :: ws) ({ frames := 1, cells := 0, slots := 0, locals := 14 } : Room)) (fun a U => a = #[(.ref ar), (.int (7 : Int32)), (.int (10 : Int32)), (.long vv)] ∧ Z.Warmed39 U.vm ∧ U.heap = h0) (fun _ _ _ _ _ => True) (fun _ U o U' => ∃ v L, o = .returned v ∧ Q7_n4 Z ar vv kk0 kk1 kk2 kk3 kk4 kk5 kk6 kk7 kk8 kk9 h0 n0 v U'.heap L ∧ FrameEnd U o U' L ({ frames := 1, cells := 0, slots := 0, locals := 14 } : Room).cells ({ frames := 1, cells := 0, slots := 0, locals := 14 } : Room).slots) := by
  refine MetFree.of_bodySF (plainFor_of_name pn_7_n4) hisR ?_
  intro p e s m args below meth c s₁ Bd hml0 hP hK
  obtain ⟨rfl, hZ, hh⟩ := hP
  have hx := Bd.exec
  have hby := Bd.bytes
  have hml : c.maxLocals = 6 := hml0
  have hown : s.vm.findClass "java/util/Arrays" = some m.cls := findClass_of_methodNamed Bd.named
  have hnm := (name_of_methodNamed Bd.named Bd.method).1
  have X0 : Stand p l e ({ frames := 1, cells := 0, slots := 0, locals := 14 } : Room) s m #[(.ref ar), (.int (7 : Int32)), (.int (10 : Int32)), (.long vv)] below meth c s₁ [] 0 0 := Stand.of_body Bd
  have e0 : s₁.heap = h0 := by rw [← hh, Bd.state]; rfl
  have N0 := Fr.nil n0
  refine own_start (fun t k => castTop (ef_7_n4 m ar vv) k) ?_
  show own_G p.tables e below _ (s₁.setTop (mkF m 0 #[rv ar, iv 7, iv 10, .val (.long vv), .second, .unset] []))
  refine own_al X0.here hx rfl (hb hby d7_0) rfl rfl ?_
  refine own_step (own_lenJ X0 hx hZ e0 fp0 (g := (mkF m 1 #[rv ar, iv 7, iv 10, .val (.long vv), .second, .unset] [(.ref ar)])) rfl rfl (hb hby d7_1)) ?_
  refine own_il X0.here hx rfl (hb hby d7_2) rfl ?_
  refine own_il X0.here hx rfl (hb hby d7_3) rfl ?_
  obtain ⟨_, _, ⟨T1, L1, k1, n1⟩, -, X1, ⟨Lc1, hQ1, l1, y1, z1⟩, st1⟩ := Jvm.LawKit.callS X0 hx (y := own_y8) hown (mvT hZ (own_w hw 35 rfl)) (mvT hZ (own_w hw 36 rfl)) (mvT hZ (own_w hw 33 rfl)) (mvT hZ (own_w hw 37 rfl)) (by decide) (backOf (W := 0) (rm8 l Z a0 hw [] (10 : Int32) (7 : Int32) (10 : Int32) h0 n0 (Nat.le_trans Z0 (Keep.refl h0 [ar]).1) (by decide : ¬ (10 : Int32) < (7 : Int32)) (by decide : ¬ (7 : Int32) < (0 : Int32)) (by decide : ¬ (10 : Int32) < (10 : Int32))) hZ (own_w hw 37 rfl) (own_w hw 33 rfl) (by decide) (by decide)) (g := (mkF m 4 #[rv ar, iv 7, iv 10, .val (.long vv), .second, .unset] [(.int 10), (.int 7), (.int 10)])) rfl (by rw [hml]; rfl) (argsL := [(.int 10), (.int 7), (.int 10)]) (rest := []) (lenOf pd_7_n4_0 rfl) rfl (own_wl rfl) (hb hby d7_4) (fun _ _ => ⟨rfl, e0, (by decide : 0 + 0 ≤ _), (by decide : 0 + 0 ≤ _)⟩)
  dsimp only [Pt.U, Pt.locs, Pt.cells, Pt.slots] at X1 l1 y1 z1 st1 hQ1
  subst y1 z1
  obtain ⟨rfl, N1q, e1⟩ := hQ1
  have N1 : Fr n0 L1 := by rw [l1]; exact Fr.app N0 N1q
  refine own_step st1 ?_
  refine own_il X1.here hx rfl (hb hby d7_7) rfl ?_
  refine own_step (fun t k => XS.istore X1.here hx rfl (hb hby d7_8) rfl (l' := #[rv ar, iv 7, iv 10, .val (.long vv), .second, iv 7]) rfl k) ?_
  show own_G p.tables e below _ (T1.setTop (mkF m 10 #[rv ar, iv 7, iv 10, .val (.long vv), .second, iv 7] []))
  refine own_ix X1.here hx rfl (hb hby d7_10) rfl ?_
  refine own_il X1.here hx rfl (hb hby d7_12) rfl ?_
  have hk2 : (7 : Int32) < (10 : Int32) := (by decide)
  refine own_step (fun t k => XS.icmpNo X1.here hx rfl (hb hby d7_13) rfl ((tlt hk2).2.1) k) ?_
  show own_G p.tables e below _ (T1.setTop (mkF m 16 #[rv ar, iv 7, iv 10, .val (.long vv), .second, iv 7] []))
  refine own_al X1.here hx rfl (hb hby d7_16) rfl rfl ?_
  refine own_ix X1.here hx rfl (hb hby d7_17) rfl ?_
  refine own_step (fun t k => XS.lloadN X1.here hx rfl (hb hby d7_19) rfl k) ?_
  obtain ⟨T3, h3, X3, e3, W3, c3, st3⟩ := own_lastore X1 hx hZ e1 fp0 (own_inb (by decide) (Nat.le_of_ble_eq_true rfl)) (g := (mkF m 20 #[rv ar, iv 7, iv 10, .val (.long vv), .second, iv 7] [(.long vv), (.int 7), (.ref ar)])) rfl rfl (hb hby d7_20)
  have N3 := Fr.snoc X3 N1 g_ar
  have c4 : own_Arj Z h3 ar [kk0, kk1, kk2, kk3, kk4, kk5, kk6, vv, kk8, kk9] := c3
  have K3 : Keep h0 h3 [ar] := (Keep.refl h0 [ar]).wr W3 (Or.inl (List.mem_of_getElem? (i := 0) rfl))
  refine own_step st3 ?_
  refine own_step (fun t k => XS.iinc X3.here hx rfl (hb hby d7_21) rfl (l' := #[rv ar, iv 7, iv 10, .val (.long vv), .second, iv 8]) rfl k) ?_
  refine own_go X3.here hx rfl (pc0 := 24) (pc' := 10) rfl (hb hby d7_24) (by decide) (by decide) ?_
  refine own_ix X3.here hx rfl (hb hby d7_10) rfl ?_
  show own_G p.tables e below _ (T3.setTop (mkF m 12 #[rv ar, iv 7, iv 10, .val (.long vv), .second, iv 8] [(.int 8)]))
  refine own_il X3.here hx rfl (hb hby d7_12) rfl ?_
  have hk6 : (8 : Int32) < (10 : Int32) := (by decide)
  refine own_step (fun t k => XS.icmpNo X3.here hx rfl (hb hby d7_13) rfl ((tlt hk6).2.1) k) ?_
  clear N1 N1q W3 X1 c3 e1 hk2 hk6 st1 st3
  show own_G p.tables e below _ (T3.setTop (mkF m 16 #[rv ar, iv 7, iv 10, .val (.long vv), .second, iv 8] []))
  refine own_al X3.here hx rfl (hb hby d7_16) rfl rfl ?_
  refine own_ix X3.here hx rfl (hb hby d7_17) rfl ?_
  refine own_step (fun t k => XS.lloadN X3.here hx rfl (hb hby d7_19) rfl k) ?_
  obtain ⟨T7, h7, X7, e7, W7, c7, st7⟩ := own_lastore X3 hx hZ e3 c4 (own_inb (by decide) (Nat.le_of_ble_eq_true rfl)) (g := (mkF m 20 #[rv ar, iv 7, iv 10, .val (.long vv), .second, iv 8] [(.long vv), (.int 8), (.ref ar)])) rfl rfl (hb hby d7_20)
  have N7 := Fr.snoc X7 N3 g_ar
  have c8 : own_Arj Z h7 ar [kk0, kk1, kk2, kk3, kk4, kk5, kk6, vv, vv, kk9] := c7
  have K7 : Keep h0 h7 [ar] := K3.wr W7 (Or.inl (List.mem_of_getElem? (i := 0) rfl))
  refine own_step st7 ?_
  refine own_step (fun t k => XS.iinc X7.here hx rfl (hb hby d7_21) rfl (l' := #[rv ar, iv 7, iv 10, .val (.long vv), .second, iv 9]) rfl k) ?_
  refine own_go X7.here hx rfl (pc0 := 24) (pc' := 10) rfl (hb hby d7_24) (by decide) (by decide) ?_
  refine own_ix X7.here hx rfl (hb hby d7_10) rfl ?_
  show own_G p.tables e below _ (T7.setTop (mkF m 12 #[rv ar, iv 7, iv 10, .val (.long vv), .second, iv 9] [(.int 9)]))
  refine own_il X7.here hx rfl (hb hby d7_12) rfl ?_
  have hk10 : (9 : Int32) < (10 : Int32) := (by decide)
  refine own_step (fun t k => XS.icmpNo X7.here hx rfl (hb hby d7_13) rfl ((tlt hk10).2.1) k) ?_
  show own_G p.tables e below _ (T7.setTop (mkF m 16 #[rv ar, iv 7, iv 10, .val (.long vv), .second, iv 9] []))
  refine own_al X7.here hx rfl (hb hby d7_16) rfl rfl ?_
  refine own_ix X7.here hx rfl (hb hby d7_17) rfl ?_
  refine own_step (fun t k => XS.lloadN X7.here hx rfl (hb hby d7_19) rfl k) ?_
  obtain ⟨T11, h11, X11, e11, W11, c11, st11⟩ := own_lastore X7 hx hZ e7 c8 (own_inb (by decide) (Nat.le_of_ble_eq_true rfl)) (g := (mkF m 20 #[rv ar, iv 7, iv 10, .val (.long vv), .second, iv 9] [(.long vv), (.int 9), (.ref ar)])) rfl rfl (hb hby d7_20)
  have N11 := Fr.snoc X11 N7 g_ar
  have c12 : own_Arj Z h11 ar [kk0, kk1, kk2, kk3, kk4, kk5, kk6, vv, vv, vv] := c11
  have K11 : Keep h0 h11 [ar] := K7.wr W11 (Or.inl (List.mem_of_getElem? (i := 0) rfl))
  refine own_step st11 ?_
  refine own_step (fun t k => XS.iinc X11.here hx rfl (hb hby d7_21) rfl (l' := #[rv ar, iv 7, iv 10, .val (.long vv), .second, iv 10]) rfl k) ?_
  refine own_go X11.here hx rfl (pc0 := 24) (pc' := 10) rfl (hb hby d7_24) (by decide) (by decide) ?_
  refine own_ix X11.here hx rfl (hb hby d7_10) rfl ?_
  clear K3 K7 N3 N7 W11 W7 X3 X7 c11 c4 c7 c8 e3 e7 hk10 st11 st7
  show own_G p.tables e below _ (T11.setTop (mkF m 12 #[rv ar, iv 7, iv 10, .val (.long vv), .second, iv 10] [(.int 10)]))
  refine own_il X11.here hx rfl (hb hby d7_12) rfl ?_
  have hk14 : ¬ ((10 : Int32) < (10 : Int32)) := (by decide)
  refine own_step (fun t k => XS.icmpYes X11.here hx rfl (pc0 := 13) (pc' := 27) rfl (hb hby d7_13) rfl ((flt hk14).2.1) (by decide) (by decide) k) ?_
  show own_G p.tables e below _ (T11.setTop (mkF m 27 #[rv ar, iv 7, iv 10, .val (.long vv), .second, iv 10] []))
  obtain ⟨fs, hr, hrun, hended, hW, hsame⟩ := X11.leave (v := none) (fun _ => rfl)
  refine own_done (X11.returnOut hx Bd.returns (hb hby d7_27) hr) hrun hended ⟨_, _, rfl, ?_, ⟨_, rfl⟩, hW, hsame.mono (by decide) (by decide)⟩
  show Q7_n4 Z ar vv kk0 kk1 kk2 kk3 kk4 kk5 kk6 kk7 kk8 kk9 h0 n0 _ T11.heap _
  rw [e11]
  exact ⟨rfl, N11, K11, c12⟩
theorem pn_3_p4 : plainName "com/example/leafcode/leafcode/FourWayHeap" = true := by first | (simp [plainName, overriddenIn]; done) | decide +kernel
theorem pd_3_p4_0 : parseMethodDescriptor "([J)Z" = some ⟨[(.array .long)], some .boolean⟩ := by decide +kernel
theorem pd_3_p4_1 : parseMethodDescriptor "(JI)J" = some ⟨[.long, .int], some .long⟩ := by decide +kernel
theorem pd_3_p4_2 : parseMethodDescriptor "([JIIJ)V" = some ⟨[(.array .long), .int, .int, .long], none⟩ := by decide +kernel
theorem pd_3_p4_3 : parseMethodDescriptor "(I)I" = some ⟨[.int], some .int⟩ := by decide +kernel
theorem pd_3_p4_4 : parseMethodDescriptor "(II)V" = some ⟨[.int, .int], none⟩ := by decide +kernel
theorem pd_3_p4_5 : parseMethodDescriptor "(I)V" = some ⟨[.int], none⟩ := by decide +kernel
theorem ef_3_p4 (m : MethodId) (a1 : Addr) (wa : Addr) : entryFrame m #[(.ref a1), (.ref wa)] 4 = mkF m 0 #[rv a1, rv wa, .unset, .unset] [] := by first | (simp [entryFrame, mkF, argsToLocals, Value.category]; done) | rfl
def Q3_p4 (Z : State) (a1 : Addr) (wa : Addr) (wt0 : Int64) (wt1 : Int64) (wt2 : Int64) (wt3 : Int64) (h0 : Heap) (n0 : Nat) (v : Option Value) (h : Heap) (L : List Loc) : Prop := ∃ (x1 : Addr) (L_x1 : List Int64), v = none ∧ Fr n0 L ∧ Keep h0 h [a1] ∧ Fld Z h a1 own_C "end" "I" (.int 7) ∧ Fld Z h a1 own_C "keys" "[J" (.ref x1) ∧ Fld Z h a1 own_C "nodes" "[I" .null ∧ own_Arj Z h x1 L_x1 ∧ h0.size ≤ x1 ∧ (L_x1.length = 10 ∧ (own_ush (L_x1.getD 3 0)).toInt = (min (min (min wt0.toInt wt1.toInt) wt2.toInt) wt3.toInt))
set_option maxRecDepth 65536 in
set_option maxHeartbeats 40000000 in
theorem rm3_p4 (l : Launch) (Z : State) (a0 : Array Value) (hw : ∀ d ∈ tables_1, d.before a0 Z = true) (ws : List Jvm.Cond) (a1 : Addr) (wa : Addr) (wt0 : Int64) (wt1 : Int64) (wt2 : Int64) (wt3 : Int64) (h0 : Heap) (n0 : Nat) (Z0 : n0 ≤ h0.size) (fp0 : Exa Z h0 a1 own_C) (fp1 : Fld Z h0 a1 own_C "end" "I" (.int 0)) (fp2 : Fld Z h0 a1 own_C "keys" "[J" .null) (fp3 : Fld Z h0 a1 own_C "nodes" "[I" .null) (fp4 : own_Arj Z h0 wa [wt0, wt1, wt2, wt3]) (hpk : own_f5_n4 wt0 wt1 wt2 wt3 = 1) (hnn0 : 0 ≤ wt0.toInt) (hnn1 : 0 ≤ wt1.toInt) (hnn2 : 0 ≤ wt2.toInt) (hnn3 : 0 ≤ wt3.toInt) (g_a1 : n0 ≤ a1) (ne_wa_a1 : wa ≠ a1) :
    MetFree l (⟨"com/example/leafcode/leafcode/FourWayHeap", "<init>", "([J)V"⟩ : MethodName) (head1 (Jvm.Cond.code (⟨"com/example/leafcode/leafcode/FourWayHeap", "<init>", "([J)V"⟩ : MethodName) prog_20_method_1_code 4 none :: ws) ({ frames := 2, cells := 1, slots := 10, locals := 52 } : Room)) (fun a U => a = #[(.ref a1), (.ref wa)] ∧ Z.Warmed39 U.vm ∧ U.heap = h0) (fun _ _ _ _ _ => True) (fun _ U o U' => ∃ v L, o = .returned v ∧ Q3_p4 Z a1 wa wt0 wt1 wt2 wt3 h0 n0 v U'.heap L ∧ FrameEnd U o U' L ({ frames := 2, cells := 1, slots := 10, locals := 52 } : Room).cells ({ frames := 2, cells := 1, slots := 10, locals := 52 } : Room).slots) := by
  refine MetFree.of_bodySF (plainFor_of_name pn_3_p4) hisR ?_
  intro p e s m args below meth c s₁ Bd hml0 hP hK
  obtain ⟨rfl, hZ, hh⟩ := hP
  have hx := Bd.exec
  have hby := Bd.bytes
  have hml : c.maxLocals = 4 := hml0
  have hown : s.vm.findClass "com/example/leafcode/leafcode/FourWayHeap" = some m.cls := findClass_of_methodNamed Bd.named
  have hnm := (name_of_methodNamed Bd.named Bd.method).1
  have X0 : Stand p l e ({ frames := 2, cells := 1, slots := 10, locals := 52 } : Room) s m #[(.ref a1), (.ref wa)] below meth c s₁ [] 0 0 := Stand.of_body Bd
  have e0 : s₁.heap = h0 := by rw [← hh, Bd.state]; rfl
  have N0 := Fr.nil n0
  refine own_start (fun t k => castTop (ef_3_p4 m a1 wa) k) ?_
  show own_G p.tables e below _ (s₁.setTop (mkF m 0 #[rv a1, rv wa, .unset, .unset] []))
  refine own_al X0.here hx rfl (hb hby d3_0) rfl rfl ?_
  obtain ⟨T1, X1, e1, st1⟩ := initO X0 hx hZ hown (own_w hw 16 rfl) (own_w hw 17 rfl) (own_w hw 18 rfl) e0 (g := (mkF m 1 #[rv a1, rv wa, .unset, .unset] [(.ref a1)])) rfl (by rw [hml]; rfl) rfl (hb hby d3_1) (by decide) (W := 0) (by show 2 * 0 + _ ≤ _; exact Nat.le_of_eq rfl) (by decide)
  refine own_step st1 ?_
  refine own_al X1.here hx rfl (hb hby d3_4) rfl rfl ?_
  refine own_step (own_lenJ X1 hx hZ e1 fp4 (g := (mkF m 5 #[rv a1, rv wa, .unset, .unset] [(.ref wa)])) rfl rfl (hb hby d3_5)) ?_
  refine own_step (fun t k => XS.istoreN X1.here hx rfl (hb hby d3_6) rfl (l' := #[rv a1, rv wa, iv 4, .unset]) rfl k) ?_
  refine own_al X1.here hx rfl (hb hby d3_7) rfl rfl ?_
  refine own_ic X1.here hx rfl (hb hby d3_8) ?_
  show own_G p.tables e below _ (T1.setTop (mkF m 9 #[rv a1, rv wa, iv 4, .unset] [(.int 3), (.ref a1)]))
  refine own_il X1.here hx rfl (hb hby d3_9) rfl ?_
  refine own_step (fun t k => XS.iadd X1.here hx rfl (hb hby d3_10) rfl k) ?_
  obtain ⟨T2, h2, X2, e2, W2, st2⟩ := putF X1 hx hZ hown (host := "") (Or.inl (own_w hw 19 rfl)) Via.refl e1 fp1 fp0 (Or.inl (own_w hw 20 rfl)) (own_w hw 11 rfl) (ty := .int) (by decide) rfl rfl (g := (mkF m 11 #[rv a1, rv wa, iv 4, .unset] [(.int 7), (.ref a1)])) rfl rfl (hb hby d3_11)
  have N2 := Fr.snoc X2 N0 g_a1
  have c3 : Fld Z h2 a1 own_C "end" "I" (.int 7) := fp1.same W2
  have c4 : Exa Z h2 a1 own_C := fp0.wr W2
  have c6 : Fld Z h2 a1 own_C "keys" "[J" .null := fp2.other W2 (Or.inr (slot_ne (Or.inl (own_w hw 22 rfl)) (Or.inl (own_w hw 20 rfl)) (by decide) (t := (.array .long)) (t' := .int) (by decide) (by decide)))
  have c7 : Fld Z h2 a1 own_C "nodes" "[I" .null := fp3.other W2 (Or.inr (slot_ne (Or.inl (own_w hw 46 rfl)) (Or.inl (own_w hw 20 rfl)) (by decide) (t := (.array .int)) (t' := .int) (by decide) (by decide)))
  have c8 : own_Arj Z h2 wa [wt0, wt1, wt2, wt3] := fp4.other W2 ne_wa_a1
  have K2 : Keep h0 h2 [a1] := (Keep.refl h0 [a1]).wr W2 (Or.inl (List.mem_of_getElem? (i := 0) rfl))
  refine own_step st2 ?_
  refine own_al X2.here hx rfl (hb hby d3_14) rfl rfl ?_
  refine own_al X2.here hx rfl (hb hby d3_15) rfl rfl ?_
  obtain ⟨T9, X9, e9, st9⟩ := getF X2 hx hZ hown (host := "") (Or.inl (own_w hw 19 rfl)) Via.refl e2 c3 (g := (mkF m 16 #[rv a1, rv wa, iv 4, .unset] [(.ref a1), (.ref a1)])) rfl rfl (hb hby d3_16)
  refine own_step st9 ?_
  refine own_ic X9.here hx rfl (hb hby d3_19) ?_
  show own_G p.tables e below _ (T9.setTop (mkF m 20 #[rv a1, rv wa, iv 4, .unset] [(.int 4), (.int 7), (.ref a1)]))
  refine own_step (fun t k => XS.iadd X9.here hx rfl (hb hby d3_20) rfl k) ?_
  refine own_ic X9.here hx rfl (hb hby d3_21) ?_
  refine own_step (fun t k => XS.isub X9.here hx rfl (hb hby d3_22) rfl k) ?_
  obtain ⟨T10, h10, k10, X10, e10, E10, A10, st10⟩ := newP X9 hx hZ (own_w hw 5 rfl) e9 (g := (mkF m 23 #[rv a1, rv wa, iv 4, .unset] [(.int 10), (.ref a1)])) rfl (hb hby d3_23) rfl (by decide) (cap := 10) (by decide) (by decide) (by decide) (by decide)
  obtain ⟨b10, g10⟩ : ∃ z, z = h2.size := ⟨_, rfl⟩
  have ne11 : a1 ≠ b10 := Nat.ne_of_lt (Nat.lt_of_lt_of_le c4.lt (Nat.le_of_eq g10.symm))
  have ne12 : wa ≠ b10 := Nat.ne_of_lt (Nat.lt_of_lt_of_le c8.lt (Nat.le_of_eq g10.symm))
  have sz10 : h0.size ≤ b10 := Nat.le_trans K2.1 (Nat.le_of_eq g10.symm)
  have ge10 : n0 ≤ b10 := Nat.le_trans Z0 sz10
  have c13 : Exa Z h10 a1 own_C := c4.ext E10
  have c14 : Fld Z h10 a1 own_C "end" "I" (.int 7) := c3.ext E10
  have c15 : Fld Z h10 a1 own_C "keys" "[J" .null := c6.ext E10
  have c16 : Fld Z h10 a1 own_C "nodes" "[I" .null := c7.ext E10
  have c17 : own_Arj Z h10 wa [wt0, wt1, wt2, wt3] := c8.ext E10
  have K10 : Keep h0 h10 [a1] := K2.ext E10
  rw [← g10] at A10 st10
  have c18 : own_Arj Z h10 b10 [0, 0, 0, 0, 0, 0, 0, 0, 0, 0] := own_Arj_new A10 (by decide)
  refine own_step st10 ?_
  obtain ⟨T19, h19, X19, e19, W19, st19⟩ := putF X10 hx hZ hown (host := "") (Or.inl (own_w hw 21 rfl)) Via.refl e10 c15 c13 (Or.inl (own_w hw 22 rfl)) (own_w hw 11 rfl) (ty := (.array .long)) (by decide) rfl rfl (g := (mkF m 25 #[rv a1, rv wa, iv 4, .unset] [(.ref b10), (.ref a1)])) rfl rfl (hb hby d3_25)
  have N19 := Fr.snoc X19 N2 g_a1
  have c20 : Fld Z h19 a1 own_C "keys" "[J" (.ref b10) := c15.same W19
  have c21 : Exa Z h19 a1 own_C := c13.wr W19
  have c22 : Fld Z h19 a1 own_C "end" "I" (.int 7) := c14.other W19 (Or.inr (slot_ne (Or.inl (own_w hw 20 rfl)) (Or.inl (own_w hw 22 rfl)) (by decide) (t := .int) (t' := (.array .long)) (by decide) (by decide)))
  have c24 : Fld Z h19 a1 own_C "nodes" "[I" .null := c16.other W19 (Or.inr (slot_ne (Or.inl (own_w hw 46 rfl)) (Or.inl (own_w hw 22 rfl)) (by decide) (t := (.array .int)) (t' := (.array .long)) (by decide) (by decide)))
  have c25 : own_Arj Z h19 wa [wt0, wt1, wt2, wt3] := c17.other W19 ne_wa_a1
  have c26 : own_Arj Z h19 b10 [0, 0, 0, 0, 0, 0, 0, 0, 0, 0] := c18.other W19 (Ne.symm ne11)
  have K19 : Keep h0 h19 [a1] := K10.wr W19 (Or.inl (List.mem_of_getElem? (i := 0) rfl))
  refine own_step st19 ?_
  refine own_al X19.here hx rfl (hb hby d3_28) rfl rfl ?_
  obtain ⟨_, _, ⟨T27, L27, k27, n27⟩, -, X27, ⟨Lc27, hQ27, l27, y27, z27⟩, st27⟩ := Jvm.LawKit.callS X19 hx (y := own_y5) hown (mvT hZ (own_w hw 23 rfl)) (mvT hZ (own_w hw 24 rfl)) (mvT hZ (own_w hw 12 rfl)) (mvT hZ (own_w hw 25 rfl)) (by decide) (backOf (W := 0) (rm5_n4 l Z a0 hw [] wa wt0 wt1 wt2 wt3 h19 n0 (Nat.le_trans Z0 K19.1) c25) hZ (own_w hw 25 rfl) (own_w hw 12 rfl) (by decide) (by decide)) (g := (mkF m 29 #[rv a1, rv wa, iv 4, .unset] [(.ref wa)])) rfl (by rw [hml]; rfl) (argsL := [(.ref wa)]) (rest := []) (lenOf pd_3_p4_0 rfl) rfl (own_wl rfl) (hb hby d3_29) (fun _ _ => ⟨rfl, e19, (by decide : 1 + 0 ≤ _), (by decide : 10 + 0 ≤ _)⟩)
  dsimp only [Pt.U, Pt.locs, Pt.cells, Pt.slots] at X27 l27 y27 z27 st27 hQ27
  subst y27 z27
  obtain ⟨rfl, N27q, e27⟩ := hQ27
  have N27 : Fr n0 L27 := by rw [l27]; exact Fr.app N19 N27q
  refine own_step st27 ?_
  clear A10 E10 K10 K2 N19 N2 N27q W19 W2 X1 X10 X19 X2 X9 c13 c14 c15 c16 c17 c18 c3 c4 c6 c7 c8 e1 e10 e19 e2 e9 g10 st1 st10 st19 st2 st27 st9
  show own_G p.tables e below _ (T27.setTop (mkF m 32 #[rv a1, rv wa, iv 4, .unset] [(.int (own_f5_n4 wt0 wt1 wt2 wt3))]))
  have hk28 : ¬ ((own_f5_n4 wt0 wt1 wt2 wt3) = (0 : Int32)) := (by rw [hpk]; decide)
  refine own_step (fun t k => XS.ifNo X27.here hx rfl (hb hby d3_32) rfl ((if0 _ _).trans (feq hk28).1) k) ?_
  show own_G p.tables e below _ (T27.setTop (mkF m 35 #[rv a1, rv wa, iv 4, .unset] []))
  refine own_ic X27.here hx rfl (hb hby d3_35) ?_
  refine own_step (fun t k => XS.istoreN X27.here hx rfl (hb hby d3_36) rfl (l' := #[rv a1, rv wa, iv 4, iv 0]) rfl k) ?_
  refine own_il X27.here hx rfl (hb hby d3_37) rfl ?_
  refine own_il X27.here hx rfl (hb hby d3_38) rfl ?_
  have hk29 : (0 : Int32) < (4 : Int32) := (by decide)
  refine own_step (fun t k => XS.icmpNo X27.here hx rfl (hb hby d3_39) rfl ((tlt hk29).2.1) k) ?_
  show own_G p.tables e below _ (T27.setTop (mkF m 42 #[rv a1, rv wa, iv 4, iv 0] []))
  refine own_al X27.here hx rfl (hb hby d3_42) rfl rfl ?_
  obtain ⟨T30, X30, e30, st30⟩ := getF X27 hx hZ hown (host := "") (Or.inl (own_w hw 21 rfl)) Via.refl e27 c20 (g := (mkF m 43 #[rv a1, rv wa, iv 4, iv 0] [(.ref a1)])) rfl rfl (hb hby d3_43)
  refine own_step st30 ?_
  refine own_ic X30.here hx rfl (hb hby d3_46) ?_
  refine own_il X30.here hx rfl (hb hby d3_47) rfl ?_
  refine own_step (fun t k => XS.iadd X30.here hx rfl (hb hby d3_48) rfl k) ?_
  refine own_al X30.here hx rfl (hb hby d3_49) rfl rfl ?_
  refine own_il X30.here hx rfl (hb hby d3_50) rfl ?_
  show own_G p.tables e below _ (T30.setTop (mkF m 51 #[rv a1, rv wa, iv 4, iv 0] [(.int 0), (.ref wa), (.int 3), (.ref b10)]))
  refine own_step (own_laload X30 hx hZ e30 c25 (own_inb (by decide) (Nat.le_of_ble_eq_true rfl)) (g := (mkF m 51 #[rv a1, rv wa, iv 4, iv 0] [(.int 0), (.ref wa), (.int 3), (.ref b10)])) rfl rfl (hb hby d3_51)) ?_
  refine own_il X30.here hx rfl (hb hby d3_52) rfl ?_
  obtain ⟨_, _, ⟨T31, L31, k31, n31⟩, -, X31, ⟨Lc31, hQ31, l31, y31, z31⟩, st31⟩ := Jvm.LawKit.callS X30 hx (y := own_y6) hown (mvT hZ (own_w hw 27 rfl)) (mvT hZ (own_w hw 28 rfl)) (mvT hZ (own_w hw 12 rfl)) (mvT hZ (own_w hw 29 rfl)) (by decide) (backOf (W := 2) (rm6 l Z a0 hw [] wt0 (0 : Int32) h19 n0 (Nat.le_trans Z0 K19.1) ) hZ (own_w hw 29 rfl) (own_w hw 12 rfl) (by decide) (by decide)) (g := (mkF m 53 #[rv a1, rv wa, iv 4, iv 0] [(.int 0), (.long wt0), (.int 3), (.ref b10)])) rfl (by rw [hml]; rfl) (argsL := [(.long wt0), (.int 0)]) (rest := [(.int 3), (.ref b10)]) (lenOf pd_3_p4_1 rfl) rfl (own_wl rfl) (hb hby d3_53) (fun _ _ => ⟨rfl, e30, (by decide : 1 + 0 ≤ _), (by decide : 10 + 0 ≤ _)⟩)
  dsimp only [Pt.U, Pt.locs, Pt.cells, Pt.slots] at X31 l31 y31 z31 st31 hQ31
  subst y31 z31
  obtain ⟨rfl, N31q, e31⟩ := hQ31
  have N31 : Fr n0 L31 := by rw [l31]; exact Fr.app N27 N31q
  refine own_step st31 ?_
  obtain ⟨T32, h32, X32, e32, W32, c32, st32⟩ := own_lastore X31 hx hZ e31 c26 (own_inb (by decide) (Nat.le_of_ble_eq_true rfl)) (g := (mkF m 56 #[rv a1, rv wa, iv 4, iv 0] [(.long (own_pk wt0 (0 : Int32))), (.int 3), (.ref b10)])) rfl rfl (hb hby d3_56)
  have N32 := Fr.snoc X32 N31 ge10
  have c33 : own_Arj Z h32 b10 [0, 0, 0, (own_pk wt0 (0 : Int32)), 0, 0, 0, 0, 0, 0] := c32
  have c34 : Exa Z h32 a1 own_C := c21.wr W32
  have c35 : Fld Z h32 a1 own_C "end" "I" (.int 7) := c22.other W32 (Or.inl ne11)
  have c36 : Fld Z h32 a1 own_C "keys" "[J" (.ref b10) := c20.other W32 (Or.inl ne11)
  have c37 : Fld Z h32 a1 own_C "nodes" "[I" .null := c24.other W32 (Or.inl ne11)
  have c38 : own_Arj Z h32 wa [wt0, wt1, wt2, wt3] := c25.other W32 ne12
  have K32 : Keep h0 h32 [a1] := K19.wr W32 (Or.inr sz10)
  refine own_step st32 ?_
  refine own_step (fun t k => XS.iinc X32.here hx rfl (hb hby d3_57) rfl (l' := #[rv a1, rv wa, iv 4, iv 1]) rfl k) ?_
  refine own_go X32.here hx rfl (pc0 := 60) (pc' := 37) rfl (hb hby d3_60) (by decide) (by decide) ?_
  refine own_il X32.here hx rfl (hb hby d3_37) rfl ?_
  clear K19 N27 N31 N31q W32 X27 X30 X31 c20 c21 c22 c24 c25 c26 c32 e27 e30 e31 hk28 hk29 st30 st31 st32
  show own_G p.tables e below _ (T32.setTop (mkF m 38 #[rv a1, rv wa, iv 4, iv 1] [(.int 1)]))
  refine own_il X32.here hx rfl (hb hby d3_38) rfl ?_
  have hk40 : (1 : Int32) < (4 : Int32) := (by decide)
  refine own_step (fun t k => XS.icmpNo X32.here hx rfl (hb hby d3_39) rfl ((tlt hk40).2.1) k) ?_
  show own_G p.tables e below _ (T32.setTop (mkF m 42 #[rv a1, rv wa, iv 4, iv 1] []))
  refine own_al X32.here hx rfl (hb hby d3_42) rfl rfl ?_
  obtain ⟨T41, X41, e41, st41⟩ := getF X32 hx hZ hown (host := "") (Or.inl (own_w hw 21 rfl)) Via.refl e32 c36 (g := (mkF m 43 #[rv a1, rv wa, iv 4, iv 1] [(.ref a1)])) rfl rfl (hb hby d3_43)
  refine own_step st41 ?_
  refine own_ic X41.here hx rfl (hb hby d3_46) ?_
  refine own_il X41.here hx rfl (hb hby d3_47) rfl ?_
  refine own_step (fun t k => XS.iadd X41.here hx rfl (hb hby d3_48) rfl k) ?_
  refine own_al X41.here hx rfl (hb hby d3_49) rfl rfl ?_
  refine own_il X41.here hx rfl (hb hby d3_50) rfl ?_
  show own_G p.tables e below _ (T41.setTop (mkF m 51 #[rv a1, rv wa, iv 4, iv 1] [(.int 1), (.ref wa), (.int 4), (.ref b10)]))
  refine own_step (own_laload X41 hx hZ e41 c38 (own_inb (by decide) (Nat.le_of_ble_eq_true rfl)) (g := (mkF m 51 #[rv a1, rv wa, iv 4, iv 1] [(.int 1), (.ref wa), (.int 4), (.ref b10)])) rfl rfl (hb hby d3_51)) ?_
  refine own_il X41.here hx rfl (hb hby d3_52) rfl ?_
  obtain ⟨_, _, ⟨T42, L42, k42, n42⟩, -, X42, ⟨Lc42, hQ42, l42, y42, z42⟩, st42⟩ := Jvm.LawKit.callS X41 hx (y := own_y6) hown (mvT hZ (own_w hw 27 rfl)) (mvT hZ (own_w hw 28 rfl)) (mvT hZ (own_w hw 12 rfl)) (mvT hZ (own_w hw 29 rfl)) (by decide) (backOf (W := 2) (rm6 l Z a0 hw [] wt1 (1 : Int32) h32 n0 (Nat.le_trans Z0 K32.1) ) hZ (own_w hw 29 rfl) (own_w hw 12 rfl) (by decide) (by decide)) (g := (mkF m 53 #[rv a1, rv wa, iv 4, iv 1] [(.int 1), (.long wt1), (.int 4), (.ref b10)])) rfl (by rw [hml]; rfl) (argsL := [(.long wt1), (.int 1)]) (rest := [(.int 4), (.ref b10)]) (lenOf pd_3_p4_1 rfl) rfl (own_wl rfl) (hb hby d3_53) (fun _ _ => ⟨rfl, e41, (by decide : 1 + 0 ≤ _), (by decide : 10 + 0 ≤ _)⟩)
  dsimp only [Pt.U, Pt.locs, Pt.cells, Pt.slots] at X42 l42 y42 z42 st42 hQ42
  subst y42 z42
  obtain ⟨rfl, N42q, e42⟩ := hQ42
  have N42 : Fr n0 L42 := by rw [l42]; exact Fr.app N32 N42q
  refine own_step st42 ?_
  obtain ⟨T43, h43, X43, e43, W43, c43, st43⟩ := own_lastore X42 hx hZ e42 c33 (own_inb (by decide) (Nat.le_of_ble_eq_true rfl)) (g := (mkF m 56 #[rv a1, rv wa, iv 4, iv 1] [(.long (own_pk wt1 (1 : Int32))), (.int 4), (.ref b10)])) rfl rfl (hb hby d3_56)
  have N43 := Fr.snoc X43 N42 ge10
  have c44 : own_Arj Z h43 b10 [0, 0, 0, (own_pk wt0 (0 : Int32)), (own_pk wt1 (1 : Int32)), 0, 0, 0, 0, 0] := c43
  have c45 : Exa Z h43 a1 own_C := c34.wr W43
  have c46 : Fld Z h43 a1 own_C "end" "I" (.int 7) := c35.other W43 (Or.inl ne11)
  have c47 : Fld Z h43 a1 own_C "keys" "[J" (.ref b10) := c36.other W43 (Or.inl ne11)
  have c48 : Fld Z h43 a1 own_C "nodes" "[I" .null := c37.other W43 (Or.inl ne11)
  have c49 : own_Arj Z h43 wa [wt0, wt1, wt2, wt3] := c38.other W43 ne12
  have K43 : Keep h0 h43 [a1] := K32.wr W43 (Or.inr sz10)
  refine own_step st43 ?_
  refine own_step (fun t k => XS.iinc X43.here hx rfl (hb hby d3_57) rfl (l' := #[rv a1, rv wa, iv 4, iv 2]) rfl k) ?_
  refine own_go X43.here hx rfl (pc0 := 60) (pc' := 37) rfl (hb hby d3_60) (by decide) (by decide) ?_
  refine own_il X43.here hx rfl (hb hby d3_37) rfl ?_
  clear K32 N32 N42 N42q W43 X32 X41 X42 c33 c34 c35 c36 c37 c38 c43 e32 e41 e42 hk40 st41 st42 st43
  show own_G p.tables e below _ (T43.setTop (mkF m 38 #[rv a1, rv wa, iv 4, iv 2] [(.int 2)]))
  refine own_il X43.here hx rfl (hb hby d3_38) rfl ?_
  have hk51 : (2 : Int32) < (4 : Int32) := (by decide)
  refine own_step (fun t k => XS.icmpNo X43.here hx rfl (hb hby d3_39) rfl ((tlt hk51).2.1) k) ?_
  show own_G p.tables e below _ (T43.setTop (mkF m 42 #[rv a1, rv wa, iv 4, iv 2] []))
  refine own_al X43.here hx rfl (hb hby d3_42) rfl rfl ?_
  obtain ⟨T52, X52, e52, st52⟩ := getF X43 hx hZ hown (host := "") (Or.inl (own_w hw 21 rfl)) Via.refl e43 c47 (g := (mkF m 43 #[rv a1, rv wa, iv 4, iv 2] [(.ref a1)])) rfl rfl (hb hby d3_43)
  refine own_step st52 ?_
  refine own_ic X52.here hx rfl (hb hby d3_46) ?_
  refine own_il X52.here hx rfl (hb hby d3_47) rfl ?_
  refine own_step (fun t k => XS.iadd X52.here hx rfl (hb hby d3_48) rfl k) ?_
  refine own_al X52.here hx rfl (hb hby d3_49) rfl rfl ?_
  refine own_il X52.here hx rfl (hb hby d3_50) rfl ?_
  show own_G p.tables e below _ (T52.setTop (mkF m 51 #[rv a1, rv wa, iv 4, iv 2] [(.int 2), (.ref wa), (.int 5), (.ref b10)]))
  refine own_step (own_laload X52 hx hZ e52 c49 (own_inb (by decide) (Nat.le_of_ble_eq_true rfl)) (g := (mkF m 51 #[rv a1, rv wa, iv 4, iv 2] [(.int 2), (.ref wa), (.int 5), (.ref b10)])) rfl rfl (hb hby d3_51)) ?_
  refine own_il X52.here hx rfl (hb hby d3_52) rfl ?_
  obtain ⟨_, _, ⟨T53, L53, k53, n53⟩, -, X53, ⟨Lc53, hQ53, l53, y53, z53⟩, st53⟩ := Jvm.LawKit.callS X52 hx (y := own_y6) hown (mvT hZ (own_w hw 27 rfl)) (mvT hZ (own_w hw 28 rfl)) (mvT hZ (own_w hw 12 rfl)) (mvT hZ (own_w hw 29 rfl)) (by decide) (backOf (W := 2) (rm6 l Z a0 hw [] wt2 (2 : Int32) h43 n0 (Nat.le_trans Z0 K43.1) ) hZ (own_w hw 29 rfl) (own_w hw 12 rfl) (by decide) (by decide)) (g := (mkF m 53 #[rv a1, rv wa, iv 4, iv 2] [(.int 2), (.long wt2), (.int 5), (.ref b10)])) rfl (by rw [hml]; rfl) (argsL := [(.long wt2), (.int 2)]) (rest := [(.int 5), (.ref b10)]) (lenOf pd_3_p4_1 rfl) rfl (own_wl rfl) (hb hby d3_53) (fun _ _ => ⟨rfl, e52, (by decide : 1 + 0 ≤ _), (by decide : 10 + 0 ≤ _)⟩)
  dsimp only [Pt.U, Pt.locs, Pt.cells, Pt.slots] at X53 l53 y53 z53 st53 hQ53
  subst y53 z53
  obtain ⟨rfl, N53q, e53⟩ := hQ53
  have N53 : Fr n0 L53 := by rw [l53]; exact Fr.app N43 N53q
  refine own_step st53 ?_
  obtain ⟨T54, h54, X54, e54, W54, c54, st54⟩ := own_lastore X53 hx hZ e53 c44 (own_inb (by decide) (Nat.le_of_ble_eq_true rfl)) (g := (mkF m 56 #[rv a1, rv wa, iv 4, iv 2] [(.long (own_pk wt2 (2 : Int32))), (.int 5), (.ref b10)])) rfl rfl (hb hby d3_56)
  have N54 := Fr.snoc X54 N53 ge10
  have c55 : own_Arj Z h54 b10 [0, 0, 0, (own_pk wt0 (0 : Int32)), (own_pk wt1 (1 : Int32)), (own_pk wt2 (2 : Int32)), 0, 0, 0, 0] := c54
  have c56 : Exa Z h54 a1 own_C := c45.wr W54
  have c57 : Fld Z h54 a1 own_C "end" "I" (.int 7) := c46.other W54 (Or.inl ne11)
  have c58 : Fld Z h54 a1 own_C "keys" "[J" (.ref b10) := c47.other W54 (Or.inl ne11)
  have c59 : Fld Z h54 a1 own_C "nodes" "[I" .null := c48.other W54 (Or.inl ne11)
  have c60 : own_Arj Z h54 wa [wt0, wt1, wt2, wt3] := c49.other W54 ne12
  have K54 : Keep h0 h54 [a1] := K43.wr W54 (Or.inr sz10)
  refine own_step st54 ?_
  refine own_step (fun t k => XS.iinc X54.here hx rfl (hb hby d3_57) rfl (l' := #[rv a1, rv wa, iv 4, iv 3]) rfl k) ?_
  refine own_go X54.here hx rfl (pc0 := 60) (pc' := 37) rfl (hb hby d3_60) (by decide) (by decide) ?_
  refine own_il X54.here hx rfl (hb hby d3_37) rfl ?_
  clear K43 N43 N53 N53q W54 X43 X52 X53 c44 c45 c46 c47 c48 c49 c54 e43 e52 e53 hk51 st52 st53 st54
  show own_G p.tables e below _ (T54.setTop (mkF m 38 #[rv a1, rv wa, iv 4, iv 3] [(.int 3)]))
  refine own_il X54.here hx rfl (hb hby d3_38) rfl ?_
  have hk62 : (3 : Int32) < (4 : Int32) := (by decide)
  refine own_step (fun t k => XS.icmpNo X54.here hx rfl (hb hby d3_39) rfl ((tlt hk62).2.1) k) ?_
  show own_G p.tables e below _ (T54.setTop (mkF m 42 #[rv a1, rv wa, iv 4, iv 3] []))
  refine own_al X54.here hx rfl (hb hby d3_42) rfl rfl ?_
  obtain ⟨T63, X63, e63, st63⟩ := getF X54 hx hZ hown (host := "") (Or.inl (own_w hw 21 rfl)) Via.refl e54 c58 (g := (mkF m 43 #[rv a1, rv wa, iv 4, iv 3] [(.ref a1)])) rfl rfl (hb hby d3_43)
  refine own_step st63 ?_
  refine own_ic X63.here hx rfl (hb hby d3_46) ?_
  refine own_il X63.here hx rfl (hb hby d3_47) rfl ?_
  refine own_step (fun t k => XS.iadd X63.here hx rfl (hb hby d3_48) rfl k) ?_
  refine own_al X63.here hx rfl (hb hby d3_49) rfl rfl ?_
  refine own_il X63.here hx rfl (hb hby d3_50) rfl ?_
  show own_G p.tables e below _ (T63.setTop (mkF m 51 #[rv a1, rv wa, iv 4, iv 3] [(.int 3), (.ref wa), (.int 6), (.ref b10)]))
  refine own_step (own_laload X63 hx hZ e63 c60 (own_inb (by decide) (Nat.le_of_ble_eq_true rfl)) (g := (mkF m 51 #[rv a1, rv wa, iv 4, iv 3] [(.int 3), (.ref wa), (.int 6), (.ref b10)])) rfl rfl (hb hby d3_51)) ?_
  refine own_il X63.here hx rfl (hb hby d3_52) rfl ?_
  obtain ⟨_, _, ⟨T64, L64, k64, n64⟩, -, X64, ⟨Lc64, hQ64, l64, y64, z64⟩, st64⟩ := Jvm.LawKit.callS X63 hx (y := own_y6) hown (mvT hZ (own_w hw 27 rfl)) (mvT hZ (own_w hw 28 rfl)) (mvT hZ (own_w hw 12 rfl)) (mvT hZ (own_w hw 29 rfl)) (by decide) (backOf (W := 2) (rm6 l Z a0 hw [] wt3 (3 : Int32) h54 n0 (Nat.le_trans Z0 K54.1) ) hZ (own_w hw 29 rfl) (own_w hw 12 rfl) (by decide) (by decide)) (g := (mkF m 53 #[rv a1, rv wa, iv 4, iv 3] [(.int 3), (.long wt3), (.int 6), (.ref b10)])) rfl (by rw [hml]; rfl) (argsL := [(.long wt3), (.int 3)]) (rest := [(.int 6), (.ref b10)]) (lenOf pd_3_p4_1 rfl) rfl (own_wl rfl) (hb hby d3_53) (fun _ _ => ⟨rfl, e63, (by decide : 1 + 0 ≤ _), (by decide : 10 + 0 ≤ _)⟩)
  dsimp only [Pt.U, Pt.locs, Pt.cells, Pt.slots] at X64 l64 y64 z64 st64 hQ64
  subst y64 z64
  obtain ⟨rfl, N64q, e64⟩ := hQ64
  have N64 : Fr n0 L64 := by rw [l64]; exact Fr.app N54 N64q
  refine own_step st64 ?_
  obtain ⟨T65, h65, X65, e65, W65, c65, st65⟩ := own_lastore X64 hx hZ e64 c55 (own_inb (by decide) (Nat.le_of_ble_eq_true rfl)) (g := (mkF m 56 #[rv a1, rv wa, iv 4, iv 3] [(.long (own_pk wt3 (3 : Int32))), (.int 6), (.ref b10)])) rfl rfl (hb hby d3_56)
  have N65 := Fr.snoc X65 N64 ge10
  have c66 : own_Arj Z h65 b10 [0, 0, 0, (own_pk wt0 (0 : Int32)), (own_pk wt1 (1 : Int32)), (own_pk wt2 (2 : Int32)), (own_pk wt3 (3 : Int32)), 0, 0, 0] := c65
  have c67 : Exa Z h65 a1 own_C := c56.wr W65
  have c68 : Fld Z h65 a1 own_C "end" "I" (.int 7) := c57.other W65 (Or.inl ne11)
  have c69 : Fld Z h65 a1 own_C "keys" "[J" (.ref b10) := c58.other W65 (Or.inl ne11)
  have c70 : Fld Z h65 a1 own_C "nodes" "[I" .null := c59.other W65 (Or.inl ne11)
  have c71 : own_Arj Z h65 wa [wt0, wt1, wt2, wt3] := c60.other W65 ne12
  have K65 : Keep h0 h65 [a1] := K54.wr W65 (Or.inr sz10)
  refine own_step st65 ?_
  refine own_step (fun t k => XS.iinc X65.here hx rfl (hb hby d3_57) rfl (l' := #[rv a1, rv wa, iv 4, iv 4]) rfl k) ?_
  refine own_go X65.here hx rfl (pc0 := 60) (pc' := 37) rfl (hb hby d3_60) (by decide) (by decide) ?_
  refine own_il X65.here hx rfl (hb hby d3_37) rfl ?_
  clear K54 N54 N64 N64q W65 X54 X63 X64 c55 c56 c57 c58 c59 c60 c65 e54 e63 e64 hk62 st63 st64 st65
  show own_G p.tables e below _ (T65.setTop (mkF m 38 #[rv a1, rv wa, iv 4, iv 4] [(.int 4)]))
  refine own_il X65.here hx rfl (hb hby d3_38) rfl ?_
  have hk73 : ¬ ((4 : Int32) < (4 : Int32)) := (by decide)
  refine own_step (fun t k => XS.icmpYes X65.here hx rfl (pc0 := 39) (pc' := 63) rfl (hb hby d3_39) rfl ((flt hk73).2.1) (by decide) (by decide) k) ?_
  show own_G p.tables e below _ (T65.setTop (mkF m 63 #[rv a1, rv wa, iv 4, iv 4] []))
  refine own_al X65.here hx rfl (hb hby d3_63) rfl rfl ?_
  obtain ⟨T74, X74, e74, st74⟩ := getF X65 hx hZ hown (host := "") (Or.inl (own_w hw 21 rfl)) Via.refl e65 c69 (g := (mkF m 64 #[rv a1, rv wa, iv 4, iv 4] [(.ref a1)])) rfl rfl (hb hby d3_64)
  refine own_step st74 ?_
  refine own_al X74.here hx rfl (hb hby d3_67) rfl rfl ?_
  obtain ⟨T75, X75, e75, st75⟩ := getF X74 hx hZ hown (host := "") (Or.inl (own_w hw 19 rfl)) Via.refl e74 c68 (g := (mkF m 68 #[rv a1, rv wa, iv 4, iv 4] [(.ref a1), (.ref b10)])) rfl rfl (hb hby d3_68)
  refine own_step st75 ?_
  refine own_al X75.here hx rfl (hb hby d3_71) rfl rfl ?_
  obtain ⟨T76, X76, e76, st76⟩ := getF X75 hx hZ hown (host := "") (Or.inl (own_w hw 21 rfl)) Via.refl e75 c69 (g := (mkF m 72 #[rv a1, rv wa, iv 4, iv 4] [(.ref a1), (.int 7), (.ref b10)])) rfl rfl (hb hby d3_72)
  refine own_step st76 ?_
  refine own_step (own_lenJ X76 hx hZ e76 c66 (g := (mkF m 75 #[rv a1, rv wa, iv 4, iv 4] [(.ref b10), (.int 7), (.ref b10)])) rfl rfl (hb hby d3_75)) ?_
  clear X65 X74 X75 e65 e74 e75 hk73 st74 st75 st76
  show own_G p.tables e below _ (T76.setTop (mkF m 76 #[rv a1, rv wa, iv 4, iv 4] [(.int 10), (.int 7), (.ref b10)]))
  refine own_step (X76.ldc2Long hx hown (mvT hZ (own_w hw 30 rfl)) (g := (mkF m 76 #[rv a1, rv wa, iv 4, iv 4] [(.int 10), (.int 7), (.ref b10)])) rfl (hb hby d3_76)) ?_
  obtain ⟨_, _, ⟨T77, L77, k77, n77⟩, -, X77, ⟨Lc77, hQ77, l77, y77, z77⟩, st77⟩ := Jvm.LawKit.callS X76 hx (y := own_y7) hown (mvT hZ (own_w hw 31 rfl)) (mvT hZ (own_w hw 32 rfl)) (mvT hZ (own_w hw 33 rfl)) (mvT hZ (own_w hw 34 rfl)) (by decide) (backOf (W := 0) (rm7_n4 l Z a0 hw [] b10 (9223372036854775807 : Int64) (0 : Int64) (0 : Int64) (0 : Int64) (own_pk wt0 (0 : Int32)) (own_pk wt1 (1 : Int32)) (own_pk wt2 (2 : Int32)) (own_pk wt3 (3 : Int32)) (0 : Int64) (0 : Int64) (0 : Int64) h65 n0 (Nat.le_trans Z0 K65.1) c66 ge10) hZ (own_w hw 34 rfl) (own_w hw 33 rfl) (by decide) (by decide)) (g := (mkF m 79 #[rv a1, rv wa, iv 4, iv 4] [(.long 9223372036854775807), (.int 10), (.int 7), (.ref b10)])) rfl (by rw [hml]; rfl) (argsL := [(.ref b10), (.int 7), (.int 10), (.long 9223372036854775807)]) (rest := []) (lenOf pd_3_p4_2 rfl) rfl (own_wl rfl) (hb hby d3_79) (fun _ _ => ⟨rfl, e76, (by decide : 1 + 0 ≤ _), (by decide : 10 + 0 ≤ _)⟩)
  dsimp only [Pt.U, Pt.locs, Pt.cells, Pt.slots] at X77 l77 y77 z77 st77 hQ77
  subst y77 z77
  obtain ⟨rfl, N77q, K77q, w77_0⟩ := hQ77
  have c78 : Exa Z T77.heap a1 own_C := c67.keep K77q
  have c79 : Fld Z T77.heap a1 own_C "end" "I" (.int 7) := c68.keep K77q (ninS ne11 nin0)
  have c80 : Fld Z T77.heap a1 own_C "keys" "[J" (.ref b10) := c69.keep K77q (ninS ne11 nin0)
  have c81 : Fld Z T77.heap a1 own_C "nodes" "[I" .null := c70.keep K77q (ninS ne11 nin0)
  have c82 : own_Arj Z T77.heap wa [wt0, wt1, wt2, wt3] := c71.keep K77q (ninS ne12 nin0)
  have K77 : Keep h0 T77.heap [a1] := K65.trans K77q (allS (Or.inr sz10) all0)
  have N77 : Fr n0 L77 := by rw [l77]; exact Fr.app N65 N77q
  refine own_step st77 ?_
  refine own_go X77.here hx rfl (pc0 := 82) (pc' := 129) rfl (hb hby d3_82) (by decide) (by decide) ?_
  refine own_al X77.here hx rfl (hb hby d3_129) rfl rfl ?_
  obtain ⟨T84, X84, e84, st84⟩ := getF X77 hx hZ hown (host := "") (Or.inl (own_w hw 19 rfl)) Via.refl rfl c79 (g := (mkF m 130 #[rv a1, rv wa, iv 4, iv 4] [(.ref a1)])) rfl rfl (hb hby d3_130)
  refine own_step st84 ?_
  refine own_ic X84.here hx rfl (hb hby d3_133) ?_
  refine own_step (fun t k => XS.isub X84.here hx rfl (hb hby d3_134) rfl k) ?_
  clear K65 K77q N65 N77q X76 X77 c66 c67 c68 c69 c70 c71 e76 st77 st84
  show own_G p.tables e below _ (T84.setTop (mkF m 135 #[rv a1, rv wa, iv 4, iv 4] [(.int 6)]))
  obtain ⟨_, _, ⟨T85, L85, k85, n85⟩, -, X85, ⟨Lc85, hQ85, l85, y85, z85⟩, st85⟩ := Jvm.LawKit.callS X84 hx (y := own_y9) hown (mvT hZ (own_w hw 38 rfl)) (mvT hZ (own_w hw 39 rfl)) (mvT hZ (own_w hw 12 rfl)) (mvT hZ (own_w hw 40 rfl)) (by decide) (backOf (W := 0) (rm9 l Z a0 hw [] (6 : Int32) T77.heap n0 (Nat.le_trans Z0 K77.1) ) hZ (own_w hw 40 rfl) (own_w hw 12 rfl) (by decide) (by decide)) (g := (mkF m 135 #[rv a1, rv wa, iv 4, iv 4] [(.int 6)])) rfl (by rw [hml]; rfl) (argsL := [(.int 6)]) (rest := []) (lenOf pd_3_p4_3 rfl) rfl (own_wl rfl) (hb hby d3_135) (fun _ _ => ⟨rfl, e84, (by decide : 1 + 0 ≤ _), (by decide : 10 + 0 ≤ _)⟩)
  dsimp only [Pt.U, Pt.locs, Pt.cells, Pt.slots] at X85 l85 y85 z85 st85 hQ85
  subst y85 z85
  obtain ⟨rfl, N85q, e85⟩ := hQ85
  have N85 : Fr n0 L85 := by rw [l85]; exact Fr.app N77 N85q
  refine own_step st85 ?_
  show own_G p.tables e below _ (T85.setTop (mkF m 138 #[rv a1, rv wa, iv 4, iv 4] [(.int 3)]))
  refine own_step (fun t k => XS.istoreN X85.here hx rfl (hb hby d3_138) rfl (l' := #[rv a1, rv wa, iv 4, iv 3]) rfl k) ?_
  refine own_il X85.here hx rfl (hb hby d3_139) rfl ?_
  refine own_ic X85.here hx rfl (hb hby d3_140) ?_
  have hk86 : ¬ ((3 : Int32) < (3 : Int32)) := (by decide)
  refine own_step (fun t k => XS.icmpNo X85.here hx rfl (hb hby d3_141) rfl ((flt hk86).1) k) ?_
  show own_G p.tables e below _ (T85.setTop (mkF m 144 #[rv a1, rv wa, iv 4, iv 3] []))
  refine own_al X85.here hx rfl (hb hby d3_144) rfl rfl ?_
  refine own_il X85.here hx rfl (hb hby d3_145) rfl ?_
  refine own_ic X85.here hx rfl (hb hby d3_146) ?_
  obtain ⟨cq87, q87, q87'⟩ := c78.cell
  obtain ⟨_, _, ⟨T87, L87, k87, n87⟩, -, X87, ⟨Lc87, hQ87, l87, y87, z87⟩, st87⟩ := X85.privateBack hx (y := own_y10) hown (mvT hZ (own_w hw 41 rfl)) (mvT hZ (own_w hw 42 rfl)) (mvT hZ (own_sp10 hw)) (Cond.privateMethod_at (mvP hZ (own_w hw 43 rfl) (args := #[]))) (mvT hZ (own_w hw 44 rfl)) (by decide) (backOf (W := 0) (rm10_p l Z a0 hw [] a1 (3 : Int32) (0 : Int32) b10 [(0 : Int64), (0 : Int64), (0 : Int64), (own_pk wt0 (0 : Int32)), (own_pk wt1 (1 : Int32)), (own_pk wt2 (2 : Int32)), (own_pk wt3 (3 : Int32)), (9223372036854775807 : Int64), (9223372036854775807 : Int64), (9223372036854775807 : Int64)] T77.heap n0 (Nat.le_trans Z0 K77.1) c80 c81 w77_0 ((own_inb (by decide) (Nat.le_of_ble_eq_true rfl)) : own_Inb (3 : Int32) [(0 : Int64), (0 : Int64), (0 : Int64), (own_pk wt0 (0 : Int32)), (own_pk wt1 (1 : Int32)), (own_pk wt2 (2 : Int32)), (own_pk wt3 (3 : Int32)), (9223372036854775807 : Int64), (9223372036854775807 : Int64), (9223372036854775807 : Int64)].length) ((own_inb (by decide) (Nat.le_of_ble_eq_true rfl)) : own_Inb (0 : Int32) [(0 : Int64), (0 : Int64), (0 : Int64), (own_pk wt0 (0 : Int32)), (own_pk wt1 (1 : Int32)), (own_pk wt2 (2 : Int32)), (own_pk wt3 (3 : Int32)), (9223372036854775807 : Int64), (9223372036854775807 : Int64), (9223372036854775807 : Int64)].length) ge10 ne11) hZ (own_w hw 44 rfl) (own_w hw 12 rfl) (by decide) (by decide)) (g := (mkF m 147 #[rv a1, rv wa, iv 4, iv 3] [(.int 0), (.int 3), (.ref a1)])) rfl (by rw [hml]; rfl) (Steps.refl _) (a := a1) (by rw [e85]; exact q87) q87' (argsL := [(.int 3), (.int 0)]) (rest := []) (lenOf pd_3_p4_4 rfl) rfl (own_wl rfl) (hb hby d3_147) (fun _ _ => ⟨rfl, e85, (by decide : 1 + 0 ≤ _), (by decide : 10 + 0 ≤ _)⟩)
  dsimp only [Pt.U, Pt.locs, Pt.cells, Pt.slots] at X87 l87 y87 z87 st87 hQ87
  subst y87 z87
  obtain ⟨rfl, N87q, K87q, w87_0⟩ := hQ87
  have c88 : Exa Z T87.heap a1 own_C := c78.keep K87q
  have c89 : Fld Z T87.heap a1 own_C "end" "I" (.int 7) := c79.keep K87q (ninS ne11 nin0)
  have c90 : Fld Z T87.heap a1 own_C "keys" "[J" (.ref b10) := c80.keep K87q (ninS ne11 nin0)
  have c91 : Fld Z T87.heap a1 own_C "nodes" "[I" .null := c81.keep K87q (ninS ne11 nin0)
  have c92 : own_Arj Z T87.heap wa [wt0, wt1, wt2, wt3] := c82.keep K87q (ninS ne12 nin0)
  have K87 : Keep h0 T87.heap [a1] := K77.trans K87q (allS (Or.inr sz10) all0)
  have c94 : own_Arj Z T87.heap b10 [(own_pk wt0 (0 : Int32)), 0, 0, (own_pk wt0 (0 : Int32)), (own_pk wt1 (1 : Int32)), (own_pk wt2 (2 : Int32)), (own_pk wt3 (3 : Int32)), 9223372036854775807, 9223372036854775807, 9223372036854775807] := w87_0
  have N87 : Fr n0 L87 := by rw [l87]; exact Fr.app N85 N87q
  refine own_step (fun t k => st87.trans k) ?_
  refine own_al X87.here hx rfl (hb hby d3_150) rfl rfl ?_
  refine own_il X87.here hx rfl (hb hby d3_151) rfl ?_
  obtain ⟨cq95, q95, q95'⟩ := c88.cell
  obtain ⟨_, _, ⟨T95, L95, k95, n95⟩, -, X95, ⟨Lc95, hQ95, l95, y95, z95⟩, st95⟩ := X87.privateBack hx (y := own_y11) hown (mvT hZ (own_w hw 47 rfl)) (mvT hZ (own_w hw 48 rfl)) (mvT hZ (own_sp11 hw)) (Cond.privateMethod_at (mvP hZ (own_w hw 49 rfl) (args := #[]))) (mvT hZ (own_w hw 50 rfl)) (by decide) (backOf (W := 0) (rm11_p l Z a0 hw [] a1 b10 (7 : Int32) [(own_pk wt0 (0 : Int32)), (0 : Int64), (0 : Int64), (own_pk wt0 (0 : Int32)), (own_pk wt1 (1 : Int32)), (own_pk wt2 (2 : Int32)), (own_pk wt3 (3 : Int32)), (9223372036854775807 : Int64), (9223372036854775807 : Int64), (9223372036854775807 : Int64)] T87.heap n0 (Nat.le_trans Z0 K87.1) c88 c90 c89 c91 c94 ((by decide) : (4 : Int32) < (7 : Int32)) ((by decide) : ¬ (8 : Int32) < (7 : Int32)) ((Nat.le_of_ble_eq_true rfl) : 8 ≤ [(own_pk wt0 (0 : Int32)), (0 : Int64), (0 : Int64), (own_pk wt0 (0 : Int32)), (own_pk wt1 (1 : Int32)), (own_pk wt2 (2 : Int32)), (own_pk wt3 (3 : Int32)), (9223372036854775807 : Int64), (9223372036854775807 : Int64), (9223372036854775807 : Int64)].length) ge10 ne11) hZ (own_w hw 50 rfl) (own_w hw 12 rfl) (by decide) (by decide)) (g := (mkF m 152 #[rv a1, rv wa, iv 4, iv 3] [(.int 3), (.ref a1)])) rfl (by rw [hml]; rfl) (Steps.refl _) (a := a1) q95 q95' (argsL := [(.int 3)]) (rest := []) (lenOf pd_3_p4_5 rfl) rfl (own_wl rfl) (hb hby d3_152) (fun _ _ => ⟨rfl, rfl, (by decide : 1 + 0 ≤ _), (by decide : 10 + 0 ≤ _)⟩)
  dsimp only [Pt.U, Pt.locs, Pt.cells, Pt.slots] at X95 l95 y95 z95 st95 hQ95
  subst y95 z95
  obtain ⟨bx95_L_ky, rfl, N95q, K95q, w95_0, pr95_0⟩ := hQ95
  have c96 : Exa Z T95.heap a1 own_C := c88.keep K95q
  have c97 : Fld Z T95.heap a1 own_C "end" "I" (.int 7) := c89.keep K95q (ninS ne11 nin0)
  have c98 : Fld Z T95.heap a1 own_C "keys" "[J" (.ref b10) := c90.keep K95q (ninS ne11 nin0)
  have c99 : Fld Z T95.heap a1 own_C "nodes" "[I" .null := c91.keep K95q (ninS ne11 nin0)
  have c100 : own_Arj Z T95.heap wa [wt0, wt1, wt2, wt3] := c92.keep K95q (ninS ne12 nin0)
  have K95 : Keep h0 T95.heap [a1] := K87.trans K95q (allS (Or.inr sz10) all0)
  have N95 : Fr n0 L95 := by rw [l95]; exact Fr.app N87 N95q
  refine own_step (fun t k => st95.trans k) ?_
  clear K77 K87 K87q K95q N77 N85 N85q N87 N87q N95q X84 X85 X87 c78 c79 c80 c81 c82 c88 c89 c90 c91 c92 c94 e84 e85 hk86 q87 q87' q95 q95' st85 st87 st95 w77_0 w87_0
  show own_G p.tables e below _ (T95.setTop (mkF m 155 #[rv a1, rv wa, iv 4, iv 3] []))
  refine own_step (fun t k => XS.iinc X95.here hx rfl (hb hby d3_155) rfl (l' := #[rv a1, rv wa, iv 4, iv 2]) rfl k) ?_
  refine own_go X95.here hx rfl (pc0 := 158) (pc' := 139) rfl (hb hby d3_158) (by decide) (by decide) ?_
  refine own_il X95.here hx rfl (hb hby d3_139) rfl ?_
  refine own_ic X95.here hx rfl (hb hby d3_140) ?_
  have hk102 : (2 : Int32) < (3 : Int32) := (by decide)
  refine own_step (fun t k => XS.icmpYes X95.here hx rfl (pc0 := 141) (pc' := 161) rfl (hb hby d3_141) rfl ((tlt hk102).1) (by decide) (by decide) k) ?_
  show own_G p.tables e below _ (T95.setTop (mkF m 161 #[rv a1, rv wa, iv 4, iv 2] []))
  obtain ⟨fs, hr, hrun, hended, hW, hsame⟩ := X95.leave (v := none) (fun _ => rfl)
  refine own_done (X95.returnOut hx Bd.returns (hb hby d3_161) hr) hrun hended ⟨_, _, rfl, ?_, ⟨_, rfl⟩, hW, hsame.mono (by decide) (by decide)⟩
  show Q3_p4 Z a1 wa wt0 wt1 wt2 wt3 h0 n0 _ T95.heap _
  exact ⟨b10, _, rfl, N95, K95, c97, c98, c99, w95_0, sz10, (by have hbq := own_f5b_n4 hpk; obtain ⟨hbq0, hbq1, hbq2, hbq3⟩ := hbq; exact ⟨pr95_0.1, (own_P (own_R_pk (i := 0) hnn0 hbq0 (by decide) (by decide)) (own_R_pk (i := 1) hnn1 hbq1 (by decide) (by decide)) (own_R_pk (i := 2) hnn2 hbq2 (by decide) (by decide)) (own_R_pk (i := 3) hnn3 hbq3 (by decide) (by decide)) own_R_max pr95_0.2).trans (by omega)⟩)⟩
theorem pn_3_u4 : plainName "com/example/leafcode/leafcode/FourWayHeap" = true := by first | (simp [plainName, overriddenIn]; done) | decide +kernel
theorem pd_3_u4_0 : parseMethodDescriptor "([J)Z" = some ⟨[(.array .long)], some .boolean⟩ := by decide +kernel
theorem pd_3_u4_1 : parseMethodDescriptor "(I)I" = some ⟨[.int], some .int⟩ := by decide +kernel
theorem pd_3_u4_2 : parseMethodDescriptor "(II)V" = some ⟨[.int, .int], none⟩ := by decide +kernel
theorem pd_3_u4_3 : parseMethodDescriptor "(I)V" = some ⟨[.int], none⟩ := by decide +kernel
theorem ef_3_u4 (m : MethodId) (a1 : Addr) (wa : Addr) : entryFrame m #[(.ref a1), (.ref wa)] 4 = mkF m 0 #[rv a1, rv wa, .unset, .unset] [] := by first | (simp [entryFrame, mkF, argsToLocals, Value.category]; done) | rfl
def Q3_u4 (Z : State) (a1 : Addr) (wa : Addr) (wt0 : Int64) (wt1 : Int64) (wt2 : Int64) (wt3 : Int64) (h0 : Heap) (n0 : Nat) (v : Option Value) (h : Heap) (L : List Loc) : Prop := ∃ (x1 : Addr) (x2 : Addr) (L_x1 : List Int64) (L_x2 : List Int32), v = none ∧ Fr n0 L ∧ Keep h0 h [a1] ∧ Fld Z h a1 own_C "end" "I" (.int 7) ∧ Fld Z h a1 own_C "keys" "[J" (.ref x1) ∧ Fld Z h a1 own_C "nodes" "[I" (.ref x2) ∧ own_Arj Z h x1 L_x1 ∧ own_Ari Z h x2 .int L_x2 ∧ h0.size ≤ x1 ∧ h0.size ≤ x2 ∧ x1 ≠ x2 ∧ (L_x1.length = 10 ∧ (L_x1.getD 3 0).toInt = (min (min (min wt0.toInt wt1.toInt) wt2.toInt) wt3.toInt)) ∧ (True)
set_option maxRecDepth 65536 in
set_option maxHeartbeats 40000000 in
theorem rm3_u4 (l : Launch) (Z : State) (a0 : Array Value) (hw : ∀ d ∈ tables_1, d.before a0 Z = true) (ws : List Jvm.Cond) (a1 : Addr) (wa : Addr) (wt0 : Int64) (wt1 : Int64) (wt2 : Int64) (wt3 : Int64) (h0 : Heap) (n0 : Nat) (Z0 : n0 ≤ h0.size) (fp0 : Exa Z h0 a1 own_C) (fp1 : Fld Z h0 a1 own_C "end" "I" (.int 0)) (fp2 : Fld Z h0 a1 own_C "keys" "[J" .null) (fp3 : Fld Z h0 a1 own_C "nodes" "[I" .null) (fp4 : own_Arj Z h0 wa [wt0, wt1, wt2, wt3]) (hpk : own_f5_n4 wt0 wt1 wt2 wt3 = 0) (g_a1 : n0 ≤ a1) (ne_wa_a1 : wa ≠ a1) :
    MetFree l (⟨"com/example/leafcode/leafcode/FourWayHeap", "<init>", "([J)V"⟩ : MethodName) (head1 (Jvm.Cond.code (⟨"com/example/leafcode/leafcode/FourWayHeap", "<init>", "([J)V"⟩ : MethodName) prog_20_method_1_code 4 none :: ws) ({ frames := 4, cells := 2, slots := 20, locals := 83 } : Room)) (fun a U => a = #[(.ref a1), (.ref wa)] ∧ Z.Warmed39 U.vm ∧ U.heap = h0) (fun _ _ _ _ _ => True) (fun _ U o U' => ∃ v L, o = .returned v ∧ Q3_u4 Z a1 wa wt0 wt1 wt2 wt3 h0 n0 v U'.heap L ∧ FrameEnd U o U' L ({ frames := 4, cells := 2, slots := 20, locals := 83 } : Room).cells ({ frames := 4, cells := 2, slots := 20, locals := 83 } : Room).slots) := by
  refine MetFree.of_bodySF (plainFor_of_name pn_3_u4) hisR ?_
  intro p e s m args below meth c s₁ Bd hml0 hP hK
  obtain ⟨rfl, hZ, hh⟩ := hP
  have hx := Bd.exec
  have hby := Bd.bytes
  have hml : c.maxLocals = 4 := hml0
  have hown : s.vm.findClass "com/example/leafcode/leafcode/FourWayHeap" = some m.cls := findClass_of_methodNamed Bd.named
  have hnm := (name_of_methodNamed Bd.named Bd.method).1
  have X0 : Stand p l e ({ frames := 4, cells := 2, slots := 20, locals := 83 } : Room) s m #[(.ref a1), (.ref wa)] below meth c s₁ [] 0 0 := Stand.of_body Bd
  have e0 : s₁.heap = h0 := by rw [← hh, Bd.state]; rfl
  have N0 := Fr.nil n0
  refine own_start (fun t k => castTop (ef_3_u4 m a1 wa) k) ?_
  show own_G p.tables e below _ (s₁.setTop (mkF m 0 #[rv a1, rv wa, .unset, .unset] []))
  refine own_al X0.here hx rfl (hb hby d3_0) rfl rfl ?_
  obtain ⟨T1, X1, e1, st1⟩ := initO X0 hx hZ hown (own_w hw 16 rfl) (own_w hw 17 rfl) (own_w hw 18 rfl) e0 (g := (mkF m 1 #[rv a1, rv wa, .unset, .unset] [(.ref a1)])) rfl (by rw [hml]; rfl) rfl (hb hby d3_1) (by decide) (W := 0) (by show 2 * 0 + _ ≤ _; exact Nat.le_of_eq rfl) (by decide)
  refine own_step st1 ?_
  refine own_al X1.here hx rfl (hb hby d3_4) rfl rfl ?_
  refine own_step (own_lenJ X1 hx hZ e1 fp4 (g := (mkF m 5 #[rv a1, rv wa, .unset, .unset] [(.ref wa)])) rfl rfl (hb hby d3_5)) ?_
  refine own_step (fun t k => XS.istoreN X1.here hx rfl (hb hby d3_6) rfl (l' := #[rv a1, rv wa, iv 4, .unset]) rfl k) ?_
  refine own_al X1.here hx rfl (hb hby d3_7) rfl rfl ?_
  refine own_ic X1.here hx rfl (hb hby d3_8) ?_
  show own_G p.tables e below _ (T1.setTop (mkF m 9 #[rv a1, rv wa, iv 4, .unset] [(.int 3), (.ref a1)]))
  refine own_il X1.here hx rfl (hb hby d3_9) rfl ?_
  refine own_step (fun t k => XS.iadd X1.here hx rfl (hb hby d3_10) rfl k) ?_
  obtain ⟨T2, h2, X2, e2, W2, st2⟩ := putF X1 hx hZ hown (host := "") (Or.inl (own_w hw 19 rfl)) Via.refl e1 fp1 fp0 (Or.inl (own_w hw 20 rfl)) (own_w hw 11 rfl) (ty := .int) (by decide) rfl rfl (g := (mkF m 11 #[rv a1, rv wa, iv 4, .unset] [(.int 7), (.ref a1)])) rfl rfl (hb hby d3_11)
  have N2 := Fr.snoc X2 N0 g_a1
  have c3 : Fld Z h2 a1 own_C "end" "I" (.int 7) := fp1.same W2
  have c4 : Exa Z h2 a1 own_C := fp0.wr W2
  have c6 : Fld Z h2 a1 own_C "keys" "[J" .null := fp2.other W2 (Or.inr (slot_ne (Or.inl (own_w hw 22 rfl)) (Or.inl (own_w hw 20 rfl)) (by decide) (t := (.array .long)) (t' := .int) (by decide) (by decide)))
  have c7 : Fld Z h2 a1 own_C "nodes" "[I" .null := fp3.other W2 (Or.inr (slot_ne (Or.inl (own_w hw 46 rfl)) (Or.inl (own_w hw 20 rfl)) (by decide) (t := (.array .int)) (t' := .int) (by decide) (by decide)))
  have c8 : own_Arj Z h2 wa [wt0, wt1, wt2, wt3] := fp4.other W2 ne_wa_a1
  have K2 : Keep h0 h2 [a1] := (Keep.refl h0 [a1]).wr W2 (Or.inl (List.mem_of_getElem? (i := 0) rfl))
  refine own_step st2 ?_
  refine own_al X2.here hx rfl (hb hby d3_14) rfl rfl ?_
  refine own_al X2.here hx rfl (hb hby d3_15) rfl rfl ?_
  obtain ⟨T9, X9, e9, st9⟩ := getF X2 hx hZ hown (host := "") (Or.inl (own_w hw 19 rfl)) Via.refl e2 c3 (g := (mkF m 16 #[rv a1, rv wa, iv 4, .unset] [(.ref a1), (.ref a1)])) rfl rfl (hb hby d3_16)
  refine own_step st9 ?_
  refine own_ic X9.here hx rfl (hb hby d3_19) ?_
  show own_G p.tables e below _ (T9.setTop (mkF m 20 #[rv a1, rv wa, iv 4, .unset] [(.int 4), (.int 7), (.ref a1)]))
  refine own_step (fun t k => XS.iadd X9.here hx rfl (hb hby d3_20) rfl k) ?_
  refine own_ic X9.here hx rfl (hb hby d3_21) ?_
  refine own_step (fun t k => XS.isub X9.here hx rfl (hb hby d3_22) rfl k) ?_
  obtain ⟨T10, h10, k10, X10, e10, E10, A10, st10⟩ := newP X9 hx hZ (own_w hw 5 rfl) e9 (g := (mkF m 23 #[rv a1, rv wa, iv 4, .unset] [(.int 10), (.ref a1)])) rfl (hb hby d3_23) rfl (by decide) (cap := 10) (by decide) (by decide) (by decide) (by decide)
  obtain ⟨b10, g10⟩ : ∃ z, z = h2.size := ⟨_, rfl⟩
  have ne11 : a1 ≠ b10 := Nat.ne_of_lt (Nat.lt_of_lt_of_le c4.lt (Nat.le_of_eq g10.symm))
  have ne12 : wa ≠ b10 := Nat.ne_of_lt (Nat.lt_of_lt_of_le c8.lt (Nat.le_of_eq g10.symm))
  have sz10 : h0.size ≤ b10 := Nat.le_trans K2.1 (Nat.le_of_eq g10.symm)
  have ge10 : n0 ≤ b10 := Nat.le_trans Z0 sz10
  have c13 : Exa Z h10 a1 own_C := c4.ext E10
  have c14 : Fld Z h10 a1 own_C "end" "I" (.int 7) := c3.ext E10
  have c15 : Fld Z h10 a1 own_C "keys" "[J" .null := c6.ext E10
  have c16 : Fld Z h10 a1 own_C "nodes" "[I" .null := c7.ext E10
  have c17 : own_Arj Z h10 wa [wt0, wt1, wt2, wt3] := c8.ext E10
  have K10 : Keep h0 h10 [a1] := K2.ext E10
  rw [← g10] at A10 st10
  have c18 : own_Arj Z h10 b10 [0, 0, 0, 0, 0, 0, 0, 0, 0, 0] := own_Arj_new A10 (by decide)
  refine own_step st10 ?_
  obtain ⟨T19, h19, X19, e19, W19, st19⟩ := putF X10 hx hZ hown (host := "") (Or.inl (own_w hw 21 rfl)) Via.refl e10 c15 c13 (Or.inl (own_w hw 22 rfl)) (own_w hw 11 rfl) (ty := (.array .long)) (by decide) rfl rfl (g := (mkF m 25 #[rv a1, rv wa, iv 4, .unset] [(.ref b10), (.ref a1)])) rfl rfl (hb hby d3_25)
  have N19 := Fr.snoc X19 N2 g_a1
  have c20 : Fld Z h19 a1 own_C "keys" "[J" (.ref b10) := c15.same W19
  have c21 : Exa Z h19 a1 own_C := c13.wr W19
  have c22 : Fld Z h19 a1 own_C "end" "I" (.int 7) := c14.other W19 (Or.inr (slot_ne (Or.inl (own_w hw 20 rfl)) (Or.inl (own_w hw 22 rfl)) (by decide) (t := .int) (t' := (.array .long)) (by decide) (by decide)))
  have c24 : Fld Z h19 a1 own_C "nodes" "[I" .null := c16.other W19 (Or.inr (slot_ne (Or.inl (own_w hw 46 rfl)) (Or.inl (own_w hw 22 rfl)) (by decide) (t := (.array .int)) (t' := (.array .long)) (by decide) (by decide)))
  have c25 : own_Arj Z h19 wa [wt0, wt1, wt2, wt3] := c17.other W19 ne_wa_a1
  have c26 : own_Arj Z h19 b10 [0, 0, 0, 0, 0, 0, 0, 0, 0, 0] := c18.other W19 (Ne.symm ne11)
  have K19 : Keep h0 h19 [a1] := K10.wr W19 (Or.inl (List.mem_of_getElem? (i := 0) rfl))
  refine own_step st19 ?_
  refine own_al X19.here hx rfl (hb hby d3_28) rfl rfl ?_
  obtain ⟨_, _, ⟨T27, L27, k27, n27⟩, -, X27, ⟨Lc27, hQ27, l27, y27, z27⟩, st27⟩ := Jvm.LawKit.callS X19 hx (y := own_y5) hown (mvT hZ (own_w hw 23 rfl)) (mvT hZ (own_w hw 24 rfl)) (mvT hZ (own_w hw 12 rfl)) (mvT hZ (own_w hw 25 rfl)) (by decide) (backOf (W := 0) (rm5_n4 l Z a0 hw [] wa wt0 wt1 wt2 wt3 h19 n0 (Nat.le_trans Z0 K19.1) c25) hZ (own_w hw 25 rfl) (own_w hw 12 rfl) (by decide) (by decide)) (g := (mkF m 29 #[rv a1, rv wa, iv 4, .unset] [(.ref wa)])) rfl (by rw [hml]; rfl) (argsL := [(.ref wa)]) (rest := []) (lenOf pd_3_u4_0 rfl) rfl (own_wl rfl) (hb hby d3_29) (fun _ _ => ⟨rfl, e19, (by decide : 1 + 0 ≤ _), (by decide : 10 + 0 ≤ _)⟩)
  dsimp only [Pt.U, Pt.locs, Pt.cells, Pt.slots] at X27 l27 y27 z27 st27 hQ27
  subst y27 z27
  obtain ⟨rfl, N27q, e27⟩ := hQ27
  have N27 : Fr n0 L27 := by rw [l27]; exact Fr.app N19 N27q
  refine own_step st27 ?_
  clear A10 E10 K10 K2 N19 N2 N27q W19 W2 X1 X10 X19 X2 X9 c13 c14 c15 c16 c17 c18 c3 c4 c6 c7 c8 e1 e10 e19 e2 e9 g10 st1 st10 st19 st2 st27 st9
  show own_G p.tables e below _ (T27.setTop (mkF m 32 #[rv a1, rv wa, iv 4, .unset] [(.int (own_f5_n4 wt0 wt1 wt2 wt3))]))
  have hk28 : (own_f5_n4 wt0 wt1 wt2 wt3) = (0 : Int32) := hpk
  refine own_step (fun t k => XS.ifYes X27.here hx rfl (pc0 := 32) (pc' := 85) rfl (hb hby d3_32) rfl ((if0 _ _).trans (teq hk28).1) (by decide) (by decide) k) ?_
  show own_G p.tables e below _ (T27.setTop (mkF m 85 #[rv a1, rv wa, iv 4, .unset] []))
  refine own_al X27.here hx rfl (hb hby d3_85) rfl rfl ?_
  refine own_al X27.here hx rfl (hb hby d3_86) rfl rfl ?_
  obtain ⟨T29, X29, e29, st29⟩ := getF X27 hx hZ hown (host := "") (Or.inl (own_w hw 21 rfl)) Via.refl e27 c20 (g := (mkF m 87 #[rv a1, rv wa, iv 4, .unset] [(.ref a1), (.ref a1)])) rfl rfl (hb hby d3_87)
  refine own_step st29 ?_
  refine own_step (own_lenJ X29 hx hZ e29 c26 (g := (mkF m 90 #[rv a1, rv wa, iv 4, .unset] [(.ref b10), (.ref a1)])) rfl rfl (hb hby d3_90)) ?_
  obtain ⟨T30, h30, k30, X30, e30, E30, A30, st30⟩ := newP X29 hx hZ (own_w hw 68 rfl) e29 (g := (mkF m 91 #[rv a1, rv wa, iv 4, .unset] [(.int 10), (.ref a1)])) rfl (hb hby d3_91) rfl (by decide) (cap := 10) (by decide) (by decide) (by decide) (by decide)
  obtain ⟨b30, g30⟩ : ∃ z, z = h19.size := ⟨_, rfl⟩
  have ne31 : a1 ≠ b30 := Nat.ne_of_lt (Nat.lt_of_lt_of_le c21.lt (Nat.le_of_eq g30.symm))
  have ne32 : wa ≠ b30 := Nat.ne_of_lt (Nat.lt_of_lt_of_le c25.lt (Nat.le_of_eq g30.symm))
  have ne33 : b10 ≠ b30 := Nat.ne_of_lt (Nat.lt_of_lt_of_le c26.lt (Nat.le_of_eq g30.symm))
  have sz30 : h0.size ≤ b30 := Nat.le_trans K19.1 (Nat.le_of_eq g30.symm)
  have ge30 : n0 ≤ b30 := Nat.le_trans Z0 sz30
  have c34 : Exa Z h30 a1 own_C := c21.ext E30
  have c35 : Fld Z h30 a1 own_C "end" "I" (.int 7) := c22.ext E30
  have c36 : Fld Z h30 a1 own_C "keys" "[J" (.ref b10) := c20.ext E30
  have c37 : Fld Z h30 a1 own_C "nodes" "[I" .null := c24.ext E30
  have c38 : own_Arj Z h30 wa [wt0, wt1, wt2, wt3] := c25.ext E30
  have c39 : own_Arj Z h30 b10 [0, 0, 0, 0, 0, 0, 0, 0, 0, 0] := c26.ext E30
  have K30 : Keep h0 h30 [a1] := K19.ext E30
  rw [← g30] at A30 st30
  have c40 : own_Ari Z h30 b30 .int [0, 0, 0, 0, 0, 0, 0, 0, 0, 0] := own_Ari_new (ty := .int) A30 (by decide) rfl
  refine own_step st30 ?_
  obtain ⟨T41, h41, X41, e41, W41, st41⟩ := putF X30 hx hZ hown (host := "") (Or.inl (own_w hw 45 rfl)) Via.refl e30 c37 c34 (Or.inl (own_w hw 46 rfl)) (own_w hw 11 rfl) (ty := (.array .int)) (by decide) rfl rfl (g := (mkF m 93 #[rv a1, rv wa, iv 4, .unset] [(.ref b30), (.ref a1)])) rfl rfl (hb hby d3_93)
  have N41 := Fr.snoc X41 N27 g_a1
  have c42 : Fld Z h41 a1 own_C "nodes" "[I" (.ref b30) := c37.same W41
  have c43 : Exa Z h41 a1 own_C := c34.wr W41
  have c44 : Fld Z h41 a1 own_C "end" "I" (.int 7) := c35.other W41 (Or.inr (slot_ne (Or.inl (own_w hw 20 rfl)) (Or.inl (own_w hw 46 rfl)) (by decide) (t := .int) (t' := (.array .int)) (by decide) (by decide)))
  have c45 : Fld Z h41 a1 own_C "keys" "[J" (.ref b10) := c36.other W41 (Or.inr (slot_ne (Or.inl (own_w hw 22 rfl)) (Or.inl (own_w hw 46 rfl)) (by decide) (t := (.array .long)) (t' := (.array .int)) (by decide) (by decide)))
  have c47 : own_Arj Z h41 wa [wt0, wt1, wt2, wt3] := c38.other W41 ne_wa_a1
  have c48 : own_Arj Z h41 b10 [0, 0, 0, 0, 0, 0, 0, 0, 0, 0] := c39.other W41 (Ne.symm ne11)
  have c49 : own_Ari Z h41 b30 .int [0, 0, 0, 0, 0, 0, 0, 0, 0, 0] := c40.other W41 (Ne.symm ne31)
  have K41 : Keep h0 h41 [a1] := K30.wr W41 (Or.inl (List.mem_of_getElem? (i := 0) rfl))
  refine own_step st41 ?_
  refine own_al X41.here hx rfl (hb hby d3_96) rfl rfl ?_
  clear A30 E30 K19 K30 N27 W41 X27 X29 X30 c20 c21 c22 c24 c25 c26 c34 c35 c36 c37 c38 c39 c40 e27 e29 e30 g30 hk28 st29 st30 st41
  show own_G p.tables e below _ (T41.setTop (mkF m 97 #[rv a1, rv wa, iv 4, .unset] [(.ref wa)]))
  refine own_ic X41.here hx rfl (hb hby d3_97) ?_
  refine own_al X41.here hx rfl (hb hby d3_98) rfl rfl ?_
  obtain ⟨T50, X50, e50, st50⟩ := getF X41 hx hZ hown (host := "") (Or.inl (own_w hw 21 rfl)) Via.refl e41 c45 (g := (mkF m 99 #[rv a1, rv wa, iv 4, .unset] [(.ref a1), (.int 0), (.ref wa)])) rfl rfl (hb hby d3_99)
  refine own_step st50 ?_
  refine own_ic X50.here hx rfl (hb hby d3_102) ?_
  refine own_il X50.here hx rfl (hb hby d3_103) rfl ?_
  obtain ⟨T51, h51, L51, X51, e51, N51, K51q, A51, st51⟩ := own_cpJ X50 hx hZ hown (own_w hw 69 rfl) (own_w hw 72 rfl) (own_w hw 70 rfl) (own_w hw 71 rfl) e50 c47 c48 (by decide) (by decide) (by decide) (Nat.le_of_ble_eq_true rfl) (Nat.le_of_ble_eq_true rfl) N41 ge10 (g := (mkF m 104 #[rv a1, rv wa, iv 4, .unset] [(.int 4), (.int 3), (.ref b10), (.int 0), (.ref wa)])) rfl (by rw [hml]; rfl) rfl (hb hby d3_104) (by decide) (W := 0) (by show 2 * 0 + _ ≤ _; exact Nat.le_of_eq rfl) (by decide)
  have c52 : Exa Z h51 a1 own_C := c43.keep K51q
  have c53 : Fld Z h51 a1 own_C "end" "I" (.int 7) := c44.keep K51q (ninS ne11 nin0)
  have c54 : Fld Z h51 a1 own_C "keys" "[J" (.ref b10) := c45.keep K51q (ninS ne11 nin0)
  have c55 : Fld Z h51 a1 own_C "nodes" "[I" (.ref b30) := c42.keep K51q (ninS ne11 nin0)
  have c56 : own_Arj Z h51 wa [wt0, wt1, wt2, wt3] := c47.keep K51q (ninS ne12 nin0)
  have c58 : own_Ari Z h51 b30 .int [0, 0, 0, 0, 0, 0, 0, 0, 0, 0] := c49.keep K51q (ninS (Ne.symm ne33) nin0)
  have c59 : own_Arj Z h51 b10 [0, 0, 0, wt0, wt1, wt2, wt3, 0, 0, 0] := A51
  have K51 : Keep h0 h51 [a1] := K41.trans K51q (allS (Or.inr sz10) all0)
  refine own_step st51 ?_
  refine own_ic X51.here hx rfl (hb hby d3_107) ?_
  clear A51 K41 K51q N41 X41 X50 c42 c43 c44 c45 c47 c48 c49 e41 e50 st50 st51
  show own_G p.tables e below _ (T51.setTop (mkF m 108 #[rv a1, rv wa, iv 4, .unset] [(.int 0)]))
  refine own_step (fun t k => XS.istoreN X51.here hx rfl (hb hby d3_108) rfl (l' := #[rv a1, rv wa, iv 4, iv 0]) rfl k) ?_
  refine own_il X51.here hx rfl (hb hby d3_109) rfl ?_
  refine own_il X51.here hx rfl (hb hby d3_110) rfl ?_
  have hk60 : (0 : Int32) < (4 : Int32) := (by decide)
  refine own_step (fun t k => XS.icmpNo X51.here hx rfl (hb hby d3_111) rfl ((tlt hk60).2.1) k) ?_
  show own_G p.tables e below _ (T51.setTop (mkF m 114 #[rv a1, rv wa, iv 4, iv 0] []))
  refine own_al X51.here hx rfl (hb hby d3_114) rfl rfl ?_
  obtain ⟨T61, X61, e61, st61⟩ := getF X51 hx hZ hown (host := "") (Or.inl (own_w hw 45 rfl)) Via.refl e51 c55 (g := (mkF m 115 #[rv a1, rv wa, iv 4, iv 0] [(.ref a1)])) rfl rfl (hb hby d3_115)
  refine own_step st61 ?_
  refine own_ic X61.here hx rfl (hb hby d3_118) ?_
  refine own_il X61.here hx rfl (hb hby d3_119) rfl ?_
  refine own_step (fun t k => XS.iadd X61.here hx rfl (hb hby d3_120) rfl k) ?_
  refine own_il X61.here hx rfl (hb hby d3_121) rfl ?_
  obtain ⟨T62, h62, X62, e62, W62, c62, st62⟩ := own_iastore X61 hx hZ e61 c58 (own_inb (by decide) (Nat.le_of_ble_eq_true rfl)) (g := (mkF m 122 #[rv a1, rv wa, iv 4, iv 0] [(.int 0), (.int 3), (.ref b30)])) rfl rfl (hb hby d3_122)
  have N62 := Fr.snoc X62 N51 ge30
  have c63 : own_Ari Z h62 b30 .int [0, 0, 0, 0, 0, 0, 0, 0, 0, 0] := c62
  have c64 : Exa Z h62 a1 own_C := c52.wr W62
  have c65 : Fld Z h62 a1 own_C "end" "I" (.int 7) := c53.other W62 (Or.inl ne31)
  have c66 : Fld Z h62 a1 own_C "keys" "[J" (.ref b10) := c54.other W62 (Or.inl ne31)
  have c67 : Fld Z h62 a1 own_C "nodes" "[I" (.ref b30) := c55.other W62 (Or.inl ne31)
  have c68 : own_Arj Z h62 wa [wt0, wt1, wt2, wt3] := c56.other W62 ne32
  have c69 : own_Arj Z h62 b10 [0, 0, 0, wt0, wt1, wt2, wt3, 0, 0, 0] := c59.other W62 ne33
  have K62 : Keep h0 h62 [a1] := K51.wr W62 (Or.inr sz30)
  refine own_step st62 ?_
  clear K51 N51 W62 X51 X61 c52 c53 c54 c55 c56 c58 c59 c62 e51 e61 hk60 st61 st62
  show own_G p.tables e below _ (T62.setTop (mkF m 123 #[rv a1, rv wa, iv 4, iv 0] []))
  refine own_step (fun t k => XS.iinc X62.here hx rfl (hb hby d3_123) rfl (l' := #[rv a1, rv wa, iv 4, iv 1]) rfl k) ?_
  refine own_go X62.here hx rfl (pc0 := 126) (pc' := 109) rfl (hb hby d3_126) (by decide) (by decide) ?_
  refine own_il X62.here hx rfl (hb hby d3_109) rfl ?_
  refine own_il X62.here hx rfl (hb hby d3_110) rfl ?_
  have hk71 : (1 : Int32) < (4 : Int32) := (by decide)
  refine own_step (fun t k => XS.icmpNo X62.here hx rfl (hb hby d3_111) rfl ((tlt hk71).2.1) k) ?_
  show own_G p.tables e below _ (T62.setTop (mkF m 114 #[rv a1, rv wa, iv 4, iv 1] []))
  refine own_al X62.here hx rfl (hb hby d3_114) rfl rfl ?_
  obtain ⟨T72, X72, e72, st72⟩ := getF X62 hx hZ hown (host := "") (Or.inl (own_w hw 45 rfl)) Via.refl e62 c67 (g := (mkF m 115 #[rv a1, rv wa, iv 4, iv 1] [(.ref a1)])) rfl rfl (hb hby d3_115)
  refine own_step st72 ?_
  refine own_ic X72.here hx rfl (hb hby d3_118) ?_
  refine own_il X72.here hx rfl (hb hby d3_119) rfl ?_
  refine own_step (fun t k => XS.iadd X72.here hx rfl (hb hby d3_120) rfl k) ?_
  refine own_il X72.here hx rfl (hb hby d3_121) rfl ?_
  obtain ⟨T73, h73, X73, e73, W73, c73, st73⟩ := own_iastore X72 hx hZ e72 c63 (own_inb (by decide) (Nat.le_of_ble_eq_true rfl)) (g := (mkF m 122 #[rv a1, rv wa, iv 4, iv 1] [(.int 1), (.int 4), (.ref b30)])) rfl rfl (hb hby d3_122)
  have N73 := Fr.snoc X73 N62 ge30
  have c74 : own_Ari Z h73 b30 .int [0, 0, 0, 0, 1, 0, 0, 0, 0, 0] := c73
  have c75 : Exa Z h73 a1 own_C := c64.wr W73
  have c76 : Fld Z h73 a1 own_C "end" "I" (.int 7) := c65.other W73 (Or.inl ne31)
  have c77 : Fld Z h73 a1 own_C "keys" "[J" (.ref b10) := c66.other W73 (Or.inl ne31)
  have c78 : Fld Z h73 a1 own_C "nodes" "[I" (.ref b30) := c67.other W73 (Or.inl ne31)
  have c79 : own_Arj Z h73 wa [wt0, wt1, wt2, wt3] := c68.other W73 ne32
  have c80 : own_Arj Z h73 b10 [0, 0, 0, wt0, wt1, wt2, wt3, 0, 0, 0] := c69.other W73 ne33
  have K73 : Keep h0 h73 [a1] := K62.wr W73 (Or.inr sz30)
  refine own_step st73 ?_
  clear K62 N62 W73 X62 X72 c63 c64 c65 c66 c67 c68 c69 c73 e62 e72 hk71 st72 st73
  show own_G p.tables e below _ (T73.setTop (mkF m 123 #[rv a1, rv wa, iv 4, iv 1] []))
  refine own_step (fun t k => XS.iinc X73.here hx rfl (hb hby d3_123) rfl (l' := #[rv a1, rv wa, iv 4, iv 2]) rfl k) ?_
  refine own_go X73.here hx rfl (pc0 := 126) (pc' := 109) rfl (hb hby d3_126) (by decide) (by decide) ?_
  refine own_il X73.here hx rfl (hb hby d3_109) rfl ?_
  refine own_il X73.here hx rfl (hb hby d3_110) rfl ?_
  have hk82 : (2 : Int32) < (4 : Int32) := (by decide)
  refine own_step (fun t k => XS.icmpNo X73.here hx rfl (hb hby d3_111) rfl ((tlt hk82).2.1) k) ?_
  show own_G p.tables e below _ (T73.setTop (mkF m 114 #[rv a1, rv wa, iv 4, iv 2] []))
  refine own_al X73.here hx rfl (hb hby d3_114) rfl rfl ?_
  obtain ⟨T83, X83, e83, st83⟩ := getF X73 hx hZ hown (host := "") (Or.inl (own_w hw 45 rfl)) Via.refl e73 c78 (g := (mkF m 115 #[rv a1, rv wa, iv 4, iv 2] [(.ref a1)])) rfl rfl (hb hby d3_115)
  refine own_step st83 ?_
  refine own_ic X83.here hx rfl (hb hby d3_118) ?_
  refine own_il X83.here hx rfl (hb hby d3_119) rfl ?_
  refine own_step (fun t k => XS.iadd X83.here hx rfl (hb hby d3_120) rfl k) ?_
  refine own_il X83.here hx rfl (hb hby d3_121) rfl ?_
  obtain ⟨T84, h84, X84, e84, W84, c84, st84⟩ := own_iastore X83 hx hZ e83 c74 (own_inb (by decide) (Nat.le_of_ble_eq_true rfl)) (g := (mkF m 122 #[rv a1, rv wa, iv 4, iv 2] [(.int 2), (.int 5), (.ref b30)])) rfl rfl (hb hby d3_122)
  have N84 := Fr.snoc X84 N73 ge30
  have c85 : own_Ari Z h84 b30 .int [0, 0, 0, 0, 1, 2, 0, 0, 0, 0] := c84
  have c86 : Exa Z h84 a1 own_C := c75.wr W84
  have c87 : Fld Z h84 a1 own_C "end" "I" (.int 7) := c76.other W84 (Or.inl ne31)
  have c88 : Fld Z h84 a1 own_C "keys" "[J" (.ref b10) := c77.other W84 (Or.inl ne31)
  have c89 : Fld Z h84 a1 own_C "nodes" "[I" (.ref b30) := c78.other W84 (Or.inl ne31)
  have c90 : own_Arj Z h84 wa [wt0, wt1, wt2, wt3] := c79.other W84 ne32
  have c91 : own_Arj Z h84 b10 [0, 0, 0, wt0, wt1, wt2, wt3, 0, 0, 0] := c80.other W84 ne33
  have K84 : Keep h0 h84 [a1] := K73.wr W84 (Or.inr sz30)
  refine own_step st84 ?_
  clear K73 N73 W84 X73 X83 c74 c75 c76 c77 c78 c79 c80 c84 e73 e83 hk82 st83 st84
  show own_G p.tables e below _ (T84.setTop (mkF m 123 #[rv a1, rv wa, iv 4, iv 2] []))
  refine own_step (fun t k => XS.iinc X84.here hx rfl (hb hby d3_123) rfl (l' := #[rv a1, rv wa, iv 4, iv 3]) rfl k) ?_
  refine own_go X84.here hx rfl (pc0 := 126) (pc' := 109) rfl (hb hby d3_126) (by decide) (by decide) ?_
  refine own_il X84.here hx rfl (hb hby d3_109) rfl ?_
  refine own_il X84.here hx rfl (hb hby d3_110) rfl ?_
  have hk93 : (3 : Int32) < (4 : Int32) := (by decide)
  refine own_step (fun t k => XS.icmpNo X84.here hx rfl (hb hby d3_111) rfl ((tlt hk93).2.1) k) ?_
  show own_G p.tables e below _ (T84.setTop (mkF m 114 #[rv a1, rv wa, iv 4, iv 3] []))
  refine own_al X84.here hx rfl (hb hby d3_114) rfl rfl ?_
  obtain ⟨T94, X94, e94, st94⟩ := getF X84 hx hZ hown (host := "") (Or.inl (own_w hw 45 rfl)) Via.refl e84 c89 (g := (mkF m 115 #[rv a1, rv wa, iv 4, iv 3] [(.ref a1)])) rfl rfl (hb hby d3_115)
  refine own_step st94 ?_
  refine own_ic X94.here hx rfl (hb hby d3_118) ?_
  refine own_il X94.here hx rfl (hb hby d3_119) rfl ?_
  refine own_step (fun t k => XS.iadd X94.here hx rfl (hb hby d3_120) rfl k) ?_
  refine own_il X94.here hx rfl (hb hby d3_121) rfl ?_
  obtain ⟨T95, h95, X95, e95, W95, c95, st95⟩ := own_iastore X94 hx hZ e94 c85 (own_inb (by decide) (Nat.le_of_ble_eq_true rfl)) (g := (mkF m 122 #[rv a1, rv wa, iv 4, iv 3] [(.int 3), (.int 6), (.ref b30)])) rfl rfl (hb hby d3_122)
  have N95 := Fr.snoc X95 N84 ge30
  have c96 : own_Ari Z h95 b30 .int [0, 0, 0, 0, 1, 2, 3, 0, 0, 0] := c95
  have c97 : Exa Z h95 a1 own_C := c86.wr W95
  have c98 : Fld Z h95 a1 own_C "end" "I" (.int 7) := c87.other W95 (Or.inl ne31)
  have c99 : Fld Z h95 a1 own_C "keys" "[J" (.ref b10) := c88.other W95 (Or.inl ne31)
  have c100 : Fld Z h95 a1 own_C "nodes" "[I" (.ref b30) := c89.other W95 (Or.inl ne31)
  have c101 : own_Arj Z h95 wa [wt0, wt1, wt2, wt3] := c90.other W95 ne32
  have c102 : own_Arj Z h95 b10 [0, 0, 0, wt0, wt1, wt2, wt3, 0, 0, 0] := c91.other W95 ne33
  have K95 : Keep h0 h95 [a1] := K84.wr W95 (Or.inr sz30)
  refine own_step st95 ?_
  clear K84 N84 W95 X84 X94 c85 c86 c87 c88 c89 c90 c91 c95 e84 e94 hk93 st94 st95
  show own_G p.tables e below _ (T95.setTop (mkF m 123 #[rv a1, rv wa, iv 4, iv 3] []))
  refine own_step (fun t k => XS.iinc X95.here hx rfl (hb hby d3_123) rfl (l' := #[rv a1, rv wa, iv 4, iv 4]) rfl k) ?_
  refine own_go X95.here hx rfl (pc0 := 126) (pc' := 109) rfl (hb hby d3_126) (by decide) (by decide) ?_
  refine own_il X95.here hx rfl (hb hby d3_109) rfl ?_
  refine own_il X95.here hx rfl (hb hby d3_110) rfl ?_
  have hk104 : ¬ ((4 : Int32) < (4 : Int32)) := (by decide)
  refine own_step (fun t k => XS.icmpYes X95.here hx rfl (pc0 := 111) (pc' := 129) rfl (hb hby d3_111) rfl ((flt hk104).2.1) (by decide) (by decide) k) ?_
  show own_G p.tables e below _ (T95.setTop (mkF m 129 #[rv a1, rv wa, iv 4, iv 4] []))
  refine own_al X95.here hx rfl (hb hby d3_129) rfl rfl ?_
  obtain ⟨T105, X105, e105, st105⟩ := getF X95 hx hZ hown (host := "") (Or.inl (own_w hw 19 rfl)) Via.refl e95 c98 (g := (mkF m 130 #[rv a1, rv wa, iv 4, iv 4] [(.ref a1)])) rfl rfl (hb hby d3_130)
  refine own_step st105 ?_
  refine own_ic X105.here hx rfl (hb hby d3_133) ?_
  refine own_step (fun t k => XS.isub X105.here hx rfl (hb hby d3_134) rfl k) ?_
  obtain ⟨_, _, ⟨T106, L106, k106, n106⟩, -, X106, ⟨Lc106, hQ106, l106, y106, z106⟩, st106⟩ := Jvm.LawKit.callS X105 hx (y := own_y9) hown (mvT hZ (own_w hw 38 rfl)) (mvT hZ (own_w hw 39 rfl)) (mvT hZ (own_w hw 12 rfl)) (mvT hZ (own_w hw 40 rfl)) (by decide) (backOf (W := 0) (rm9 l Z a0 hw [] (6 : Int32) h95 n0 (Nat.le_trans Z0 K95.1) ) hZ (own_w hw 40 rfl) (own_w hw 12 rfl) (by decide) (by decide)) (g := (mkF m 135 #[rv a1, rv wa, iv 4, iv 4] [(.int 6)])) rfl (by rw [hml]; rfl) (argsL := [(.int 6)]) (rest := []) (lenOf pd_3_u4_1 rfl) rfl (own_wl rfl) (hb hby d3_135) (fun _ _ => ⟨rfl, e105, (by decide : 2 + 0 ≤ _), (by decide : 20 + 0 ≤ _)⟩)
  dsimp only [Pt.U, Pt.locs, Pt.cells, Pt.slots] at X106 l106 y106 z106 st106 hQ106
  subst y106 z106
  obtain ⟨rfl, N106q, e106⟩ := hQ106
  have N106 : Fr n0 L106 := by rw [l106]; exact Fr.app N95 N106q
  refine own_step st106 ?_
  show own_G p.tables e below _ (T106.setTop (mkF m 138 #[rv a1, rv wa, iv 4, iv 4] [(.int 3)]))
  refine own_step (fun t k => XS.istoreN X106.here hx rfl (hb hby d3_138) rfl (l' := #[rv a1, rv wa, iv 4, iv 3]) rfl k) ?_
  refine own_il X106.here hx rfl (hb hby d3_139) rfl ?_
  refine own_ic X106.here hx rfl (hb hby d3_140) ?_
  have hk107 : ¬ ((3 : Int32) < (3 : Int32)) := (by decide)
  refine own_step (fun t k => XS.icmpNo X106.here hx rfl (hb hby d3_141) rfl ((flt hk107).1) k) ?_
  clear N106q N95 X105 X95 e105 e95 hk104 hk107 st105 st106
  show own_G p.tables e below _ (T106.setTop (mkF m 144 #[rv a1, rv wa, iv 4, iv 3] []))
  refine own_al X106.here hx rfl (hb hby d3_144) rfl rfl ?_
  refine own_il X106.here hx rfl (hb hby d3_145) rfl ?_
  refine own_ic X106.here hx rfl (hb hby d3_146) ?_
  obtain ⟨cq108, q108, q108'⟩ := c97.cell
  obtain ⟨_, _, ⟨T108, L108, k108, n108⟩, -, X108, ⟨Lc108, hQ108, l108, y108, z108⟩, st108⟩ := X106.privateBack hx (y := own_y10) hown (mvT hZ (own_w hw 41 rfl)) (mvT hZ (own_w hw 42 rfl)) (mvT hZ (own_sp10 hw)) (Cond.privateMethod_at (mvP hZ (own_w hw 43 rfl) (args := #[]))) (mvT hZ (own_w hw 44 rfl)) (by decide) (backOf (W := 0) (rm10_u l Z a0 hw [] a1 (3 : Int32) (0 : Int32) b10 b30 [(0 : Int64), (0 : Int64), (0 : Int64), wt0, wt1, wt2, wt3, (0 : Int64), (0 : Int64), (0 : Int64)] [(0 : Int32), (0 : Int32), (0 : Int32), (0 : Int32), (1 : Int32), (2 : Int32), (3 : Int32), (0 : Int32), (0 : Int32), (0 : Int32)] h95 n0 (Nat.le_trans Z0 K95.1) c99 c100 c102 c96 ((own_inb (by decide) (Nat.le_of_ble_eq_true rfl)) : own_Inb (3 : Int32) [(0 : Int64), (0 : Int64), (0 : Int64), wt0, wt1, wt2, wt3, (0 : Int64), (0 : Int64), (0 : Int64)].length) ((own_inb (by decide) (Nat.le_of_ble_eq_true rfl)) : own_Inb (0 : Int32) [(0 : Int64), (0 : Int64), (0 : Int64), wt0, wt1, wt2, wt3, (0 : Int64), (0 : Int64), (0 : Int64)].length) ((own_inb (by decide) (Nat.le_of_ble_eq_true rfl)) : own_Inb (3 : Int32) [(0 : Int32), (0 : Int32), (0 : Int32), (0 : Int32), (1 : Int32), (2 : Int32), (3 : Int32), (0 : Int32), (0 : Int32), (0 : Int32)].length) ((own_inb (by decide) (Nat.le_of_ble_eq_true rfl)) : own_Inb (0 : Int32) [(0 : Int32), (0 : Int32), (0 : Int32), (0 : Int32), (1 : Int32), (2 : Int32), (3 : Int32), (0 : Int32), (0 : Int32), (0 : Int32)].length) ge10 ne11 (Ne.symm ne33) ge30 ne31) hZ (own_w hw 44 rfl) (own_w hw 12 rfl) (by decide) (by decide)) (g := (mkF m 147 #[rv a1, rv wa, iv 4, iv 3] [(.int 0), (.int 3), (.ref a1)])) rfl (by rw [hml]; rfl) (Steps.refl _) (a := a1) (by rw [e106]; exact q108) q108' (argsL := [(.int 3), (.int 0)]) (rest := []) (lenOf pd_3_u4_2 rfl) rfl (own_wl rfl) (hb hby d3_147) (fun _ _ => ⟨rfl, e106, (by decide : 2 + 0 ≤ _), (by decide : 20 + 0 ≤ _)⟩)
  dsimp only [Pt.U, Pt.locs, Pt.cells, Pt.slots] at X108 l108 y108 z108 st108 hQ108
  subst y108 z108
  obtain ⟨rfl, N108q, K108q, w108_0, w108_1⟩ := hQ108
  have c109 : Exa Z T108.heap a1 own_C := c97.keep K108q
  have c110 : Fld Z T108.heap a1 own_C "end" "I" (.int 7) := c98.keep K108q (ninS ne11 (ninS ne31 nin0))
  have c111 : Fld Z T108.heap a1 own_C "keys" "[J" (.ref b10) := c99.keep K108q (ninS ne11 (ninS ne31 nin0))
  have c112 : Fld Z T108.heap a1 own_C "nodes" "[I" (.ref b30) := c100.keep K108q (ninS ne11 (ninS ne31 nin0))
  have c113 : own_Arj Z T108.heap wa [wt0, wt1, wt2, wt3] := c101.keep K108q (ninS ne12 (ninS ne32 nin0))
  have K108 : Keep h0 T108.heap [a1] := K95.trans K108q (allS (Or.inr sz10) (allS (Or.inr sz30) all0))
  have c116 : own_Arj Z T108.heap b10 [wt0, 0, 0, wt0, wt1, wt2, wt3, 0, 0, 0] := w108_0
  have c117 : own_Ari Z T108.heap b30 .int [0, 0, 0, 0, 1, 2, 3, 0, 0, 0] := w108_1
  have N108 : Fr n0 L108 := by rw [l108]; exact Fr.app N106 N108q
  refine own_step (fun t k => st108.trans k) ?_
  refine own_al X108.here hx rfl (hb hby d3_150) rfl rfl ?_
  refine own_il X108.here hx rfl (hb hby d3_151) rfl ?_
  obtain ⟨cq118, q118, q118'⟩ := c109.cell
  obtain ⟨_, _, ⟨T118, L118, k118, n118⟩, -, X118, ⟨Lc118, hQ118, l118, y118, z118⟩, st118⟩ := X108.privateBack hx (y := own_y11) hown (mvT hZ (own_w hw 47 rfl)) (mvT hZ (own_w hw 48 rfl)) (mvT hZ (own_sp11 hw)) (Cond.privateMethod_at (mvP hZ (own_w hw 49 rfl) (args := #[]))) (mvT hZ (own_w hw 50 rfl)) (by decide) (backOf (W := 0) (rm11_u l Z a0 hw [] a1 b10 b30 (7 : Int32) [wt0, (0 : Int64), (0 : Int64), wt0, wt1, wt2, wt3, (0 : Int64), (0 : Int64), (0 : Int64)] [(0 : Int32), (0 : Int32), (0 : Int32), (0 : Int32), (1 : Int32), (2 : Int32), (3 : Int32), (0 : Int32), (0 : Int32), (0 : Int32)] T108.heap n0 (Nat.le_trans Z0 K108.1) c109 c111 c110 c112 c116 c117 ((by decide) : (4 : Int32) < (7 : Int32)) ((by decide) : ¬ (8 : Int32) < (7 : Int32)) ((Nat.le_of_ble_eq_true rfl) : 8 ≤ [wt0, (0 : Int64), (0 : Int64), wt0, wt1, wt2, wt3, (0 : Int64), (0 : Int64), (0 : Int64)].length) ((Nat.le_of_ble_eq_true rfl) : 8 ≤ [(0 : Int32), (0 : Int32), (0 : Int32), (0 : Int32), (1 : Int32), (2 : Int32), (3 : Int32), (0 : Int32), (0 : Int32), (0 : Int32)].length) ge10 ne11 (Ne.symm ne33) ge30 ne31) hZ (own_w hw 50 rfl) (own_w hw 12 rfl) (by decide) (by decide)) (g := (mkF m 152 #[rv a1, rv wa, iv 4, iv 3] [(.int 3), (.ref a1)])) rfl (by rw [hml]; rfl) (Steps.refl _) (a := a1) q118 q118' (argsL := [(.int 3)]) (rest := []) (lenOf pd_3_u4_3 rfl) rfl (own_wl rfl) (hb hby d3_152) (fun _ _ => ⟨rfl, rfl, (by decide : 2 + 0 ≤ _), (by decide : 20 + 0 ≤ _)⟩)
  dsimp only [Pt.U, Pt.locs, Pt.cells, Pt.slots] at X118 l118 y118 z118 st118 hQ118
  subst y118 z118
  obtain ⟨bx118_L_nd, bx118_L_ky, rfl, N118q, K118q, w118_0, w118_1, pr118_0, pr118_1⟩ := hQ118
  have c119 : Exa Z T118.heap a1 own_C := c109.keep K118q
  have c120 : Fld Z T118.heap a1 own_C "end" "I" (.int 7) := c110.keep K118q (ninS ne31 (ninS ne11 nin0))
  have c121 : Fld Z T118.heap a1 own_C "keys" "[J" (.ref b10) := c111.keep K118q (ninS ne31 (ninS ne11 nin0))
  have c122 : Fld Z T118.heap a1 own_C "nodes" "[I" (.ref b30) := c112.keep K118q (ninS ne31 (ninS ne11 nin0))
  have c123 : own_Arj Z T118.heap wa [wt0, wt1, wt2, wt3] := c113.keep K118q (ninS ne32 (ninS ne12 nin0))
  have K118 : Keep h0 T118.heap [a1] := K108.trans K118q (allS (Or.inr sz30) (allS (Or.inr sz10) all0))
  have N118 : Fr n0 L118 := by rw [l118]; exact Fr.app N108 N118q
  refine own_step (fun t k => st118.trans k) ?_
  clear K108 K108q K118q K95 N106 N108 N108q N118q X106 X108 c100 c101 c102 c109 c110 c111 c112 c113 c116 c117 c96 c97 c98 c99 e106 q108 q108' q118 q118' st108 st118 w108_0 w108_1
  show own_G p.tables e below _ (T118.setTop (mkF m 155 #[rv a1, rv wa, iv 4, iv 3] []))
  refine own_step (fun t k => XS.iinc X118.here hx rfl (hb hby d3_155) rfl (l' := #[rv a1, rv wa, iv 4, iv 2]) rfl k) ?_
  refine own_go X118.here hx rfl (pc0 := 158) (pc' := 139) rfl (hb hby d3_158) (by decide) (by decide) ?_
  refine own_il X118.here hx rfl (hb hby d3_139) rfl ?_
  refine own_ic X118.here hx rfl (hb hby d3_140) ?_
  have hk126 : (2 : Int32) < (3 : Int32) := (by decide)
  refine own_step (fun t k => XS.icmpYes X118.here hx rfl (pc0 := 141) (pc' := 161) rfl (hb hby d3_141) rfl ((tlt hk126).1) (by decide) (by decide) k) ?_
  show own_G p.tables e below _ (T118.setTop (mkF m 161 #[rv a1, rv wa, iv 4, iv 2] []))
  obtain ⟨fs, hr, hrun, hended, hW, hsame⟩ := X118.leave (v := none) (fun _ => rfl)
  refine own_done (X118.returnOut hx Bd.returns (hb hby d3_161) hr) hrun hended ⟨_, _, rfl, ?_, ⟨_, rfl⟩, hW, hsame.mono (by decide) (by decide)⟩
  show Q3_u4 Z a1 wa wt0 wt1 wt2 wt3 h0 n0 _ T118.heap _
  exact ⟨b10, b30, _, _, rfl, N118, K118, c120, c121, c122, w118_1, w118_0, sz10, sz30, ne33, (⟨pr118_1.1, pr118_1.2.trans ((congrArg (fun z => min wt0.toInt z) (own_lcu7 _ _)).trans (show min wt0.toInt (min (min wt1.toInt wt2.toInt) wt3.toInt) = (min (min (min wt0.toInt wt1.toInt) wt2.toInt) wt3.toInt) from by omega))⟩), (trivial)⟩
theorem d1_79 : decode method_3_code 79 = .ok (.iconst 5, 1) := by decide +kernel
theorem d1_80 : decode method_3_code 80 = .ok (.newarray .long, 2) := by decide +kernel
theorem d1_82 : decode method_3_code 82 = .ok (.dup, 1) := by decide +kernel
theorem d1_83 : decode method_3_code 83 = .ok (.iconst 0, 1) := by decide +kernel
theorem d1_84 : decode method_3_code 84 = .ok (.lload_n 1, 1) := by decide +kernel
theorem d1_85 : decode method_3_code 85 = .ok (.lastore, 1) := by decide +kernel
theorem d1_86 : decode method_3_code 86 = .ok (.dup, 1) := by decide +kernel
theorem d1_87 : decode method_3_code 87 = .ok (.iconst 1, 1) := by decide +kernel
theorem d1_88 : decode method_3_code 88 = .ok (.lload_n 3, 1) := by decide +kernel
theorem d1_89 : decode method_3_code 89 = .ok (.lastore, 1) := by decide +kernel
theorem d1_90 : decode method_3_code 90 = .ok (.dup, 1) := by decide +kernel
theorem d1_91 : decode method_3_code 91 = .ok (.iconst 2, 1) := by decide +kernel
theorem d1_92 : decode method_3_code 92 = .ok (.lload 5, 2) := by decide +kernel
theorem d1_94 : decode method_3_code 94 = .ok (.lastore, 1) := by decide +kernel
theorem d1_95 : decode method_3_code 95 = .ok (.dup, 1) := by decide +kernel
theorem d1_96 : decode method_3_code 96 = .ok (.iconst 3, 1) := by decide +kernel
theorem d1_97 : decode method_3_code 97 = .ok (.lload 7, 2) := by decide +kernel
theorem d1_99 : decode method_3_code 99 = .ok (.lastore, 1) := by decide +kernel
theorem d1_100 : decode method_3_code 100 = .ok (.dup, 1) := by decide +kernel
theorem d1_101 : decode method_3_code 101 = .ok (.iconst 4, 1) := by decide +kernel
theorem d1_102 : decode method_3_code 102 = .ok (.lload 9, 2) := by decide +kernel
theorem d1_104 : decode method_3_code 104 = .ok (.lastore, 1) := by decide +kernel
theorem d1_105 : decode method_3_code 105 = .ok (.areturn, 1) := by decide +kernel
theorem pn_1_n5 : plainName "com/example/leafcode/leafcode/FourWayHeapMinWeightPinLaw" = true := by first | (simp [plainName, overriddenIn]; done) | decide +kernel
theorem ef_1_n5 (m : MethodId) (wt0 : Int64) (wt1 : Int64) (wt2 : Int64) (wt3 : Int64) (wt4 : Int64) : entryFrame m #[(.int (5 : Int32)), (.long wt0), (.long wt1), (.long wt2), (.long wt3), (.long wt4)] 11 = mkF m 0 #[iv (5 : Int32), .val (.long wt0), .second, .val (.long wt1), .second, .val (.long wt2), .second, .val (.long wt3), .second, .val (.long wt4), .second] [] := by first | (simp [entryFrame, mkF, argsToLocals, Value.category]; done) | rfl
def Q1_n5 (Z : State) (wt0 : Int64) (wt1 : Int64) (wt2 : Int64) (wt3 : Int64) (wt4 : Int64) (h0 : Heap) (n0 : Nat) (v : Option Value) (h : Heap) (L : List Loc) : Prop := ∃ (rb : Addr), v = some (.ref rb) ∧ Fr n0 L ∧ Keep h0 h [] ∧ own_Arj Z h rb [wt0, wt1, wt2, wt3, wt4] ∧ h0.size ≤ rb
set_option maxRecDepth 65536 in
set_option maxHeartbeats 40000000 in
theorem rm1_n5 (l : Launch) (Z : State) (a0 : Array Value) (hw : ∀ d ∈ tables_1, d.before a0 Z = true) (ws : List Jvm.Cond) (wt0 : Int64) (wt1 : Int64) (wt2 : Int64) (wt3 : Int64) (wt4 : Int64) (h0 : Heap) (n0 : Nat) (Z0 : n0 ≤ h0.size) :
    MetFree l (⟨"com/example/leafcode/leafcode/FourWayHeapMinWeightPinLaw", "build", "(IJJJJJ)[J"⟩ : MethodName) (head1 (Jvm.Cond.code (⟨"com/example/leafcode/leafcode/FourWayHeapMinWeightPinLaw", "build", "(IJJJJJ)[J"⟩ : MethodName) method_3_code 11 (some (.array .long)) :: ws) ({ frames := 0, cells := 1, slots := 5, locals := 0 } : Room)) (fun a U => a = #[(.int (5 : Int32)), (.long wt0), (.long wt1), (.long wt2), (.long wt3), (.long wt4)] ∧ Z.Warmed39 U.vm ∧ U.heap = h0) (fun _ _ _ _ _ => True) (fun _ U o U' => ∃ v L, o = .returned v ∧ Q1_n5 Z wt0 wt1 wt2 wt3 wt4 h0 n0 v U'.heap L ∧ FrameEnd U o U' L ({ frames := 0, cells := 1, slots := 5, locals := 0 } : Room).cells ({ frames := 0, cells := 1, slots := 5, locals := 0 } : Room).slots) := by
  refine MetFree.of_bodySF (plainFor_of_name pn_1_n5) hisR ?_
  intro p e s m args below meth c s₁ Bd hml0 hP hK
  obtain ⟨rfl, hZ, hh⟩ := hP
  have hx := Bd.exec
  have hby := Bd.bytes
  have hml : c.maxLocals = 11 := hml0
  have hown : s.vm.findClass "com/example/leafcode/leafcode/FourWayHeapMinWeightPinLaw" = some m.cls := findClass_of_methodNamed Bd.named
  have hnm := (name_of_methodNamed Bd.named Bd.method).1
  have X0 : Stand p l e ({ frames := 0, cells := 1, slots := 5, locals := 0 } : Room) s m #[(.int (5 : Int32)), (.long wt0), (.long wt1), (.long wt2), (.long wt3), (.long wt4)] below meth c s₁ [] 0 0 := Stand.of_body Bd
  have e0 : s₁.heap = h0 := by rw [← hh, Bd.state]; rfl
  have N0 := Fr.nil n0
  refine own_start (fun t k => castTop (ef_1_n5 m wt0 wt1 wt2 wt3 wt4) k) ?_
  show own_G p.tables e below _ (s₁.setTop (mkF m 0 #[iv 5, .val (.long wt0), .second, .val (.long wt1), .second, .val (.long wt2), .second, .val (.long wt3), .second, .val (.long wt4), .second] []))
  refine own_il X0.here hx rfl (hb hby d1_0) rfl ?_
  refine own_ic X0.here hx rfl (hb hby d1_1) ?_
  have hk1 : ¬ ((5 : Int32) = (1 : Int32)) := (by decide)
  refine own_step (fun t k => XS.icmpYes X0.here hx rfl (pc0 := 2) (pc' := 13) rfl (hb hby d1_2) rfl ((feq hk1).2) (by decide) (by decide) k) ?_
  show own_G p.tables e below _ (s₁.setTop (mkF m 13 #[iv 5, .val (.long wt0), .second, .val (.long wt1), .second, .val (.long wt2), .second, .val (.long wt3), .second, .val (.long wt4), .second] []))
  refine own_il X0.here hx rfl (hb hby d1_13) rfl ?_
  refine own_ic X0.here hx rfl (hb hby d1_14) ?_
  have hk2 : ¬ ((5 : Int32) = (2 : Int32)) := (by decide)
  refine own_step (fun t k => XS.icmpYes X0.here hx rfl (pc0 := 15) (pc' := 30) rfl (hb hby d1_15) rfl ((feq hk2).2) (by decide) (by decide) k) ?_
  show own_G p.tables e below _ (s₁.setTop (mkF m 30 #[iv 5, .val (.long wt0), .second, .val (.long wt1), .second, .val (.long wt2), .second, .val (.long wt3), .second, .val (.long wt4), .second] []))
  refine own_il X0.here hx rfl (hb hby d1_30) rfl ?_
  refine own_ic X0.here hx rfl (hb hby d1_31) ?_
  have hk3 : ¬ ((5 : Int32) = (3 : Int32)) := (by decide)
  refine own_step (fun t k => XS.icmpYes X0.here hx rfl (pc0 := 32) (pc' := 52) rfl (hb hby d1_32) rfl ((feq hk3).2) (by decide) (by decide) k) ?_
  show own_G p.tables e below _ (s₁.setTop (mkF m 52 #[iv 5, .val (.long wt0), .second, .val (.long wt1), .second, .val (.long wt2), .second, .val (.long wt3), .second, .val (.long wt4), .second] []))
  refine own_il X0.here hx rfl (hb hby d1_52) rfl ?_
  refine own_ic X0.here hx rfl (hb hby d1_53) ?_
  have hk4 : ¬ ((5 : Int32) = (4 : Int32)) := (by decide)
  refine own_step (fun t k => XS.icmpYes X0.here hx rfl (pc0 := 54) (pc' := 79) rfl (hb hby d1_54) rfl ((feq hk4).2) (by decide) (by decide) k) ?_
  show own_G p.tables e below _ (s₁.setTop (mkF m 79 #[iv 5, .val (.long wt0), .second, .val (.long wt1), .second, .val (.long wt2), .second, .val (.long wt3), .second, .val (.long wt4), .second] []))
  refine own_ic X0.here hx rfl (hb hby d1_79) ?_
  obtain ⟨T5, h5, k5, X5, e5, E5, A5, st5⟩ := newP X0 hx hZ (own_w hw 5 rfl) e0 (g := (mkF m 80 #[iv 5, .val (.long wt0), .second, .val (.long wt1), .second, .val (.long wt2), .second, .val (.long wt3), .second, .val (.long wt4), .second] [(.int 5)])) rfl (hb hby d1_80) rfl (by decide) (cap := 5) (by decide) (by decide) (by decide) (by decide)
  obtain ⟨b5, g5⟩ : ∃ z, z = h0.size := ⟨_, rfl⟩
  have sz5 : h0.size ≤ b5 := Nat.le_trans (Keep.refl h0 []).1 (Nat.le_of_eq g5.symm)
  have ge5 : n0 ≤ b5 := Nat.le_trans Z0 sz5
  have K5 : Keep h0 h5 [] := (Keep.refl h0 []).ext E5
  rw [← g5] at A5 st5
  have c6 : own_Arj Z h5 b5 [0, 0, 0, 0, 0] := own_Arj_new A5 (by decide)
  refine own_step st5 ?_
  refine own_step (fun t k => XS.dup X5.here hx rfl (hb hby d1_82) rfl rfl k) ?_
  refine own_ic X5.here hx rfl (hb hby d1_83) ?_
  refine own_step (fun t k => XS.lloadN X5.here hx rfl (hb hby d1_84) rfl k) ?_
  obtain ⟨T7, h7, X7, e7, W7, c7, st7⟩ := own_lastore X5 hx hZ e5 c6 (own_inb (by decide) (Nat.le_of_ble_eq_true rfl)) (g := (mkF m 85 #[iv 5, .val (.long wt0), .second, .val (.long wt1), .second, .val (.long wt2), .second, .val (.long wt3), .second, .val (.long wt4), .second] [(.long wt0), (.int 0), (.ref b5), (.ref b5)])) rfl rfl (hb hby d1_85)
  have N7 := Fr.snoc X7 N0 ge5
  have c8 : own_Arj Z h7 b5 [wt0, 0, 0, 0, 0] := c7
  have K7 : Keep h0 h7 [] := K5.wr W7 (Or.inr sz5)
  refine own_step st7 ?_
  refine own_step (fun t k => XS.dup X7.here hx rfl (hb hby d1_86) rfl rfl k) ?_
  clear A5 E5 K5 W7 X5 c6 c7 e5 g5 hk1 hk2 hk3 hk4 st5 st7
  show own_G p.tables e below _ (T7.setTop (mkF m 87 #[iv 5, .val (.long wt0), .second, .val (.long wt1), .second, .val (.long wt2), .second, .val (.long wt3), .second, .val (.long wt4), .second] [(.ref b5), (.ref b5)]))
  refine own_ic X7.here hx rfl (hb hby d1_87) ?_
  refine own_step (fun t k => XS.lloadN X7.here hx rfl (hb hby d1_88) rfl k) ?_
  obtain ⟨T10, h10, X10, e10, W10, c10, st10⟩ := own_lastore X7 hx hZ e7 c8 (own_inb (by decide) (Nat.le_of_ble_eq_true rfl)) (g := (mkF m 89 #[iv 5, .val (.long wt0), .second, .val (.long wt1), .second, .val (.long wt2), .second, .val (.long wt3), .second, .val (.long wt4), .second] [(.long wt1), (.int 1), (.ref b5), (.ref b5)])) rfl rfl (hb hby d1_89)
  have N10 := Fr.snoc X10 N7 ge5
  have c11 : own_Arj Z h10 b5 [wt0, wt1, 0, 0, 0] := c10
  have K10 : Keep h0 h10 [] := K7.wr W10 (Or.inr sz5)
  refine own_step st10 ?_
  refine own_step (fun t k => XS.dup X10.here hx rfl (hb hby d1_90) rfl rfl k) ?_
  refine own_ic X10.here hx rfl (hb hby d1_91) ?_
  refine own_lx X10.here hx rfl (hb hby d1_92) rfl ?_
  obtain ⟨T13, h13, X13, e13, W13, c13, st13⟩ := own_lastore X10 hx hZ e10 c11 (own_inb (by decide) (Nat.le_of_ble_eq_true rfl)) (g := (mkF m 94 #[iv 5, .val (.long wt0), .second, .val (.long wt1), .second, .val (.long wt2), .second, .val (.long wt3), .second, .val (.long wt4), .second] [(.long wt2), (.int 2), (.ref b5), (.ref b5)])) rfl rfl (hb hby d1_94)
  have N13 := Fr.snoc X13 N10 ge5
  have c14 : own_Arj Z h13 b5 [wt0, wt1, wt2, 0, 0] := c13
  have K13 : Keep h0 h13 [] := K10.wr W13 (Or.inr sz5)
  refine own_step st13 ?_
  clear K10 K7 N10 N7 W10 W13 X10 X7 c10 c11 c13 c8 e10 e7 st10 st13
  show own_G p.tables e below _ (T13.setTop (mkF m 95 #[iv 5, .val (.long wt0), .second, .val (.long wt1), .second, .val (.long wt2), .second, .val (.long wt3), .second, .val (.long wt4), .second] [(.ref b5)]))
  refine own_step (fun t k => XS.dup X13.here hx rfl (hb hby d1_95) rfl rfl k) ?_
  refine own_ic X13.here hx rfl (hb hby d1_96) ?_
  refine own_lx X13.here hx rfl (hb hby d1_97) rfl ?_
  obtain ⟨T16, h16, X16, e16, W16, c16, st16⟩ := own_lastore X13 hx hZ e13 c14 (own_inb (by decide) (Nat.le_of_ble_eq_true rfl)) (g := (mkF m 99 #[iv 5, .val (.long wt0), .second, .val (.long wt1), .second, .val (.long wt2), .second, .val (.long wt3), .second, .val (.long wt4), .second] [(.long wt3), (.int 3), (.ref b5), (.ref b5)])) rfl rfl (hb hby d1_99)
  have N16 := Fr.snoc X16 N13 ge5
  have c17 : own_Arj Z h16 b5 [wt0, wt1, wt2, wt3, 0] := c16
  have K16 : Keep h0 h16 [] := K13.wr W16 (Or.inr sz5)
  refine own_step st16 ?_
  refine own_step (fun t k => XS.dup X16.here hx rfl (hb hby d1_100) rfl rfl k) ?_
  refine own_ic X16.here hx rfl (hb hby d1_101) ?_
  refine own_lx X16.here hx rfl (hb hby d1_102) rfl ?_
  show own_G p.tables e below _ (T16.setTop (mkF m 104 #[iv 5, .val (.long wt0), .second, .val (.long wt1), .second, .val (.long wt2), .second, .val (.long wt3), .second, .val (.long wt4), .second] [(.long wt4), (.int 4), (.ref b5), (.ref b5)]))
  obtain ⟨T19, h19, X19, e19, W19, c19, st19⟩ := own_lastore X16 hx hZ e16 c17 (own_inb (by decide) (Nat.le_of_ble_eq_true rfl)) (g := (mkF m 104 #[iv 5, .val (.long wt0), .second, .val (.long wt1), .second, .val (.long wt2), .second, .val (.long wt3), .second, .val (.long wt4), .second] [(.long wt4), (.int 4), (.ref b5), (.ref b5)])) rfl rfl (hb hby d1_104)
  have N19 := Fr.snoc X19 N16 ge5
  have c20 : own_Arj Z h19 b5 [wt0, wt1, wt2, wt3, wt4] := c19
  have K19 : Keep h0 h19 [] := K16.wr W19 (Or.inr sz5)
  refine own_step st19 ?_
  obtain ⟨fs, hr, hrun, hended, hW, hsame⟩ := X19.leave (v := some (.ref b5)) (fun h => by rw [Bd.returns] at h; cases h)
  refine own_done (own_retA X19 hx Bd.returns (by decide) rfl (hb hby d1_105) hr) hrun hended ⟨_, _, rfl, ?_, ⟨_, rfl⟩, hW, hsame.mono (by decide) (by decide)⟩
  show Q1_n5 Z wt0 wt1 wt2 wt3 wt4 h0 n0 _ T19.heap _
  rw [e19]
  exact ⟨b5, rfl, N19, K19, c20, sz5⟩
theorem pn_5_n5 : plainName "com/example/leafcode/leafcode/FourWayHeap" = true := by first | (simp [plainName, overriddenIn]; done) | decide +kernel
theorem ef_5_n5 (m : MethodId) (wa : Addr) : entryFrame m #[(.ref wa)] 6 = mkF m 0 #[rv wa, .unset, .unset, .unset, .unset, .unset] [] := by first | (simp [entryFrame, mkF, argsToLocals, Value.category]; done) | rfl
def own_f5_n5 (wt0 : Int64) (wt1 : Int64) (wt2 : Int64) (wt3 : Int64) (wt4 : Int64) : Int32 :=
  (if (4294967294 : Int64) < wt0 then (0 : Int32) else (if (4294967294 : Int64) < wt1 then (0 : Int32) else (if (4294967294 : Int64) < wt2 then (0 : Int32) else (if (4294967294 : Int64) < wt3 then (0 : Int32) else (if (4294967294 : Int64) < wt4 then (0 : Int32) else (1 : Int32))))))
theorem own_f5z_n5 (wt0 wt1 wt2 wt3 wt4 : Int64) : own_f5_n5 wt0 wt1 wt2 wt3 wt4 = 1 ∨ own_f5_n5 wt0 wt1 wt2 wt3 wt4 = 0 := by
  unfold own_f5_n5
  repeat' split
  all_goals first | exact Or.inl rfl | exact Or.inr rfl
theorem own_f5b_n5 {wt0 wt1 wt2 wt3 wt4 : Int64} (h : own_f5_n5 wt0 wt1 wt2 wt3 wt4 = 1) : wt0.toInt ≤ 4294967294 ∧ wt1.toInt ≤ 4294967294 ∧ wt2.toInt ≤ 4294967294 ∧ wt3.toInt ≤ 4294967294 ∧ wt4.toInt ≤ 4294967294 := by
  unfold own_f5_n5 at h
  repeat' split at h
  all_goals first | (cases h; done) | (simp only [Int64.lt_iff_toInt_lt, show (4294967294 : Int64).toInt = 4294967294 from by decide] at *; omega)
def Q5_n5 (Z : State) (wa : Addr) (wt0 : Int64) (wt1 : Int64) (wt2 : Int64) (wt3 : Int64) (wt4 : Int64) (h0 : Heap) (n0 : Nat) (v : Option Value) (h : Heap) (L : List Loc) : Prop := v = some (.int (own_f5_n5 wt0 wt1 wt2 wt3 wt4)) ∧ Fr n0 L ∧ h = h0
set_option maxRecDepth 65536 in
set_option maxHeartbeats 40000000 in
theorem rm5_n5 (l : Launch) (Z : State) (a0 : Array Value) (hw : ∀ d ∈ tables_1, d.before a0 Z = true) (ws : List Jvm.Cond) (wa : Addr) (wt0 : Int64) (wt1 : Int64) (wt2 : Int64) (wt3 : Int64) (wt4 : Int64) (h0 : Heap) (n0 : Nat) (Z0 : n0 ≤ h0.size) (fp0 : own_Arj Z h0 wa [wt0, wt1, wt2, wt3, wt4]) :
    MetFree l (⟨"com/example/leafcode/leafcode/FourWayHeap", "packable", "([J)Z"⟩ : MethodName) (head1 (Jvm.Cond.code (⟨"com/example/leafcode/leafcode/FourWayHeap", "packable", "([J)Z"⟩ : MethodName) prog_20_method_2_code 6 (some .boolean) :: ws) ({ frames := 0, cells := 0, slots := 0, locals := 0 } : Room)) (fun a U => a = #[(.ref wa)] ∧ Z.Warmed39 U.vm ∧ U.heap = h0) (fun _ _ _ _ _ => True) (fun _ U o U' => ∃ v L, o = .returned v ∧ Q5_n5 Z wa wt0 wt1 wt2 wt3 wt4 h0 n0 v U'.heap L ∧ FrameEnd U o U' L ({ frames := 0, cells := 0, slots := 0, locals := 0 } : Room).cells ({ frames := 0, cells := 0, slots := 0, locals := 0 } : Room).slots) := by
  refine MetFree.of_bodySF (plainFor_of_name pn_5_n5) hisR ?_
  intro p e s m args below meth c s₁ Bd hml0 hP hK
  obtain ⟨rfl, hZ, hh⟩ := hP
  have hx := Bd.exec
  have hby := Bd.bytes
  have hml : c.maxLocals = 6 := hml0
  have hown : s.vm.findClass "com/example/leafcode/leafcode/FourWayHeap" = some m.cls := findClass_of_methodNamed Bd.named
  have hnm := (name_of_methodNamed Bd.named Bd.method).1
  have X0 : Stand p l e ({ frames := 0, cells := 0, slots := 0, locals := 0 } : Room) s m #[(.ref wa)] below meth c s₁ [] 0 0 := Stand.of_body Bd
  have e0 : s₁.heap = h0 := by rw [← hh, Bd.state]; rfl
  have N0 := Fr.nil n0
  refine own_start (fun t k => castTop (ef_5_n5 m wa) k) ?_
  show own_G p.tables e below _ (s₁.setTop (mkF m 0 #[rv wa, .unset, .unset, .unset, .unset, .unset] []))
  refine own_al X0.here hx rfl (hb hby d5_0) rfl rfl ?_
  refine own_step (fun t k => XS.astoreN X0.here hx rfl (hb hby d5_1) rfl rfl (l' := #[rv wa, rv wa, .unset, .unset, .unset, .unset]) rfl k) ?_
  refine own_al X0.here hx rfl (hb hby d5_2) rfl rfl ?_
  refine own_step (own_lenJ X0 hx hZ e0 fp0 (g := (mkF m 3 #[rv wa, rv wa, .unset, .unset, .unset, .unset] [(.ref wa)])) rfl rfl (hb hby d5_3)) ?_
  refine own_step (fun t k => XS.istoreN X0.here hx rfl (hb hby d5_4) rfl (l' := #[rv wa, rv wa, iv 5, .unset, .unset, .unset]) rfl k) ?_
  refine own_ic X0.here hx rfl (hb hby d5_5) ?_
  refine own_step (fun t k => XS.istoreN X0.here hx rfl (hb hby d5_6) rfl (l' := #[rv wa, rv wa, iv 5, iv 0, .unset, .unset]) rfl k) ?_
  show own_G p.tables e below _ (s₁.setTop (mkF m 7 #[rv wa, rv wa, iv 5, iv 0, .unset, .unset] []))
  refine own_il X0.here hx rfl (hb hby d5_7) rfl ?_
  refine own_il X0.here hx rfl (hb hby d5_8) rfl ?_
  have hk1 : (0 : Int32) < (5 : Int32) := (by decide)
  refine own_step (fun t k => XS.icmpNo X0.here hx rfl (hb hby d5_9) rfl ((tlt hk1).2.1) k) ?_
  show own_G p.tables e below _ (s₁.setTop (mkF m 12 #[rv wa, rv wa, iv 5, iv 0, .unset, .unset] []))
  refine own_al X0.here hx rfl (hb hby d5_12) rfl rfl ?_
  refine own_il X0.here hx rfl (hb hby d5_13) rfl ?_
  refine own_step (own_laload X0 hx hZ e0 fp0 (own_inb (by decide) (Nat.le_of_ble_eq_true rfl)) (g := (mkF m 14 #[rv wa, rv wa, iv 5, iv 0, .unset, .unset] [(.int 0), (.ref wa)])) rfl rfl (hb hby d5_14)) ?_
  refine own_step (fun t k => XS.lstore X0.here hx rfl (hb hby d5_15) rfl (l' := #[rv wa, rv wa, iv 5, iv 0, .val (.long wt0), .second]) rfl k) ?_
  refine own_lx X0.here hx rfl (hb hby d5_17) rfl ?_
  refine own_step (X0.ldc2Long hx hown (mvT hZ (own_w hw 26 rfl)) (g := (mkF m 19 #[rv wa, rv wa, iv 5, iv 0, .val (.long wt0), .second] [(.long wt0)])) rfl (hb hby d5_19)) ?_
  refine own_step (fun t k => XS.lcmp X0.here hx rfl (hb hby d5_22) rfl k) ?_
  show own_G p.tables e below _ (s₁.setTop (mkF m 23 #[rv wa, rv wa, iv 5, iv 0, .val (.long wt0), .second] [(.int (lcmpW wt0 (4294967294 : Int64)))]))
  by_cases hc2 : (4294967294 : Int64) < wt0
  · skip
    refine own_step (fun t k => XS.ifNo X0.here hx rfl (hb hby d5_23) rfl ((if0 _ _).trans (tlt ((lw_gt _ _).mpr hc2)).2.2.2) k) ?_
    show own_G p.tables e below _ (s₁.setTop (mkF m 26 #[rv wa, rv wa, iv 5, iv 0, .val (.long wt0), .second] []))
    refine own_ic X0.here hx rfl (hb hby d5_26) ?_
    obtain ⟨fs, hr, hrun, hended, hW, hsame⟩ := X0.leave (v := some (.int (0 : Int32))) (fun h => by rw [Bd.returns] at h; cases h)
    refine own_done (retN X0 hx (t := .boolean) Bd.returns (by simp) (hb hby d5_27) hr) hrun hended ⟨_, _, rfl, ?_, ⟨_, rfl⟩, hW, hsame.mono (by decide) (by decide)⟩
    show Q5_n5 Z wa wt0 wt1 wt2 wt3 wt4 h0 n0 _ s₁.heap _
    rw [e0]
    exact ⟨congrArg (fun z => some (Value.int z)) (show (0 : Int32) = (own_f5_n5 wt0 wt1 wt2 wt3 wt4) from by unfold own_f5_n5; simp only [if_pos hc2]), N0, rfl⟩
  · skip
    refine own_step (fun t k => XS.ifYes X0.here hx rfl (pc0 := 23) (pc' := 28) rfl (hb hby d5_23) rfl ((if0 _ _).trans (flt (fun q => hc2 ((lw_gt _ _).mp q))).2.2.2) (by decide) (by decide) k) ?_
    show own_G p.tables e below _ (s₁.setTop (mkF m 28 #[rv wa, rv wa, iv 5, iv 0, .val (.long wt0), .second] []))
    refine own_step (fun t k => XS.iinc X0.here hx rfl (hb hby d5_28) rfl (l' := #[rv wa, rv wa, iv 5, iv 1, .val (.long wt0), .second]) rfl k) ?_
    refine own_go X0.here hx rfl (pc0 := 31) (pc' := 7) rfl (hb hby d5_31) (by decide) (by decide) ?_
    refine own_il X0.here hx rfl (hb hby d5_7) rfl ?_
    refine own_il X0.here hx rfl (hb hby d5_8) rfl ?_
    have hk3 : (1 : Int32) < (5 : Int32) := (by decide)
    refine own_step (fun t k => XS.icmpNo X0.here hx rfl (hb hby d5_9) rfl ((tlt hk3).2.1) k) ?_
    show own_G p.tables e below _ (s₁.setTop (mkF m 12 #[rv wa, rv wa, iv 5, iv 1, .val (.long wt0), .second] []))
    refine own_al X0.here hx rfl (hb hby d5_12) rfl rfl ?_
    refine own_il X0.here hx rfl (hb hby d5_13) rfl ?_
    refine own_step (own_laload X0 hx hZ e0 fp0 (own_inb (by decide) (Nat.le_of_ble_eq_true rfl)) (g := (mkF m 14 #[rv wa, rv wa, iv 5, iv 1, .val (.long wt0), .second] [(.int 1), (.ref wa)])) rfl rfl (hb hby d5_14)) ?_
    refine own_step (fun t k => XS.lstore X0.here hx rfl (hb hby d5_15) rfl (l' := #[rv wa, rv wa, iv 5, iv 1, .val (.long wt1), .second]) rfl k) ?_
    refine own_lx X0.here hx rfl (hb hby d5_17) rfl ?_
    refine own_step (X0.ldc2Long hx hown (mvT hZ (own_w hw 26 rfl)) (g := (mkF m 19 #[rv wa, rv wa, iv 5, iv 1, .val (.long wt1), .second] [(.long wt1)])) rfl (hb hby d5_19)) ?_
    refine own_step (fun t k => XS.lcmp X0.here hx rfl (hb hby d5_22) rfl k) ?_
    show own_G p.tables e below _ (s₁.setTop (mkF m 23 #[rv wa, rv wa, iv 5, iv 1, .val (.long wt1), .second] [(.int (lcmpW wt1 (4294967294 : Int64)))]))
    by_cases hc4 : (4294967294 : Int64) < wt1
    · skip
      refine own_step (fun t k => XS.ifNo X0.here hx rfl (hb hby d5_23) rfl ((if0 _ _).trans (tlt ((lw_gt _ _).mpr hc4)).2.2.2) k) ?_
      show own_G p.tables e below _ (s₁.setTop (mkF m 26 #[rv wa, rv wa, iv 5, iv 1, .val (.long wt1), .second] []))
      refine own_ic X0.here hx rfl (hb hby d5_26) ?_
      obtain ⟨fs, hr, hrun, hended, hW, hsame⟩ := X0.leave (v := some (.int (0 : Int32))) (fun h => by rw [Bd.returns] at h; cases h)
      refine own_done (retN X0 hx (t := .boolean) Bd.returns (by simp) (hb hby d5_27) hr) hrun hended ⟨_, _, rfl, ?_, ⟨_, rfl⟩, hW, hsame.mono (by decide) (by decide)⟩
      show Q5_n5 Z wa wt0 wt1 wt2 wt3 wt4 h0 n0 _ s₁.heap _
      rw [e0]
      exact ⟨congrArg (fun z => some (Value.int z)) (show (0 : Int32) = (own_f5_n5 wt0 wt1 wt2 wt3 wt4) from by unfold own_f5_n5; simp only [if_neg hc2, if_pos hc4]), N0, rfl⟩
    · skip
      refine own_step (fun t k => XS.ifYes X0.here hx rfl (pc0 := 23) (pc' := 28) rfl (hb hby d5_23) rfl ((if0 _ _).trans (flt (fun q => hc4 ((lw_gt _ _).mp q))).2.2.2) (by decide) (by decide) k) ?_
      show own_G p.tables e below _ (s₁.setTop (mkF m 28 #[rv wa, rv wa, iv 5, iv 1, .val (.long wt1), .second] []))
      refine own_step (fun t k => XS.iinc X0.here hx rfl (hb hby d5_28) rfl (l' := #[rv wa, rv wa, iv 5, iv 2, .val (.long wt1), .second]) rfl k) ?_
      refine own_go X0.here hx rfl (pc0 := 31) (pc' := 7) rfl (hb hby d5_31) (by decide) (by decide) ?_
      refine own_il X0.here hx rfl (hb hby d5_7) rfl ?_
      refine own_il X0.here hx rfl (hb hby d5_8) rfl ?_
      have hk5 : (2 : Int32) < (5 : Int32) := (by decide)
      refine own_step (fun t k => XS.icmpNo X0.here hx rfl (hb hby d5_9) rfl ((tlt hk5).2.1) k) ?_
      show own_G p.tables e below _ (s₁.setTop (mkF m 12 #[rv wa, rv wa, iv 5, iv 2, .val (.long wt1), .second] []))
      refine own_al X0.here hx rfl (hb hby d5_12) rfl rfl ?_
      refine own_il X0.here hx rfl (hb hby d5_13) rfl ?_
      refine own_step (own_laload X0 hx hZ e0 fp0 (own_inb (by decide) (Nat.le_of_ble_eq_true rfl)) (g := (mkF m 14 #[rv wa, rv wa, iv 5, iv 2, .val (.long wt1), .second] [(.int 2), (.ref wa)])) rfl rfl (hb hby d5_14)) ?_
      refine own_step (fun t k => XS.lstore X0.here hx rfl (hb hby d5_15) rfl (l' := #[rv wa, rv wa, iv 5, iv 2, .val (.long wt2), .second]) rfl k) ?_
      refine own_lx X0.here hx rfl (hb hby d5_17) rfl ?_
      refine own_step (X0.ldc2Long hx hown (mvT hZ (own_w hw 26 rfl)) (g := (mkF m 19 #[rv wa, rv wa, iv 5, iv 2, .val (.long wt2), .second] [(.long wt2)])) rfl (hb hby d5_19)) ?_
      refine own_step (fun t k => XS.lcmp X0.here hx rfl (hb hby d5_22) rfl k) ?_
      show own_G p.tables e below _ (s₁.setTop (mkF m 23 #[rv wa, rv wa, iv 5, iv 2, .val (.long wt2), .second] [(.int (lcmpW wt2 (4294967294 : Int64)))]))
      by_cases hc6 : (4294967294 : Int64) < wt2
      · skip
        refine own_step (fun t k => XS.ifNo X0.here hx rfl (hb hby d5_23) rfl ((if0 _ _).trans (tlt ((lw_gt _ _).mpr hc6)).2.2.2) k) ?_
        show own_G p.tables e below _ (s₁.setTop (mkF m 26 #[rv wa, rv wa, iv 5, iv 2, .val (.long wt2), .second] []))
        refine own_ic X0.here hx rfl (hb hby d5_26) ?_
        obtain ⟨fs, hr, hrun, hended, hW, hsame⟩ := X0.leave (v := some (.int (0 : Int32))) (fun h => by rw [Bd.returns] at h; cases h)
        refine own_done (retN X0 hx (t := .boolean) Bd.returns (by simp) (hb hby d5_27) hr) hrun hended ⟨_, _, rfl, ?_, ⟨_, rfl⟩, hW, hsame.mono (by decide) (by decide)⟩
        show Q5_n5 Z wa wt0 wt1 wt2 wt3 wt4 h0 n0 _ s₁.heap _
        rw [e0]
        exact ⟨congrArg (fun z => some (Value.int z)) (show (0 : Int32) = (own_f5_n5 wt0 wt1 wt2 wt3 wt4) from by unfold own_f5_n5; simp only [if_neg hc2, if_neg hc4, if_pos hc6]), N0, rfl⟩
      · skip
        refine own_step (fun t k => XS.ifYes X0.here hx rfl (pc0 := 23) (pc' := 28) rfl (hb hby d5_23) rfl ((if0 _ _).trans (flt (fun q => hc6 ((lw_gt _ _).mp q))).2.2.2) (by decide) (by decide) k) ?_
        show own_G p.tables e below _ (s₁.setTop (mkF m 28 #[rv wa, rv wa, iv 5, iv 2, .val (.long wt2), .second] []))
        refine own_step (fun t k => XS.iinc X0.here hx rfl (hb hby d5_28) rfl (l' := #[rv wa, rv wa, iv 5, iv 3, .val (.long wt2), .second]) rfl k) ?_
        refine own_go X0.here hx rfl (pc0 := 31) (pc' := 7) rfl (hb hby d5_31) (by decide) (by decide) ?_
        refine own_il X0.here hx rfl (hb hby d5_7) rfl ?_
        refine own_il X0.here hx rfl (hb hby d5_8) rfl ?_
        have hk7 : (3 : Int32) < (5 : Int32) := (by decide)
        refine own_step (fun t k => XS.icmpNo X0.here hx rfl (hb hby d5_9) rfl ((tlt hk7).2.1) k) ?_
        show own_G p.tables e below _ (s₁.setTop (mkF m 12 #[rv wa, rv wa, iv 5, iv 3, .val (.long wt2), .second] []))
        refine own_al X0.here hx rfl (hb hby d5_12) rfl rfl ?_
        refine own_il X0.here hx rfl (hb hby d5_13) rfl ?_
        refine own_step (own_laload X0 hx hZ e0 fp0 (own_inb (by decide) (Nat.le_of_ble_eq_true rfl)) (g := (mkF m 14 #[rv wa, rv wa, iv 5, iv 3, .val (.long wt2), .second] [(.int 3), (.ref wa)])) rfl rfl (hb hby d5_14)) ?_
        refine own_step (fun t k => XS.lstore X0.here hx rfl (hb hby d5_15) rfl (l' := #[rv wa, rv wa, iv 5, iv 3, .val (.long wt3), .second]) rfl k) ?_
        refine own_lx X0.here hx rfl (hb hby d5_17) rfl ?_
        refine own_step (X0.ldc2Long hx hown (mvT hZ (own_w hw 26 rfl)) (g := (mkF m 19 #[rv wa, rv wa, iv 5, iv 3, .val (.long wt3), .second] [(.long wt3)])) rfl (hb hby d5_19)) ?_
        refine own_step (fun t k => XS.lcmp X0.here hx rfl (hb hby d5_22) rfl k) ?_
        show own_G p.tables e below _ (s₁.setTop (mkF m 23 #[rv wa, rv wa, iv 5, iv 3, .val (.long wt3), .second] [(.int (lcmpW wt3 (4294967294 : Int64)))]))
        by_cases hc8 : (4294967294 : Int64) < wt3
        · skip
          refine own_step (fun t k => XS.ifNo X0.here hx rfl (hb hby d5_23) rfl ((if0 _ _).trans (tlt ((lw_gt _ _).mpr hc8)).2.2.2) k) ?_
          show own_G p.tables e below _ (s₁.setTop (mkF m 26 #[rv wa, rv wa, iv 5, iv 3, .val (.long wt3), .second] []))
          refine own_ic X0.here hx rfl (hb hby d5_26) ?_
          obtain ⟨fs, hr, hrun, hended, hW, hsame⟩ := X0.leave (v := some (.int (0 : Int32))) (fun h => by rw [Bd.returns] at h; cases h)
          refine own_done (retN X0 hx (t := .boolean) Bd.returns (by simp) (hb hby d5_27) hr) hrun hended ⟨_, _, rfl, ?_, ⟨_, rfl⟩, hW, hsame.mono (by decide) (by decide)⟩
          show Q5_n5 Z wa wt0 wt1 wt2 wt3 wt4 h0 n0 _ s₁.heap _
          rw [e0]
          exact ⟨congrArg (fun z => some (Value.int z)) (show (0 : Int32) = (own_f5_n5 wt0 wt1 wt2 wt3 wt4) from by unfold own_f5_n5; simp only [if_neg hc2, if_neg hc4, if_neg hc6, if_pos hc8]), N0, rfl⟩
        · skip
          refine own_step (fun t k => XS.ifYes X0.here hx rfl (pc0 := 23) (pc' := 28) rfl (hb hby d5_23) rfl ((if0 _ _).trans (flt (fun q => hc8 ((lw_gt _ _).mp q))).2.2.2) (by decide) (by decide) k) ?_
          show own_G p.tables e below _ (s₁.setTop (mkF m 28 #[rv wa, rv wa, iv 5, iv 3, .val (.long wt3), .second] []))
          refine own_step (fun t k => XS.iinc X0.here hx rfl (hb hby d5_28) rfl (l' := #[rv wa, rv wa, iv 5, iv 4, .val (.long wt3), .second]) rfl k) ?_
          refine own_go X0.here hx rfl (pc0 := 31) (pc' := 7) rfl (hb hby d5_31) (by decide) (by decide) ?_
          refine own_il X0.here hx rfl (hb hby d5_7) rfl ?_
          refine own_il X0.here hx rfl (hb hby d5_8) rfl ?_
          have hk9 : (4 : Int32) < (5 : Int32) := (by decide)
          refine own_step (fun t k => XS.icmpNo X0.here hx rfl (hb hby d5_9) rfl ((tlt hk9).2.1) k) ?_
          show own_G p.tables e below _ (s₁.setTop (mkF m 12 #[rv wa, rv wa, iv 5, iv 4, .val (.long wt3), .second] []))
          refine own_al X0.here hx rfl (hb hby d5_12) rfl rfl ?_
          refine own_il X0.here hx rfl (hb hby d5_13) rfl ?_
          refine own_step (own_laload X0 hx hZ e0 fp0 (own_inb (by decide) (Nat.le_of_ble_eq_true rfl)) (g := (mkF m 14 #[rv wa, rv wa, iv 5, iv 4, .val (.long wt3), .second] [(.int 4), (.ref wa)])) rfl rfl (hb hby d5_14)) ?_
          refine own_step (fun t k => XS.lstore X0.here hx rfl (hb hby d5_15) rfl (l' := #[rv wa, rv wa, iv 5, iv 4, .val (.long wt4), .second]) rfl k) ?_
          refine own_lx X0.here hx rfl (hb hby d5_17) rfl ?_
          refine own_step (X0.ldc2Long hx hown (mvT hZ (own_w hw 26 rfl)) (g := (mkF m 19 #[rv wa, rv wa, iv 5, iv 4, .val (.long wt4), .second] [(.long wt4)])) rfl (hb hby d5_19)) ?_
          refine own_step (fun t k => XS.lcmp X0.here hx rfl (hb hby d5_22) rfl k) ?_
          show own_G p.tables e below _ (s₁.setTop (mkF m 23 #[rv wa, rv wa, iv 5, iv 4, .val (.long wt4), .second] [(.int (lcmpW wt4 (4294967294 : Int64)))]))
          by_cases hc10 : (4294967294 : Int64) < wt4
          · skip
            refine own_step (fun t k => XS.ifNo X0.here hx rfl (hb hby d5_23) rfl ((if0 _ _).trans (tlt ((lw_gt _ _).mpr hc10)).2.2.2) k) ?_
            show own_G p.tables e below _ (s₁.setTop (mkF m 26 #[rv wa, rv wa, iv 5, iv 4, .val (.long wt4), .second] []))
            refine own_ic X0.here hx rfl (hb hby d5_26) ?_
            obtain ⟨fs, hr, hrun, hended, hW, hsame⟩ := X0.leave (v := some (.int (0 : Int32))) (fun h => by rw [Bd.returns] at h; cases h)
            refine own_done (retN X0 hx (t := .boolean) Bd.returns (by simp) (hb hby d5_27) hr) hrun hended ⟨_, _, rfl, ?_, ⟨_, rfl⟩, hW, hsame.mono (by decide) (by decide)⟩
            show Q5_n5 Z wa wt0 wt1 wt2 wt3 wt4 h0 n0 _ s₁.heap _
            rw [e0]
            exact ⟨congrArg (fun z => some (Value.int z)) (show (0 : Int32) = (own_f5_n5 wt0 wt1 wt2 wt3 wt4) from by unfold own_f5_n5; simp only [if_neg hc2, if_neg hc4, if_neg hc6, if_neg hc8, if_pos hc10]), N0, rfl⟩
          · skip
            refine own_step (fun t k => XS.ifYes X0.here hx rfl (pc0 := 23) (pc' := 28) rfl (hb hby d5_23) rfl ((if0 _ _).trans (flt (fun q => hc10 ((lw_gt _ _).mp q))).2.2.2) (by decide) (by decide) k) ?_
            show own_G p.tables e below _ (s₁.setTop (mkF m 28 #[rv wa, rv wa, iv 5, iv 4, .val (.long wt4), .second] []))
            refine own_step (fun t k => XS.iinc X0.here hx rfl (hb hby d5_28) rfl (l' := #[rv wa, rv wa, iv 5, iv 5, .val (.long wt4), .second]) rfl k) ?_
            refine own_go X0.here hx rfl (pc0 := 31) (pc' := 7) rfl (hb hby d5_31) (by decide) (by decide) ?_
            refine own_il X0.here hx rfl (hb hby d5_7) rfl ?_
            refine own_il X0.here hx rfl (hb hby d5_8) rfl ?_
            have hk11 : ¬ ((5 : Int32) < (5 : Int32)) := (by decide)
            refine own_step (fun t k => XS.icmpYes X0.here hx rfl (pc0 := 9) (pc' := 34) rfl (hb hby d5_9) rfl ((flt hk11).2.1) (by decide) (by decide) k) ?_
            show own_G p.tables e below _ (s₁.setTop (mkF m 34 #[rv wa, rv wa, iv 5, iv 5, .val (.long wt4), .second] []))
            refine own_ic X0.here hx rfl (hb hby d5_34) ?_
            obtain ⟨fs, hr, hrun, hended, hW, hsame⟩ := X0.leave (v := some (.int (1 : Int32))) (fun h => by rw [Bd.returns] at h; cases h)
            refine own_done (retN X0 hx (t := .boolean) Bd.returns (by simp) (hb hby d5_35) hr) hrun hended ⟨_, _, rfl, ?_, ⟨_, rfl⟩, hW, hsame.mono (by decide) (by decide)⟩
            show Q5_n5 Z wa wt0 wt1 wt2 wt3 wt4 h0 n0 _ s₁.heap _
            rw [e0]
            exact ⟨congrArg (fun z => some (Value.int z)) (show (1 : Int32) = (own_f5_n5 wt0 wt1 wt2 wt3 wt4) from by unfold own_f5_n5; simp only [if_neg hc2, if_neg hc4, if_neg hc6, if_neg hc8, if_neg hc10]), N0, rfl⟩
theorem pn_7_n5 : plainName "java/util/Arrays" = true := by first | (simp [plainName, overriddenIn]; done) | decide +kernel
theorem pd_7_n5_0 : parseMethodDescriptor "(III)V" = some ⟨[.int, .int, .int], none⟩ := by decide +kernel
theorem ef_7_n5 (m : MethodId) (ar : Addr) (vv : Int64) : entryFrame m #[(.ref ar), (.int (8 : Int32)), (.int (11 : Int32)), (.long vv)] 6 = mkF m 0 #[rv ar, iv (8 : Int32), iv (11 : Int32), .val (.long vv), .second, .unset] [] := by first | (simp [entryFrame, mkF, argsToLocals, Value.category]; done) | rfl
def Q7_n5 (Z : State) (ar : Addr) (vv : Int64) (kk0 : Int64) (kk1 : Int64) (kk2 : Int64) (kk3 : Int64) (kk4 : Int64) (kk5 : Int64) (kk6 : Int64) (kk7 : Int64) (kk8 : Int64) (kk9 : Int64) (kk10 : Int64) (h0 : Heap) (n0 : Nat) (v : Option Value) (h : Heap) (L : List Loc) : Prop := v = none ∧ Fr n0 L ∧ Keep h0 h [ar] ∧ own_Arj Z h ar [kk0, kk1, kk2, kk3, kk4, kk5, kk6, kk7, vv, vv, vv]
set_option maxRecDepth 65536 in
set_option maxHeartbeats 40000000 in
theorem rm7_n5 (l : Launch) (Z : State) (a0 : Array Value) (hw : ∀ d ∈ tables_1, d.before a0 Z = true) (ws : List Jvm.Cond) (ar : Addr) (vv : Int64) (kk0 : Int64) (kk1 : Int64) (kk2 : Int64) (kk3 : Int64) (kk4 : Int64) (kk5 : Int64) (kk6 : Int64) (kk7 : Int64) (kk8 : Int64) (kk9 : Int64) (kk10 : Int64) (h0 : Heap) (n0 : Nat) (Z0 : n0 ≤ h0.size) (fp0 : own_Arj Z h0 ar [kk0, kk1, kk2, kk3, kk4, kk5, kk6, kk7, kk8, kk9, kk10]) (g_ar : n0 ≤ ar) :
    MetFree l (⟨"java/util/Arrays", "fill", "([JIIJ)V"⟩ : MethodName) (head1 (Jvm.Cond.code (⟨"java/util/Arrays", "fill", "([JIIJ)V"⟩ : MethodName) jdk_65_method_102_code 6 none :: ws) ({ frames := 1, cells := 0, slots := 0, locals := 14 } : Room)) (fun a U => a = #[(.ref ar), (.int (8 : Int32)), (.int (11 : Int32)), (.long vv)] ∧ Z.Warmed39 U.vm ∧ U.heap = h0) (fun _ _ _ _ _ => True) (fun _ U o U' => ∃ v L, o = .returned v ∧ Q7_n5 Z ar vv kk0 kk1 kk2 kk3 kk4 kk5 kk6 kk7 kk8 kk9 kk10 h0 n0 v U'.heap L ∧ FrameEnd U o U' L ({ frames := 1, cells := 0, slots := 0, locals := 14 } : Room).cells ({ frames := 1, cells := 0, slots := 0, locals := 14 } : Room).slots) := by
  refine MetFree.of_bodySF (plainFor_of_name pn_7_n5) hisR ?_
  intro p e s m args below meth c s₁ Bd hml0 hP hK
  obtain ⟨rfl, hZ, hh⟩ := hP
  have hx := Bd.exec
  have hby := Bd.bytes
  have hml : c.maxLocals = 6 := hml0
  have hown : s.vm.findClass "java/util/Arrays" = some m.cls := findClass_of_methodNamed Bd.named
  have hnm := (name_of_methodNamed Bd.named Bd.method).1
  have X0 : Stand p l e ({ frames := 1, cells := 0, slots := 0, locals := 14 } : Room) s m #[(.ref ar), (.int (8 : Int32)), (.int (11 : Int32)), (.long vv)] below meth c s₁ [] 0 0 := Stand.of_body Bd
  have e0 : s₁.heap = h0 := by rw [← hh, Bd.state]; rfl
  have N0 := Fr.nil n0
  refine own_start (fun t k => castTop (ef_7_n5 m ar vv) k) ?_
  show own_G p.tables e below _ (s₁.setTop (mkF m 0 #[rv ar, iv 8, iv 11, .val (.long vv), .second, .unset] []))
  refine own_al X0.here hx rfl (hb hby d7_0) rfl rfl ?_
  refine own_step (own_lenJ X0 hx hZ e0 fp0 (g := (mkF m 1 #[rv ar, iv 8, iv 11, .val (.long vv), .second, .unset] [(.ref ar)])) rfl rfl (hb hby d7_1)) ?_
  refine own_il X0.here hx rfl (hb hby d7_2) rfl ?_
  refine own_il X0.here hx rfl (hb hby d7_3) rfl ?_
  obtain ⟨_, _, ⟨T1, L1, k1, n1⟩, -, X1, ⟨Lc1, hQ1, l1, y1, z1⟩, st1⟩ := Jvm.LawKit.callS X0 hx (y := own_y8) hown (mvT hZ (own_w hw 35 rfl)) (mvT hZ (own_w hw 36 rfl)) (mvT hZ (own_w hw 33 rfl)) (mvT hZ (own_w hw 37 rfl)) (by decide) (backOf (W := 0) (rm8 l Z a0 hw [] (11 : Int32) (8 : Int32) (11 : Int32) h0 n0 (Nat.le_trans Z0 (Keep.refl h0 [ar]).1) (by decide : ¬ (11 : Int32) < (8 : Int32)) (by decide : ¬ (8 : Int32) < (0 : Int32)) (by decide : ¬ (11 : Int32) < (11 : Int32))) hZ (own_w hw 37 rfl) (own_w hw 33 rfl) (by decide) (by decide)) (g := (mkF m 4 #[rv ar, iv 8, iv 11, .val (.long vv), .second, .unset] [(.int 11), (.int 8), (.int 11)])) rfl (by rw [hml]; rfl) (argsL := [(.int 11), (.int 8), (.int 11)]) (rest := []) (lenOf pd_7_n5_0 rfl) rfl (own_wl rfl) (hb hby d7_4) (fun _ _ => ⟨rfl, e0, (by decide : 0 + 0 ≤ _), (by decide : 0 + 0 ≤ _)⟩)
  dsimp only [Pt.U, Pt.locs, Pt.cells, Pt.slots] at X1 l1 y1 z1 st1 hQ1
  subst y1 z1
  obtain ⟨rfl, N1q, e1⟩ := hQ1
  have N1 : Fr n0 L1 := by rw [l1]; exact Fr.app N0 N1q
  refine own_step st1 ?_
  refine own_il X1.here hx rfl (hb hby d7_7) rfl ?_
  refine own_step (fun t k => XS.istore X1.here hx rfl (hb hby d7_8) rfl (l' := #[rv ar, iv 8, iv 11, .val (.long vv), .second, iv 8]) rfl k) ?_
  show own_G p.tables e below _ (T1.setTop (mkF m 10 #[rv ar, iv 8, iv 11, .val (.long vv), .second, iv 8] []))
  refine own_ix X1.here hx rfl (hb hby d7_10) rfl ?_
  refine own_il X1.here hx rfl (hb hby d7_12) rfl ?_
  have hk2 : (8 : Int32) < (11 : Int32) := (by decide)
  refine own_step (fun t k => XS.icmpNo X1.here hx rfl (hb hby d7_13) rfl ((tlt hk2).2.1) k) ?_
  show own_G p.tables e below _ (T1.setTop (mkF m 16 #[rv ar, iv 8, iv 11, .val (.long vv), .second, iv 8] []))
  refine own_al X1.here hx rfl (hb hby d7_16) rfl rfl ?_
  refine own_ix X1.here hx rfl (hb hby d7_17) rfl ?_
  refine own_step (fun t k => XS.lloadN X1.here hx rfl (hb hby d7_19) rfl k) ?_
  obtain ⟨T3, h3, X3, e3, W3, c3, st3⟩ := own_lastore X1 hx hZ e1 fp0 (own_inb (by decide) (Nat.le_of_ble_eq_true rfl)) (g := (mkF m 20 #[rv ar, iv 8, iv 11, .val (.long vv), .second, iv 8] [(.long vv), (.int 8), (.ref ar)])) rfl rfl (hb hby d7_20)
  have N3 := Fr.snoc X3 N1 g_ar
  have c4 : own_Arj Z h3 ar [kk0, kk1, kk2, kk3, kk4, kk5, kk6, kk7, vv, kk9, kk10] := c3
  have K3 : Keep h0 h3 [ar] := (Keep.refl h0 [ar]).wr W3 (Or.inl (List.mem_of_getElem? (i := 0) rfl))
  refine own_step st3 ?_
  refine own_step (fun t k => XS.iinc X3.here hx rfl (hb hby d7_21) rfl (l' := #[rv ar, iv 8, iv 11, .val (.long vv), .second, iv 9]) rfl k) ?_
  refine own_go X3.here hx rfl (pc0 := 24) (pc' := 10) rfl (hb hby d7_24) (by decide) (by decide) ?_
  refine own_ix X3.here hx rfl (hb hby d7_10) rfl ?_
  show own_G p.tables e below _ (T3.setTop (mkF m 12 #[rv ar, iv 8, iv 11, .val (.long vv), .second, iv 9] [(.int 9)]))
  refine own_il X3.here hx rfl (hb hby d7_12) rfl ?_
  have hk6 : (9 : Int32) < (11 : Int32) := (by decide)
  refine own_step (fun t k => XS.icmpNo X3.here hx rfl (hb hby d7_13) rfl ((tlt hk6).2.1) k) ?_
  clear N1 N1q W3 X1 c3 e1 hk2 hk6 st1 st3
  show own_G p.tables e below _ (T3.setTop (mkF m 16 #[rv ar, iv 8, iv 11, .val (.long vv), .second, iv 9] []))
  refine own_al X3.here hx rfl (hb hby d7_16) rfl rfl ?_
  refine own_ix X3.here hx rfl (hb hby d7_17) rfl ?_
  refine own_step (fun t k => XS.lloadN X3.here hx rfl (hb hby d7_19) rfl k) ?_
  obtain ⟨T7, h7, X7, e7, W7, c7, st7⟩ := own_lastore X3 hx hZ e3 c4 (own_inb (by decide) (Nat.le_of_ble_eq_true rfl)) (g := (mkF m 20 #[rv ar, iv 8, iv 11, .val (.long vv), .second, iv 9] [(.long vv), (.int 9), (.ref ar)])) rfl rfl (hb hby d7_20)
  have N7 := Fr.snoc X7 N3 g_ar
  have c8 : own_Arj Z h7 ar [kk0, kk1, kk2, kk3, kk4, kk5, kk6, kk7, vv, vv, kk10] := c7
  have K7 : Keep h0 h7 [ar] := K3.wr W7 (Or.inl (List.mem_of_getElem? (i := 0) rfl))
  refine own_step st7 ?_
  refine own_step (fun t k => XS.iinc X7.here hx rfl (hb hby d7_21) rfl (l' := #[rv ar, iv 8, iv 11, .val (.long vv), .second, iv 10]) rfl k) ?_
  refine own_go X7.here hx rfl (pc0 := 24) (pc' := 10) rfl (hb hby d7_24) (by decide) (by decide) ?_
  refine own_ix X7.here hx rfl (hb hby d7_10) rfl ?_
  show own_G p.tables e below _ (T7.setTop (mkF m 12 #[rv ar, iv 8, iv 11, .val (.long vv), .second, iv 10] [(.int 10)]))
  refine own_il X7.here hx rfl (hb hby d7_12) rfl ?_
  have hk10 : (10 : Int32) < (11 : Int32) := (by decide)
  refine own_step (fun t k => XS.icmpNo X7.here hx rfl (hb hby d7_13) rfl ((tlt hk10).2.1) k) ?_
  show own_G p.tables e below _ (T7.setTop (mkF m 16 #[rv ar, iv 8, iv 11, .val (.long vv), .second, iv 10] []))
  refine own_al X7.here hx rfl (hb hby d7_16) rfl rfl ?_
  refine own_ix X7.here hx rfl (hb hby d7_17) rfl ?_
  refine own_step (fun t k => XS.lloadN X7.here hx rfl (hb hby d7_19) rfl k) ?_
  obtain ⟨T11, h11, X11, e11, W11, c11, st11⟩ := own_lastore X7 hx hZ e7 c8 (own_inb (by decide) (Nat.le_of_ble_eq_true rfl)) (g := (mkF m 20 #[rv ar, iv 8, iv 11, .val (.long vv), .second, iv 10] [(.long vv), (.int 10), (.ref ar)])) rfl rfl (hb hby d7_20)
  have N11 := Fr.snoc X11 N7 g_ar
  have c12 : own_Arj Z h11 ar [kk0, kk1, kk2, kk3, kk4, kk5, kk6, kk7, vv, vv, vv] := c11
  have K11 : Keep h0 h11 [ar] := K7.wr W11 (Or.inl (List.mem_of_getElem? (i := 0) rfl))
  refine own_step st11 ?_
  refine own_step (fun t k => XS.iinc X11.here hx rfl (hb hby d7_21) rfl (l' := #[rv ar, iv 8, iv 11, .val (.long vv), .second, iv 11]) rfl k) ?_
  refine own_go X11.here hx rfl (pc0 := 24) (pc' := 10) rfl (hb hby d7_24) (by decide) (by decide) ?_
  refine own_ix X11.here hx rfl (hb hby d7_10) rfl ?_
  clear K3 K7 N3 N7 W11 W7 X3 X7 c11 c4 c7 c8 e3 e7 hk10 st11 st7
  show own_G p.tables e below _ (T11.setTop (mkF m 12 #[rv ar, iv 8, iv 11, .val (.long vv), .second, iv 11] [(.int 11)]))
  refine own_il X11.here hx rfl (hb hby d7_12) rfl ?_
  have hk14 : ¬ ((11 : Int32) < (11 : Int32)) := (by decide)
  refine own_step (fun t k => XS.icmpYes X11.here hx rfl (pc0 := 13) (pc' := 27) rfl (hb hby d7_13) rfl ((flt hk14).2.1) (by decide) (by decide) k) ?_
  show own_G p.tables e below _ (T11.setTop (mkF m 27 #[rv ar, iv 8, iv 11, .val (.long vv), .second, iv 11] []))
  obtain ⟨fs, hr, hrun, hended, hW, hsame⟩ := X11.leave (v := none) (fun _ => rfl)
  refine own_done (X11.returnOut hx Bd.returns (hb hby d7_27) hr) hrun hended ⟨_, _, rfl, ?_, ⟨_, rfl⟩, hW, hsame.mono (by decide) (by decide)⟩
  show Q7_n5 Z ar vv kk0 kk1 kk2 kk3 kk4 kk5 kk6 kk7 kk8 kk9 kk10 h0 n0 _ T11.heap _
  rw [e11]
  exact ⟨rfl, N11, K11, c12⟩
theorem pn_3_p5 : plainName "com/example/leafcode/leafcode/FourWayHeap" = true := by first | (simp [plainName, overriddenIn]; done) | decide +kernel
theorem pd_3_p5_0 : parseMethodDescriptor "([J)Z" = some ⟨[(.array .long)], some .boolean⟩ := by decide +kernel
theorem pd_3_p5_1 : parseMethodDescriptor "(JI)J" = some ⟨[.long, .int], some .long⟩ := by decide +kernel
theorem pd_3_p5_2 : parseMethodDescriptor "([JIIJ)V" = some ⟨[(.array .long), .int, .int, .long], none⟩ := by decide +kernel
theorem pd_3_p5_3 : parseMethodDescriptor "(I)I" = some ⟨[.int], some .int⟩ := by decide +kernel
theorem pd_3_p5_4 : parseMethodDescriptor "(II)V" = some ⟨[.int, .int], none⟩ := by decide +kernel
theorem pd_3_p5_5 : parseMethodDescriptor "(I)V" = some ⟨[.int], none⟩ := by decide +kernel
theorem ef_3_p5 (m : MethodId) (a1 : Addr) (wa : Addr) : entryFrame m #[(.ref a1), (.ref wa)] 4 = mkF m 0 #[rv a1, rv wa, .unset, .unset] [] := by first | (simp [entryFrame, mkF, argsToLocals, Value.category]; done) | rfl
def Q3_p5 (Z : State) (a1 : Addr) (wa : Addr) (wt0 : Int64) (wt1 : Int64) (wt2 : Int64) (wt3 : Int64) (wt4 : Int64) (h0 : Heap) (n0 : Nat) (v : Option Value) (h : Heap) (L : List Loc) : Prop := ∃ (x1 : Addr) (L_x1 : List Int64), v = none ∧ Fr n0 L ∧ Keep h0 h [a1] ∧ Fld Z h a1 own_C "end" "I" (.int 8) ∧ Fld Z h a1 own_C "keys" "[J" (.ref x1) ∧ Fld Z h a1 own_C "nodes" "[I" .null ∧ own_Arj Z h x1 L_x1 ∧ h0.size ≤ x1 ∧ (L_x1.length = 11 ∧ (own_ush (L_x1.getD 3 0)).toInt = (min (min (min (min wt0.toInt wt1.toInt) wt2.toInt) wt3.toInt) wt4.toInt))
set_option maxRecDepth 65536 in
set_option maxHeartbeats 40000000 in
theorem rm3_p5 (l : Launch) (Z : State) (a0 : Array Value) (hw : ∀ d ∈ tables_1, d.before a0 Z = true) (ws : List Jvm.Cond) (a1 : Addr) (wa : Addr) (wt0 : Int64) (wt1 : Int64) (wt2 : Int64) (wt3 : Int64) (wt4 : Int64) (h0 : Heap) (n0 : Nat) (Z0 : n0 ≤ h0.size) (fp0 : Exa Z h0 a1 own_C) (fp1 : Fld Z h0 a1 own_C "end" "I" (.int 0)) (fp2 : Fld Z h0 a1 own_C "keys" "[J" .null) (fp3 : Fld Z h0 a1 own_C "nodes" "[I" .null) (fp4 : own_Arj Z h0 wa [wt0, wt1, wt2, wt3, wt4]) (hpk : own_f5_n5 wt0 wt1 wt2 wt3 wt4 = 1) (hnn0 : 0 ≤ wt0.toInt) (hnn1 : 0 ≤ wt1.toInt) (hnn2 : 0 ≤ wt2.toInt) (hnn3 : 0 ≤ wt3.toInt) (hnn4 : 0 ≤ wt4.toInt) (g_a1 : n0 ≤ a1) (ne_wa_a1 : wa ≠ a1) :
    MetFree l (⟨"com/example/leafcode/leafcode/FourWayHeap", "<init>", "([J)V"⟩ : MethodName) (head1 (Jvm.Cond.code (⟨"com/example/leafcode/leafcode/FourWayHeap", "<init>", "([J)V"⟩ : MethodName) prog_20_method_1_code 4 none :: ws) ({ frames := 2, cells := 1, slots := 11, locals := 52 } : Room)) (fun a U => a = #[(.ref a1), (.ref wa)] ∧ Z.Warmed39 U.vm ∧ U.heap = h0) (fun _ _ _ _ _ => True) (fun _ U o U' => ∃ v L, o = .returned v ∧ Q3_p5 Z a1 wa wt0 wt1 wt2 wt3 wt4 h0 n0 v U'.heap L ∧ FrameEnd U o U' L ({ frames := 2, cells := 1, slots := 11, locals := 52 } : Room).cells ({ frames := 2, cells := 1, slots := 11, locals := 52 } : Room).slots) := by
  refine MetFree.of_bodySF (plainFor_of_name pn_3_p5) hisR ?_
  intro p e s m args below meth c s₁ Bd hml0 hP hK
  obtain ⟨rfl, hZ, hh⟩ := hP
  have hx := Bd.exec
  have hby := Bd.bytes
  have hml : c.maxLocals = 4 := hml0
  have hown : s.vm.findClass "com/example/leafcode/leafcode/FourWayHeap" = some m.cls := findClass_of_methodNamed Bd.named
  have hnm := (name_of_methodNamed Bd.named Bd.method).1
  have X0 : Stand p l e ({ frames := 2, cells := 1, slots := 11, locals := 52 } : Room) s m #[(.ref a1), (.ref wa)] below meth c s₁ [] 0 0 := Stand.of_body Bd
  have e0 : s₁.heap = h0 := by rw [← hh, Bd.state]; rfl
  have N0 := Fr.nil n0
  refine own_start (fun t k => castTop (ef_3_p5 m a1 wa) k) ?_
  show own_G p.tables e below _ (s₁.setTop (mkF m 0 #[rv a1, rv wa, .unset, .unset] []))
  refine own_al X0.here hx rfl (hb hby d3_0) rfl rfl ?_
  obtain ⟨T1, X1, e1, st1⟩ := initO X0 hx hZ hown (own_w hw 16 rfl) (own_w hw 17 rfl) (own_w hw 18 rfl) e0 (g := (mkF m 1 #[rv a1, rv wa, .unset, .unset] [(.ref a1)])) rfl (by rw [hml]; rfl) rfl (hb hby d3_1) (by decide) (W := 0) (by show 2 * 0 + _ ≤ _; exact Nat.le_of_eq rfl) (by decide)
  refine own_step st1 ?_
  refine own_al X1.here hx rfl (hb hby d3_4) rfl rfl ?_
  refine own_step (own_lenJ X1 hx hZ e1 fp4 (g := (mkF m 5 #[rv a1, rv wa, .unset, .unset] [(.ref wa)])) rfl rfl (hb hby d3_5)) ?_
  refine own_step (fun t k => XS.istoreN X1.here hx rfl (hb hby d3_6) rfl (l' := #[rv a1, rv wa, iv 5, .unset]) rfl k) ?_
  refine own_al X1.here hx rfl (hb hby d3_7) rfl rfl ?_
  refine own_ic X1.here hx rfl (hb hby d3_8) ?_
  show own_G p.tables e below _ (T1.setTop (mkF m 9 #[rv a1, rv wa, iv 5, .unset] [(.int 3), (.ref a1)]))
  refine own_il X1.here hx rfl (hb hby d3_9) rfl ?_
  refine own_step (fun t k => XS.iadd X1.here hx rfl (hb hby d3_10) rfl k) ?_
  obtain ⟨T2, h2, X2, e2, W2, st2⟩ := putF X1 hx hZ hown (host := "") (Or.inl (own_w hw 19 rfl)) Via.refl e1 fp1 fp0 (Or.inl (own_w hw 20 rfl)) (own_w hw 11 rfl) (ty := .int) (by decide) rfl rfl (g := (mkF m 11 #[rv a1, rv wa, iv 5, .unset] [(.int 8), (.ref a1)])) rfl rfl (hb hby d3_11)
  have N2 := Fr.snoc X2 N0 g_a1
  have c3 : Fld Z h2 a1 own_C "end" "I" (.int 8) := fp1.same W2
  have c4 : Exa Z h2 a1 own_C := fp0.wr W2
  have c6 : Fld Z h2 a1 own_C "keys" "[J" .null := fp2.other W2 (Or.inr (slot_ne (Or.inl (own_w hw 22 rfl)) (Or.inl (own_w hw 20 rfl)) (by decide) (t := (.array .long)) (t' := .int) (by decide) (by decide)))
  have c7 : Fld Z h2 a1 own_C "nodes" "[I" .null := fp3.other W2 (Or.inr (slot_ne (Or.inl (own_w hw 46 rfl)) (Or.inl (own_w hw 20 rfl)) (by decide) (t := (.array .int)) (t' := .int) (by decide) (by decide)))
  have c8 : own_Arj Z h2 wa [wt0, wt1, wt2, wt3, wt4] := fp4.other W2 ne_wa_a1
  have K2 : Keep h0 h2 [a1] := (Keep.refl h0 [a1]).wr W2 (Or.inl (List.mem_of_getElem? (i := 0) rfl))
  refine own_step st2 ?_
  refine own_al X2.here hx rfl (hb hby d3_14) rfl rfl ?_
  refine own_al X2.here hx rfl (hb hby d3_15) rfl rfl ?_
  obtain ⟨T9, X9, e9, st9⟩ := getF X2 hx hZ hown (host := "") (Or.inl (own_w hw 19 rfl)) Via.refl e2 c3 (g := (mkF m 16 #[rv a1, rv wa, iv 5, .unset] [(.ref a1), (.ref a1)])) rfl rfl (hb hby d3_16)
  refine own_step st9 ?_
  refine own_ic X9.here hx rfl (hb hby d3_19) ?_
  show own_G p.tables e below _ (T9.setTop (mkF m 20 #[rv a1, rv wa, iv 5, .unset] [(.int 4), (.int 8), (.ref a1)]))
  refine own_step (fun t k => XS.iadd X9.here hx rfl (hb hby d3_20) rfl k) ?_
  refine own_ic X9.here hx rfl (hb hby d3_21) ?_
  refine own_step (fun t k => XS.isub X9.here hx rfl (hb hby d3_22) rfl k) ?_
  obtain ⟨T10, h10, k10, X10, e10, E10, A10, st10⟩ := newP X9 hx hZ (own_w hw 5 rfl) e9 (g := (mkF m 23 #[rv a1, rv wa, iv 5, .unset] [(.int 11), (.ref a1)])) rfl (hb hby d3_23) rfl (by decide) (cap := 11) (by decide) (by decide) (by decide) (by decide)
  obtain ⟨b10, g10⟩ : ∃ z, z = h2.size := ⟨_, rfl⟩
  have ne11 : a1 ≠ b10 := Nat.ne_of_lt (Nat.lt_of_lt_of_le c4.lt (Nat.le_of_eq g10.symm))
  have ne12 : wa ≠ b10 := Nat.ne_of_lt (Nat.lt_of_lt_of_le c8.lt (Nat.le_of_eq g10.symm))
  have sz10 : h0.size ≤ b10 := Nat.le_trans K2.1 (Nat.le_of_eq g10.symm)
  have ge10 : n0 ≤ b10 := Nat.le_trans Z0 sz10
  have c13 : Exa Z h10 a1 own_C := c4.ext E10
  have c14 : Fld Z h10 a1 own_C "end" "I" (.int 8) := c3.ext E10
  have c15 : Fld Z h10 a1 own_C "keys" "[J" .null := c6.ext E10
  have c16 : Fld Z h10 a1 own_C "nodes" "[I" .null := c7.ext E10
  have c17 : own_Arj Z h10 wa [wt0, wt1, wt2, wt3, wt4] := c8.ext E10
  have K10 : Keep h0 h10 [a1] := K2.ext E10
  rw [← g10] at A10 st10
  have c18 : own_Arj Z h10 b10 [0, 0, 0, 0, 0, 0, 0, 0, 0, 0, 0] := own_Arj_new A10 (by decide)
  refine own_step st10 ?_
  obtain ⟨T19, h19, X19, e19, W19, st19⟩ := putF X10 hx hZ hown (host := "") (Or.inl (own_w hw 21 rfl)) Via.refl e10 c15 c13 (Or.inl (own_w hw 22 rfl)) (own_w hw 11 rfl) (ty := (.array .long)) (by decide) rfl rfl (g := (mkF m 25 #[rv a1, rv wa, iv 5, .unset] [(.ref b10), (.ref a1)])) rfl rfl (hb hby d3_25)
  have N19 := Fr.snoc X19 N2 g_a1
  have c20 : Fld Z h19 a1 own_C "keys" "[J" (.ref b10) := c15.same W19
  have c21 : Exa Z h19 a1 own_C := c13.wr W19
  have c22 : Fld Z h19 a1 own_C "end" "I" (.int 8) := c14.other W19 (Or.inr (slot_ne (Or.inl (own_w hw 20 rfl)) (Or.inl (own_w hw 22 rfl)) (by decide) (t := .int) (t' := (.array .long)) (by decide) (by decide)))
  have c24 : Fld Z h19 a1 own_C "nodes" "[I" .null := c16.other W19 (Or.inr (slot_ne (Or.inl (own_w hw 46 rfl)) (Or.inl (own_w hw 22 rfl)) (by decide) (t := (.array .int)) (t' := (.array .long)) (by decide) (by decide)))
  have c25 : own_Arj Z h19 wa [wt0, wt1, wt2, wt3, wt4] := c17.other W19 ne_wa_a1
  have c26 : own_Arj Z h19 b10 [0, 0, 0, 0, 0, 0, 0, 0, 0, 0, 0] := c18.other W19 (Ne.symm ne11)
  have K19 : Keep h0 h19 [a1] := K10.wr W19 (Or.inl (List.mem_of_getElem? (i := 0) rfl))
  refine own_step st19 ?_
  refine own_al X19.here hx rfl (hb hby d3_28) rfl rfl ?_
  obtain ⟨_, _, ⟨T27, L27, k27, n27⟩, -, X27, ⟨Lc27, hQ27, l27, y27, z27⟩, st27⟩ := Jvm.LawKit.callS X19 hx (y := own_y5) hown (mvT hZ (own_w hw 23 rfl)) (mvT hZ (own_w hw 24 rfl)) (mvT hZ (own_w hw 12 rfl)) (mvT hZ (own_w hw 25 rfl)) (by decide) (backOf (W := 0) (rm5_n5 l Z a0 hw [] wa wt0 wt1 wt2 wt3 wt4 h19 n0 (Nat.le_trans Z0 K19.1) c25) hZ (own_w hw 25 rfl) (own_w hw 12 rfl) (by decide) (by decide)) (g := (mkF m 29 #[rv a1, rv wa, iv 5, .unset] [(.ref wa)])) rfl (by rw [hml]; rfl) (argsL := [(.ref wa)]) (rest := []) (lenOf pd_3_p5_0 rfl) rfl (own_wl rfl) (hb hby d3_29) (fun _ _ => ⟨rfl, e19, (by decide : 1 + 0 ≤ _), (by decide : 11 + 0 ≤ _)⟩)
  dsimp only [Pt.U, Pt.locs, Pt.cells, Pt.slots] at X27 l27 y27 z27 st27 hQ27
  subst y27 z27
  obtain ⟨rfl, N27q, e27⟩ := hQ27
  have N27 : Fr n0 L27 := by rw [l27]; exact Fr.app N19 N27q
  refine own_step st27 ?_
  clear A10 E10 K10 K2 N19 N2 N27q W19 W2 X1 X10 X19 X2 X9 c13 c14 c15 c16 c17 c18 c3 c4 c6 c7 c8 e1 e10 e19 e2 e9 g10 st1 st10 st19 st2 st27 st9
  show own_G p.tables e below _ (T27.setTop (mkF m 32 #[rv a1, rv wa, iv 5, .unset] [(.int (own_f5_n5 wt0 wt1 wt2 wt3 wt4))]))
  have hk28 : ¬ ((own_f5_n5 wt0 wt1 wt2 wt3 wt4) = (0 : Int32)) := (by rw [hpk]; decide)
  refine own_step (fun t k => XS.ifNo X27.here hx rfl (hb hby d3_32) rfl ((if0 _ _).trans (feq hk28).1) k) ?_
  show own_G p.tables e below _ (T27.setTop (mkF m 35 #[rv a1, rv wa, iv 5, .unset] []))
  refine own_ic X27.here hx rfl (hb hby d3_35) ?_
  refine own_step (fun t k => XS.istoreN X27.here hx rfl (hb hby d3_36) rfl (l' := #[rv a1, rv wa, iv 5, iv 0]) rfl k) ?_
  refine own_il X27.here hx rfl (hb hby d3_37) rfl ?_
  refine own_il X27.here hx rfl (hb hby d3_38) rfl ?_
  have hk29 : (0 : Int32) < (5 : Int32) := (by decide)
  refine own_step (fun t k => XS.icmpNo X27.here hx rfl (hb hby d3_39) rfl ((tlt hk29).2.1) k) ?_
  show own_G p.tables e below _ (T27.setTop (mkF m 42 #[rv a1, rv wa, iv 5, iv 0] []))
  refine own_al X27.here hx rfl (hb hby d3_42) rfl rfl ?_
  obtain ⟨T30, X30, e30, st30⟩ := getF X27 hx hZ hown (host := "") (Or.inl (own_w hw 21 rfl)) Via.refl e27 c20 (g := (mkF m 43 #[rv a1, rv wa, iv 5, iv 0] [(.ref a1)])) rfl rfl (hb hby d3_43)
  refine own_step st30 ?_
  refine own_ic X30.here hx rfl (hb hby d3_46) ?_
  refine own_il X30.here hx rfl (hb hby d3_47) rfl ?_
  refine own_step (fun t k => XS.iadd X30.here hx rfl (hb hby d3_48) rfl k) ?_
  refine own_al X30.here hx rfl (hb hby d3_49) rfl rfl ?_
  refine own_il X30.here hx rfl (hb hby d3_50) rfl ?_
  show own_G p.tables e below _ (T30.setTop (mkF m 51 #[rv a1, rv wa, iv 5, iv 0] [(.int 0), (.ref wa), (.int 3), (.ref b10)]))
  refine own_step (own_laload X30 hx hZ e30 c25 (own_inb (by decide) (Nat.le_of_ble_eq_true rfl)) (g := (mkF m 51 #[rv a1, rv wa, iv 5, iv 0] [(.int 0), (.ref wa), (.int 3), (.ref b10)])) rfl rfl (hb hby d3_51)) ?_
  refine own_il X30.here hx rfl (hb hby d3_52) rfl ?_
  obtain ⟨_, _, ⟨T31, L31, k31, n31⟩, -, X31, ⟨Lc31, hQ31, l31, y31, z31⟩, st31⟩ := Jvm.LawKit.callS X30 hx (y := own_y6) hown (mvT hZ (own_w hw 27 rfl)) (mvT hZ (own_w hw 28 rfl)) (mvT hZ (own_w hw 12 rfl)) (mvT hZ (own_w hw 29 rfl)) (by decide) (backOf (W := 2) (rm6 l Z a0 hw [] wt0 (0 : Int32) h19 n0 (Nat.le_trans Z0 K19.1) ) hZ (own_w hw 29 rfl) (own_w hw 12 rfl) (by decide) (by decide)) (g := (mkF m 53 #[rv a1, rv wa, iv 5, iv 0] [(.int 0), (.long wt0), (.int 3), (.ref b10)])) rfl (by rw [hml]; rfl) (argsL := [(.long wt0), (.int 0)]) (rest := [(.int 3), (.ref b10)]) (lenOf pd_3_p5_1 rfl) rfl (own_wl rfl) (hb hby d3_53) (fun _ _ => ⟨rfl, e30, (by decide : 1 + 0 ≤ _), (by decide : 11 + 0 ≤ _)⟩)
  dsimp only [Pt.U, Pt.locs, Pt.cells, Pt.slots] at X31 l31 y31 z31 st31 hQ31
  subst y31 z31
  obtain ⟨rfl, N31q, e31⟩ := hQ31
  have N31 : Fr n0 L31 := by rw [l31]; exact Fr.app N27 N31q
  refine own_step st31 ?_
  obtain ⟨T32, h32, X32, e32, W32, c32, st32⟩ := own_lastore X31 hx hZ e31 c26 (own_inb (by decide) (Nat.le_of_ble_eq_true rfl)) (g := (mkF m 56 #[rv a1, rv wa, iv 5, iv 0] [(.long (own_pk wt0 (0 : Int32))), (.int 3), (.ref b10)])) rfl rfl (hb hby d3_56)
  have N32 := Fr.snoc X32 N31 ge10
  have c33 : own_Arj Z h32 b10 [0, 0, 0, (own_pk wt0 (0 : Int32)), 0, 0, 0, 0, 0, 0, 0] := c32
  have c34 : Exa Z h32 a1 own_C := c21.wr W32
  have c35 : Fld Z h32 a1 own_C "end" "I" (.int 8) := c22.other W32 (Or.inl ne11)
  have c36 : Fld Z h32 a1 own_C "keys" "[J" (.ref b10) := c20.other W32 (Or.inl ne11)
  have c37 : Fld Z h32 a1 own_C "nodes" "[I" .null := c24.other W32 (Or.inl ne11)
  have c38 : own_Arj Z h32 wa [wt0, wt1, wt2, wt3, wt4] := c25.other W32 ne12
  have K32 : Keep h0 h32 [a1] := K19.wr W32 (Or.inr sz10)
  refine own_step st32 ?_
  refine own_step (fun t k => XS.iinc X32.here hx rfl (hb hby d3_57) rfl (l' := #[rv a1, rv wa, iv 5, iv 1]) rfl k) ?_
  refine own_go X32.here hx rfl (pc0 := 60) (pc' := 37) rfl (hb hby d3_60) (by decide) (by decide) ?_
  refine own_il X32.here hx rfl (hb hby d3_37) rfl ?_
  clear K19 N27 N31 N31q W32 X27 X30 X31 c20 c21 c22 c24 c25 c26 c32 e27 e30 e31 hk28 hk29 st30 st31 st32
  show own_G p.tables e below _ (T32.setTop (mkF m 38 #[rv a1, rv wa, iv 5, iv 1] [(.int 1)]))
  refine own_il X32.here hx rfl (hb hby d3_38) rfl ?_
  have hk40 : (1 : Int32) < (5 : Int32) := (by decide)
  refine own_step (fun t k => XS.icmpNo X32.here hx rfl (hb hby d3_39) rfl ((tlt hk40).2.1) k) ?_
  show own_G p.tables e below _ (T32.setTop (mkF m 42 #[rv a1, rv wa, iv 5, iv 1] []))
  refine own_al X32.here hx rfl (hb hby d3_42) rfl rfl ?_
  obtain ⟨T41, X41, e41, st41⟩ := getF X32 hx hZ hown (host := "") (Or.inl (own_w hw 21 rfl)) Via.refl e32 c36 (g := (mkF m 43 #[rv a1, rv wa, iv 5, iv 1] [(.ref a1)])) rfl rfl (hb hby d3_43)
  refine own_step st41 ?_
  refine own_ic X41.here hx rfl (hb hby d3_46) ?_
  refine own_il X41.here hx rfl (hb hby d3_47) rfl ?_
  refine own_step (fun t k => XS.iadd X41.here hx rfl (hb hby d3_48) rfl k) ?_
  refine own_al X41.here hx rfl (hb hby d3_49) rfl rfl ?_
  refine own_il X41.here hx rfl (hb hby d3_50) rfl ?_
  show own_G p.tables e below _ (T41.setTop (mkF m 51 #[rv a1, rv wa, iv 5, iv 1] [(.int 1), (.ref wa), (.int 4), (.ref b10)]))
  refine own_step (own_laload X41 hx hZ e41 c38 (own_inb (by decide) (Nat.le_of_ble_eq_true rfl)) (g := (mkF m 51 #[rv a1, rv wa, iv 5, iv 1] [(.int 1), (.ref wa), (.int 4), (.ref b10)])) rfl rfl (hb hby d3_51)) ?_
  refine own_il X41.here hx rfl (hb hby d3_52) rfl ?_
  obtain ⟨_, _, ⟨T42, L42, k42, n42⟩, -, X42, ⟨Lc42, hQ42, l42, y42, z42⟩, st42⟩ := Jvm.LawKit.callS X41 hx (y := own_y6) hown (mvT hZ (own_w hw 27 rfl)) (mvT hZ (own_w hw 28 rfl)) (mvT hZ (own_w hw 12 rfl)) (mvT hZ (own_w hw 29 rfl)) (by decide) (backOf (W := 2) (rm6 l Z a0 hw [] wt1 (1 : Int32) h32 n0 (Nat.le_trans Z0 K32.1) ) hZ (own_w hw 29 rfl) (own_w hw 12 rfl) (by decide) (by decide)) (g := (mkF m 53 #[rv a1, rv wa, iv 5, iv 1] [(.int 1), (.long wt1), (.int 4), (.ref b10)])) rfl (by rw [hml]; rfl) (argsL := [(.long wt1), (.int 1)]) (rest := [(.int 4), (.ref b10)]) (lenOf pd_3_p5_1 rfl) rfl (own_wl rfl) (hb hby d3_53) (fun _ _ => ⟨rfl, e41, (by decide : 1 + 0 ≤ _), (by decide : 11 + 0 ≤ _)⟩)
  dsimp only [Pt.U, Pt.locs, Pt.cells, Pt.slots] at X42 l42 y42 z42 st42 hQ42
  subst y42 z42
  obtain ⟨rfl, N42q, e42⟩ := hQ42
  have N42 : Fr n0 L42 := by rw [l42]; exact Fr.app N32 N42q
  refine own_step st42 ?_
  obtain ⟨T43, h43, X43, e43, W43, c43, st43⟩ := own_lastore X42 hx hZ e42 c33 (own_inb (by decide) (Nat.le_of_ble_eq_true rfl)) (g := (mkF m 56 #[rv a1, rv wa, iv 5, iv 1] [(.long (own_pk wt1 (1 : Int32))), (.int 4), (.ref b10)])) rfl rfl (hb hby d3_56)
  have N43 := Fr.snoc X43 N42 ge10
  have c44 : own_Arj Z h43 b10 [0, 0, 0, (own_pk wt0 (0 : Int32)), (own_pk wt1 (1 : Int32)), 0, 0, 0, 0, 0, 0] := c43
  have c45 : Exa Z h43 a1 own_C := c34.wr W43
  have c46 : Fld Z h43 a1 own_C "end" "I" (.int 8) := c35.other W43 (Or.inl ne11)
  have c47 : Fld Z h43 a1 own_C "keys" "[J" (.ref b10) := c36.other W43 (Or.inl ne11)
  have c48 : Fld Z h43 a1 own_C "nodes" "[I" .null := c37.other W43 (Or.inl ne11)
  have c49 : own_Arj Z h43 wa [wt0, wt1, wt2, wt3, wt4] := c38.other W43 ne12
  have K43 : Keep h0 h43 [a1] := K32.wr W43 (Or.inr sz10)
  refine own_step st43 ?_
  refine own_step (fun t k => XS.iinc X43.here hx rfl (hb hby d3_57) rfl (l' := #[rv a1, rv wa, iv 5, iv 2]) rfl k) ?_
  refine own_go X43.here hx rfl (pc0 := 60) (pc' := 37) rfl (hb hby d3_60) (by decide) (by decide) ?_
  refine own_il X43.here hx rfl (hb hby d3_37) rfl ?_
  clear K32 N32 N42 N42q W43 X32 X41 X42 c33 c34 c35 c36 c37 c38 c43 e32 e41 e42 hk40 st41 st42 st43
  show own_G p.tables e below _ (T43.setTop (mkF m 38 #[rv a1, rv wa, iv 5, iv 2] [(.int 2)]))
  refine own_il X43.here hx rfl (hb hby d3_38) rfl ?_
  have hk51 : (2 : Int32) < (5 : Int32) := (by decide)
  refine own_step (fun t k => XS.icmpNo X43.here hx rfl (hb hby d3_39) rfl ((tlt hk51).2.1) k) ?_
  show own_G p.tables e below _ (T43.setTop (mkF m 42 #[rv a1, rv wa, iv 5, iv 2] []))
  refine own_al X43.here hx rfl (hb hby d3_42) rfl rfl ?_
  obtain ⟨T52, X52, e52, st52⟩ := getF X43 hx hZ hown (host := "") (Or.inl (own_w hw 21 rfl)) Via.refl e43 c47 (g := (mkF m 43 #[rv a1, rv wa, iv 5, iv 2] [(.ref a1)])) rfl rfl (hb hby d3_43)
  refine own_step st52 ?_
  refine own_ic X52.here hx rfl (hb hby d3_46) ?_
  refine own_il X52.here hx rfl (hb hby d3_47) rfl ?_
  refine own_step (fun t k => XS.iadd X52.here hx rfl (hb hby d3_48) rfl k) ?_
  refine own_al X52.here hx rfl (hb hby d3_49) rfl rfl ?_
  refine own_il X52.here hx rfl (hb hby d3_50) rfl ?_
  show own_G p.tables e below _ (T52.setTop (mkF m 51 #[rv a1, rv wa, iv 5, iv 2] [(.int 2), (.ref wa), (.int 5), (.ref b10)]))
  refine own_step (own_laload X52 hx hZ e52 c49 (own_inb (by decide) (Nat.le_of_ble_eq_true rfl)) (g := (mkF m 51 #[rv a1, rv wa, iv 5, iv 2] [(.int 2), (.ref wa), (.int 5), (.ref b10)])) rfl rfl (hb hby d3_51)) ?_
  refine own_il X52.here hx rfl (hb hby d3_52) rfl ?_
  obtain ⟨_, _, ⟨T53, L53, k53, n53⟩, -, X53, ⟨Lc53, hQ53, l53, y53, z53⟩, st53⟩ := Jvm.LawKit.callS X52 hx (y := own_y6) hown (mvT hZ (own_w hw 27 rfl)) (mvT hZ (own_w hw 28 rfl)) (mvT hZ (own_w hw 12 rfl)) (mvT hZ (own_w hw 29 rfl)) (by decide) (backOf (W := 2) (rm6 l Z a0 hw [] wt2 (2 : Int32) h43 n0 (Nat.le_trans Z0 K43.1) ) hZ (own_w hw 29 rfl) (own_w hw 12 rfl) (by decide) (by decide)) (g := (mkF m 53 #[rv a1, rv wa, iv 5, iv 2] [(.int 2), (.long wt2), (.int 5), (.ref b10)])) rfl (by rw [hml]; rfl) (argsL := [(.long wt2), (.int 2)]) (rest := [(.int 5), (.ref b10)]) (lenOf pd_3_p5_1 rfl) rfl (own_wl rfl) (hb hby d3_53) (fun _ _ => ⟨rfl, e52, (by decide : 1 + 0 ≤ _), (by decide : 11 + 0 ≤ _)⟩)
  dsimp only [Pt.U, Pt.locs, Pt.cells, Pt.slots] at X53 l53 y53 z53 st53 hQ53
  subst y53 z53
  obtain ⟨rfl, N53q, e53⟩ := hQ53
  have N53 : Fr n0 L53 := by rw [l53]; exact Fr.app N43 N53q
  refine own_step st53 ?_
  obtain ⟨T54, h54, X54, e54, W54, c54, st54⟩ := own_lastore X53 hx hZ e53 c44 (own_inb (by decide) (Nat.le_of_ble_eq_true rfl)) (g := (mkF m 56 #[rv a1, rv wa, iv 5, iv 2] [(.long (own_pk wt2 (2 : Int32))), (.int 5), (.ref b10)])) rfl rfl (hb hby d3_56)
  have N54 := Fr.snoc X54 N53 ge10
  have c55 : own_Arj Z h54 b10 [0, 0, 0, (own_pk wt0 (0 : Int32)), (own_pk wt1 (1 : Int32)), (own_pk wt2 (2 : Int32)), 0, 0, 0, 0, 0] := c54
  have c56 : Exa Z h54 a1 own_C := c45.wr W54
  have c57 : Fld Z h54 a1 own_C "end" "I" (.int 8) := c46.other W54 (Or.inl ne11)
  have c58 : Fld Z h54 a1 own_C "keys" "[J" (.ref b10) := c47.other W54 (Or.inl ne11)
  have c59 : Fld Z h54 a1 own_C "nodes" "[I" .null := c48.other W54 (Or.inl ne11)
  have c60 : own_Arj Z h54 wa [wt0, wt1, wt2, wt3, wt4] := c49.other W54 ne12
  have K54 : Keep h0 h54 [a1] := K43.wr W54 (Or.inr sz10)
  refine own_step st54 ?_
  refine own_step (fun t k => XS.iinc X54.here hx rfl (hb hby d3_57) rfl (l' := #[rv a1, rv wa, iv 5, iv 3]) rfl k) ?_
  refine own_go X54.here hx rfl (pc0 := 60) (pc' := 37) rfl (hb hby d3_60) (by decide) (by decide) ?_
  refine own_il X54.here hx rfl (hb hby d3_37) rfl ?_
  clear K43 N43 N53 N53q W54 X43 X52 X53 c44 c45 c46 c47 c48 c49 c54 e43 e52 e53 hk51 st52 st53 st54
  show own_G p.tables e below _ (T54.setTop (mkF m 38 #[rv a1, rv wa, iv 5, iv 3] [(.int 3)]))
  refine own_il X54.here hx rfl (hb hby d3_38) rfl ?_
  have hk62 : (3 : Int32) < (5 : Int32) := (by decide)
  refine own_step (fun t k => XS.icmpNo X54.here hx rfl (hb hby d3_39) rfl ((tlt hk62).2.1) k) ?_
  show own_G p.tables e below _ (T54.setTop (mkF m 42 #[rv a1, rv wa, iv 5, iv 3] []))
  refine own_al X54.here hx rfl (hb hby d3_42) rfl rfl ?_
  obtain ⟨T63, X63, e63, st63⟩ := getF X54 hx hZ hown (host := "") (Or.inl (own_w hw 21 rfl)) Via.refl e54 c58 (g := (mkF m 43 #[rv a1, rv wa, iv 5, iv 3] [(.ref a1)])) rfl rfl (hb hby d3_43)
  refine own_step st63 ?_
  refine own_ic X63.here hx rfl (hb hby d3_46) ?_
  refine own_il X63.here hx rfl (hb hby d3_47) rfl ?_
  refine own_step (fun t k => XS.iadd X63.here hx rfl (hb hby d3_48) rfl k) ?_
  refine own_al X63.here hx rfl (hb hby d3_49) rfl rfl ?_
  refine own_il X63.here hx rfl (hb hby d3_50) rfl ?_
  show own_G p.tables e below _ (T63.setTop (mkF m 51 #[rv a1, rv wa, iv 5, iv 3] [(.int 3), (.ref wa), (.int 6), (.ref b10)]))
  refine own_step (own_laload X63 hx hZ e63 c60 (own_inb (by decide) (Nat.le_of_ble_eq_true rfl)) (g := (mkF m 51 #[rv a1, rv wa, iv 5, iv 3] [(.int 3), (.ref wa), (.int 6), (.ref b10)])) rfl rfl (hb hby d3_51)) ?_
  refine own_il X63.here hx rfl (hb hby d3_52) rfl ?_
  obtain ⟨_, _, ⟨T64, L64, k64, n64⟩, -, X64, ⟨Lc64, hQ64, l64, y64, z64⟩, st64⟩ := Jvm.LawKit.callS X63 hx (y := own_y6) hown (mvT hZ (own_w hw 27 rfl)) (mvT hZ (own_w hw 28 rfl)) (mvT hZ (own_w hw 12 rfl)) (mvT hZ (own_w hw 29 rfl)) (by decide) (backOf (W := 2) (rm6 l Z a0 hw [] wt3 (3 : Int32) h54 n0 (Nat.le_trans Z0 K54.1) ) hZ (own_w hw 29 rfl) (own_w hw 12 rfl) (by decide) (by decide)) (g := (mkF m 53 #[rv a1, rv wa, iv 5, iv 3] [(.int 3), (.long wt3), (.int 6), (.ref b10)])) rfl (by rw [hml]; rfl) (argsL := [(.long wt3), (.int 3)]) (rest := [(.int 6), (.ref b10)]) (lenOf pd_3_p5_1 rfl) rfl (own_wl rfl) (hb hby d3_53) (fun _ _ => ⟨rfl, e63, (by decide : 1 + 0 ≤ _), (by decide : 11 + 0 ≤ _)⟩)
  dsimp only [Pt.U, Pt.locs, Pt.cells, Pt.slots] at X64 l64 y64 z64 st64 hQ64
  subst y64 z64
  obtain ⟨rfl, N64q, e64⟩ := hQ64
  have N64 : Fr n0 L64 := by rw [l64]; exact Fr.app N54 N64q
  refine own_step st64 ?_
  obtain ⟨T65, h65, X65, e65, W65, c65, st65⟩ := own_lastore X64 hx hZ e64 c55 (own_inb (by decide) (Nat.le_of_ble_eq_true rfl)) (g := (mkF m 56 #[rv a1, rv wa, iv 5, iv 3] [(.long (own_pk wt3 (3 : Int32))), (.int 6), (.ref b10)])) rfl rfl (hb hby d3_56)
  have N65 := Fr.snoc X65 N64 ge10
  have c66 : own_Arj Z h65 b10 [0, 0, 0, (own_pk wt0 (0 : Int32)), (own_pk wt1 (1 : Int32)), (own_pk wt2 (2 : Int32)), (own_pk wt3 (3 : Int32)), 0, 0, 0, 0] := c65
  have c67 : Exa Z h65 a1 own_C := c56.wr W65
  have c68 : Fld Z h65 a1 own_C "end" "I" (.int 8) := c57.other W65 (Or.inl ne11)
  have c69 : Fld Z h65 a1 own_C "keys" "[J" (.ref b10) := c58.other W65 (Or.inl ne11)
  have c70 : Fld Z h65 a1 own_C "nodes" "[I" .null := c59.other W65 (Or.inl ne11)
  have c71 : own_Arj Z h65 wa [wt0, wt1, wt2, wt3, wt4] := c60.other W65 ne12
  have K65 : Keep h0 h65 [a1] := K54.wr W65 (Or.inr sz10)
  refine own_step st65 ?_
  refine own_step (fun t k => XS.iinc X65.here hx rfl (hb hby d3_57) rfl (l' := #[rv a1, rv wa, iv 5, iv 4]) rfl k) ?_
  refine own_go X65.here hx rfl (pc0 := 60) (pc' := 37) rfl (hb hby d3_60) (by decide) (by decide) ?_
  refine own_il X65.here hx rfl (hb hby d3_37) rfl ?_
  clear K54 N54 N64 N64q W65 X54 X63 X64 c55 c56 c57 c58 c59 c60 c65 e54 e63 e64 hk62 st63 st64 st65
  show own_G p.tables e below _ (T65.setTop (mkF m 38 #[rv a1, rv wa, iv 5, iv 4] [(.int 4)]))
  refine own_il X65.here hx rfl (hb hby d3_38) rfl ?_
  have hk73 : (4 : Int32) < (5 : Int32) := (by decide)
  refine own_step (fun t k => XS.icmpNo X65.here hx rfl (hb hby d3_39) rfl ((tlt hk73).2.1) k) ?_
  show own_G p.tables e below _ (T65.setTop (mkF m 42 #[rv a1, rv wa, iv 5, iv 4] []))
  refine own_al X65.here hx rfl (hb hby d3_42) rfl rfl ?_
  obtain ⟨T74, X74, e74, st74⟩ := getF X65 hx hZ hown (host := "") (Or.inl (own_w hw 21 rfl)) Via.refl e65 c69 (g := (mkF m 43 #[rv a1, rv wa, iv 5, iv 4] [(.ref a1)])) rfl rfl (hb hby d3_43)
  refine own_step st74 ?_
  refine own_ic X74.here hx rfl (hb hby d3_46) ?_
  refine own_il X74.here hx rfl (hb hby d3_47) rfl ?_
  refine own_step (fun t k => XS.iadd X74.here hx rfl (hb hby d3_48) rfl k) ?_
  refine own_al X74.here hx rfl (hb hby d3_49) rfl rfl ?_
  refine own_il X74.here hx rfl (hb hby d3_50) rfl ?_
  show own_G p.tables e below _ (T74.setTop (mkF m 51 #[rv a1, rv wa, iv 5, iv 4] [(.int 4), (.ref wa), (.int 7), (.ref b10)]))
  refine own_step (own_laload X74 hx hZ e74 c71 (own_inb (by decide) (Nat.le_of_ble_eq_true rfl)) (g := (mkF m 51 #[rv a1, rv wa, iv 5, iv 4] [(.int 4), (.ref wa), (.int 7), (.ref b10)])) rfl rfl (hb hby d3_51)) ?_
  refine own_il X74.here hx rfl (hb hby d3_52) rfl ?_
  obtain ⟨_, _, ⟨T75, L75, k75, n75⟩, -, X75, ⟨Lc75, hQ75, l75, y75, z75⟩, st75⟩ := Jvm.LawKit.callS X74 hx (y := own_y6) hown (mvT hZ (own_w hw 27 rfl)) (mvT hZ (own_w hw 28 rfl)) (mvT hZ (own_w hw 12 rfl)) (mvT hZ (own_w hw 29 rfl)) (by decide) (backOf (W := 2) (rm6 l Z a0 hw [] wt4 (4 : Int32) h65 n0 (Nat.le_trans Z0 K65.1) ) hZ (own_w hw 29 rfl) (own_w hw 12 rfl) (by decide) (by decide)) (g := (mkF m 53 #[rv a1, rv wa, iv 5, iv 4] [(.int 4), (.long wt4), (.int 7), (.ref b10)])) rfl (by rw [hml]; rfl) (argsL := [(.long wt4), (.int 4)]) (rest := [(.int 7), (.ref b10)]) (lenOf pd_3_p5_1 rfl) rfl (own_wl rfl) (hb hby d3_53) (fun _ _ => ⟨rfl, e74, (by decide : 1 + 0 ≤ _), (by decide : 11 + 0 ≤ _)⟩)
  dsimp only [Pt.U, Pt.locs, Pt.cells, Pt.slots] at X75 l75 y75 z75 st75 hQ75
  subst y75 z75
  obtain ⟨rfl, N75q, e75⟩ := hQ75
  have N75 : Fr n0 L75 := by rw [l75]; exact Fr.app N65 N75q
  refine own_step st75 ?_
  obtain ⟨T76, h76, X76, e76, W76, c76, st76⟩ := own_lastore X75 hx hZ e75 c66 (own_inb (by decide) (Nat.le_of_ble_eq_true rfl)) (g := (mkF m 56 #[rv a1, rv wa, iv 5, iv 4] [(.long (own_pk wt4 (4 : Int32))), (.int 7), (.ref b10)])) rfl rfl (hb hby d3_56)
  have N76 := Fr.snoc X76 N75 ge10
  have c77 : own_Arj Z h76 b10 [0, 0, 0, (own_pk wt0 (0 : Int32)), (own_pk wt1 (1 : Int32)), (own_pk wt2 (2 : Int32)), (own_pk wt3 (3 : Int32)), (own_pk wt4 (4 : Int32)), 0, 0, 0] := c76
  have c78 : Exa Z h76 a1 own_C := c67.wr W76
  have c79 : Fld Z h76 a1 own_C "end" "I" (.int 8) := c68.other W76 (Or.inl ne11)
  have c80 : Fld Z h76 a1 own_C "keys" "[J" (.ref b10) := c69.other W76 (Or.inl ne11)
  have c81 : Fld Z h76 a1 own_C "nodes" "[I" .null := c70.other W76 (Or.inl ne11)
  have c82 : own_Arj Z h76 wa [wt0, wt1, wt2, wt3, wt4] := c71.other W76 ne12
  have K76 : Keep h0 h76 [a1] := K65.wr W76 (Or.inr sz10)
  refine own_step st76 ?_
  refine own_step (fun t k => XS.iinc X76.here hx rfl (hb hby d3_57) rfl (l' := #[rv a1, rv wa, iv 5, iv 5]) rfl k) ?_
  refine own_go X76.here hx rfl (pc0 := 60) (pc' := 37) rfl (hb hby d3_60) (by decide) (by decide) ?_
  refine own_il X76.here hx rfl (hb hby d3_37) rfl ?_
  clear K65 N65 N75 N75q W76 X65 X74 X75 c66 c67 c68 c69 c70 c71 c76 e65 e74 e75 hk73 st74 st75 st76
  show own_G p.tables e below _ (T76.setTop (mkF m 38 #[rv a1, rv wa, iv 5, iv 5] [(.int 5)]))
  refine own_il X76.here hx rfl (hb hby d3_38) rfl ?_
  have hk84 : ¬ ((5 : Int32) < (5 : Int32)) := (by decide)
  refine own_step (fun t k => XS.icmpYes X76.here hx rfl (pc0 := 39) (pc' := 63) rfl (hb hby d3_39) rfl ((flt hk84).2.1) (by decide) (by decide) k) ?_
  show own_G p.tables e below _ (T76.setTop (mkF m 63 #[rv a1, rv wa, iv 5, iv 5] []))
  refine own_al X76.here hx rfl (hb hby d3_63) rfl rfl ?_
  obtain ⟨T85, X85, e85, st85⟩ := getF X76 hx hZ hown (host := "") (Or.inl (own_w hw 21 rfl)) Via.refl e76 c80 (g := (mkF m 64 #[rv a1, rv wa, iv 5, iv 5] [(.ref a1)])) rfl rfl (hb hby d3_64)
  refine own_step st85 ?_
  refine own_al X85.here hx rfl (hb hby d3_67) rfl rfl ?_
  obtain ⟨T86, X86, e86, st86⟩ := getF X85 hx hZ hown (host := "") (Or.inl (own_w hw 19 rfl)) Via.refl e85 c79 (g := (mkF m 68 #[rv a1, rv wa, iv 5, iv 5] [(.ref a1), (.ref b10)])) rfl rfl (hb hby d3_68)
  refine own_step st86 ?_
  refine own_al X86.here hx rfl (hb hby d3_71) rfl rfl ?_
  obtain ⟨T87, X87, e87, st87⟩ := getF X86 hx hZ hown (host := "") (Or.inl (own_w hw 21 rfl)) Via.refl e86 c80 (g := (mkF m 72 #[rv a1, rv wa, iv 5, iv 5] [(.ref a1), (.int 8), (.ref b10)])) rfl rfl (hb hby d3_72)
  refine own_step st87 ?_
  refine own_step (own_lenJ X87 hx hZ e87 c77 (g := (mkF m 75 #[rv a1, rv wa, iv 5, iv 5] [(.ref b10), (.int 8), (.ref b10)])) rfl rfl (hb hby d3_75)) ?_
  clear X76 X85 X86 e76 e85 e86 hk84 st85 st86 st87
  show own_G p.tables e below _ (T87.setTop (mkF m 76 #[rv a1, rv wa, iv 5, iv 5] [(.int 11), (.int 8), (.ref b10)]))
  refine own_step (X87.ldc2Long hx hown (mvT hZ (own_w hw 30 rfl)) (g := (mkF m 76 #[rv a1, rv wa, iv 5, iv 5] [(.int 11), (.int 8), (.ref b10)])) rfl (hb hby d3_76)) ?_
  obtain ⟨_, _, ⟨T88, L88, k88, n88⟩, -, X88, ⟨Lc88, hQ88, l88, y88, z88⟩, st88⟩ := Jvm.LawKit.callS X87 hx (y := own_y7) hown (mvT hZ (own_w hw 31 rfl)) (mvT hZ (own_w hw 32 rfl)) (mvT hZ (own_w hw 33 rfl)) (mvT hZ (own_w hw 34 rfl)) (by decide) (backOf (W := 0) (rm7_n5 l Z a0 hw [] b10 (9223372036854775807 : Int64) (0 : Int64) (0 : Int64) (0 : Int64) (own_pk wt0 (0 : Int32)) (own_pk wt1 (1 : Int32)) (own_pk wt2 (2 : Int32)) (own_pk wt3 (3 : Int32)) (own_pk wt4 (4 : Int32)) (0 : Int64) (0 : Int64) (0 : Int64) h76 n0 (Nat.le_trans Z0 K76.1) c77 ge10) hZ (own_w hw 34 rfl) (own_w hw 33 rfl) (by decide) (by decide)) (g := (mkF m 79 #[rv a1, rv wa, iv 5, iv 5] [(.long 9223372036854775807), (.int 11), (.int 8), (.ref b10)])) rfl (by rw [hml]; rfl) (argsL := [(.ref b10), (.int 8), (.int 11), (.long 9223372036854775807)]) (rest := []) (lenOf pd_3_p5_2 rfl) rfl (own_wl rfl) (hb hby d3_79) (fun _ _ => ⟨rfl, e87, (by decide : 1 + 0 ≤ _), (by decide : 11 + 0 ≤ _)⟩)
  dsimp only [Pt.U, Pt.locs, Pt.cells, Pt.slots] at X88 l88 y88 z88 st88 hQ88
  subst y88 z88
  obtain ⟨rfl, N88q, K88q, w88_0⟩ := hQ88
  have c89 : Exa Z T88.heap a1 own_C := c78.keep K88q
  have c90 : Fld Z T88.heap a1 own_C "end" "I" (.int 8) := c79.keep K88q (ninS ne11 nin0)
  have c91 : Fld Z T88.heap a1 own_C "keys" "[J" (.ref b10) := c80.keep K88q (ninS ne11 nin0)
  have c92 : Fld Z T88.heap a1 own_C "nodes" "[I" .null := c81.keep K88q (ninS ne11 nin0)
  have c93 : own_Arj Z T88.heap wa [wt0, wt1, wt2, wt3, wt4] := c82.keep K88q (ninS ne12 nin0)
  have K88 : Keep h0 T88.heap [a1] := K76.trans K88q (allS (Or.inr sz10) all0)
  have N88 : Fr n0 L88 := by rw [l88]; exact Fr.app N76 N88q
  refine own_step st88 ?_
  refine own_go X88.here hx rfl (pc0 := 82) (pc' := 129) rfl (hb hby d3_82) (by decide) (by decide) ?_
  refine own_al X88.here hx rfl (hb hby d3_129) rfl rfl ?_
  obtain ⟨T95, X95, e95, st95⟩ := getF X88 hx hZ hown (host := "") (Or.inl (own_w hw 19 rfl)) Via.refl rfl c90 (g := (mkF m 130 #[rv a1, rv wa, iv 5, iv 5] [(.ref a1)])) rfl rfl (hb hby d3_130)
  refine own_step st95 ?_
  refine own_ic X95.here hx rfl (hb hby d3_133) ?_
  refine own_step (fun t k => XS.isub X95.here hx rfl (hb hby d3_134) rfl k) ?_
  clear K76 K88q N76 N88q X87 X88 c77 c78 c79 c80 c81 c82 e87 st88 st95
  show own_G p.tables e below _ (T95.setTop (mkF m 135 #[rv a1, rv wa, iv 5, iv 5] [(.int 7)]))
  obtain ⟨_, _, ⟨T96, L96, k96, n96⟩, -, X96, ⟨Lc96, hQ96, l96, y96, z96⟩, st96⟩ := Jvm.LawKit.callS X95 hx (y := own_y9) hown (mvT hZ (own_w hw 38 rfl)) (mvT hZ (own_w hw 39 rfl)) (mvT hZ (own_w hw 12 rfl)) (mvT hZ (own_w hw 40 rfl)) (by decide) (backOf (W := 0) (rm9 l Z a0 hw [] (7 : Int32) T88.heap n0 (Nat.le_trans Z0 K88.1) ) hZ (own_w hw 40 rfl) (own_w hw 12 rfl) (by decide) (by decide)) (g := (mkF m 135 #[rv a1, rv wa, iv 5, iv 5] [(.int 7)])) rfl (by rw [hml]; rfl) (argsL := [(.int 7)]) (rest := []) (lenOf pd_3_p5_3 rfl) rfl (own_wl rfl) (hb hby d3_135) (fun _ _ => ⟨rfl, e95, (by decide : 1 + 0 ≤ _), (by decide : 11 + 0 ≤ _)⟩)
  dsimp only [Pt.U, Pt.locs, Pt.cells, Pt.slots] at X96 l96 y96 z96 st96 hQ96
  subst y96 z96
  obtain ⟨rfl, N96q, e96⟩ := hQ96
  have N96 : Fr n0 L96 := by rw [l96]; exact Fr.app N88 N96q
  refine own_step st96 ?_
  show own_G p.tables e below _ (T96.setTop (mkF m 138 #[rv a1, rv wa, iv 5, iv 5] [(.int 3)]))
  refine own_step (fun t k => XS.istoreN X96.here hx rfl (hb hby d3_138) rfl (l' := #[rv a1, rv wa, iv 5, iv 3]) rfl k) ?_
  refine own_il X96.here hx rfl (hb hby d3_139) rfl ?_
  refine own_ic X96.here hx rfl (hb hby d3_140) ?_
  have hk97 : ¬ ((3 : Int32) < (3 : Int32)) := (by decide)
  refine own_step (fun t k => XS.icmpNo X96.here hx rfl (hb hby d3_141) rfl ((flt hk97).1) k) ?_
  show own_G p.tables e below _ (T96.setTop (mkF m 144 #[rv a1, rv wa, iv 5, iv 3] []))
  refine own_al X96.here hx rfl (hb hby d3_144) rfl rfl ?_
  refine own_il X96.here hx rfl (hb hby d3_145) rfl ?_
  refine own_ic X96.here hx rfl (hb hby d3_146) ?_
  obtain ⟨cq98, q98, q98'⟩ := c89.cell
  obtain ⟨_, _, ⟨T98, L98, k98, n98⟩, -, X98, ⟨Lc98, hQ98, l98, y98, z98⟩, st98⟩ := X96.privateBack hx (y := own_y10) hown (mvT hZ (own_w hw 41 rfl)) (mvT hZ (own_w hw 42 rfl)) (mvT hZ (own_sp10 hw)) (Cond.privateMethod_at (mvP hZ (own_w hw 43 rfl) (args := #[]))) (mvT hZ (own_w hw 44 rfl)) (by decide) (backOf (W := 0) (rm10_p l Z a0 hw [] a1 (3 : Int32) (0 : Int32) b10 [(0 : Int64), (0 : Int64), (0 : Int64), (own_pk wt0 (0 : Int32)), (own_pk wt1 (1 : Int32)), (own_pk wt2 (2 : Int32)), (own_pk wt3 (3 : Int32)), (own_pk wt4 (4 : Int32)), (9223372036854775807 : Int64), (9223372036854775807 : Int64), (9223372036854775807 : Int64)] T88.heap n0 (Nat.le_trans Z0 K88.1) c91 c92 w88_0 ((own_inb (by decide) (Nat.le_of_ble_eq_true rfl)) : own_Inb (3 : Int32) [(0 : Int64), (0 : Int64), (0 : Int64), (own_pk wt0 (0 : Int32)), (own_pk wt1 (1 : Int32)), (own_pk wt2 (2 : Int32)), (own_pk wt3 (3 : Int32)), (own_pk wt4 (4 : Int32)), (9223372036854775807 : Int64), (9223372036854775807 : Int64), (9223372036854775807 : Int64)].length) ((own_inb (by decide) (Nat.le_of_ble_eq_true rfl)) : own_Inb (0 : Int32) [(0 : Int64), (0 : Int64), (0 : Int64), (own_pk wt0 (0 : Int32)), (own_pk wt1 (1 : Int32)), (own_pk wt2 (2 : Int32)), (own_pk wt3 (3 : Int32)), (own_pk wt4 (4 : Int32)), (9223372036854775807 : Int64), (9223372036854775807 : Int64), (9223372036854775807 : Int64)].length) ge10 ne11) hZ (own_w hw 44 rfl) (own_w hw 12 rfl) (by decide) (by decide)) (g := (mkF m 147 #[rv a1, rv wa, iv 5, iv 3] [(.int 0), (.int 3), (.ref a1)])) rfl (by rw [hml]; rfl) (Steps.refl _) (a := a1) (by rw [e96]; exact q98) q98' (argsL := [(.int 3), (.int 0)]) (rest := []) (lenOf pd_3_p5_4 rfl) rfl (own_wl rfl) (hb hby d3_147) (fun _ _ => ⟨rfl, e96, (by decide : 1 + 0 ≤ _), (by decide : 11 + 0 ≤ _)⟩)
  dsimp only [Pt.U, Pt.locs, Pt.cells, Pt.slots] at X98 l98 y98 z98 st98 hQ98
  subst y98 z98
  obtain ⟨rfl, N98q, K98q, w98_0⟩ := hQ98
  have c99 : Exa Z T98.heap a1 own_C := c89.keep K98q
  have c100 : Fld Z T98.heap a1 own_C "end" "I" (.int 8) := c90.keep K98q (ninS ne11 nin0)
  have c101 : Fld Z T98.heap a1 own_C "keys" "[J" (.ref b10) := c91.keep K98q (ninS ne11 nin0)
  have c102 : Fld Z T98.heap a1 own_C "nodes" "[I" .null := c92.keep K98q (ninS ne11 nin0)
  have c103 : own_Arj Z T98.heap wa [wt0, wt1, wt2, wt3, wt4] := c93.keep K98q (ninS ne12 nin0)
  have K98 : Keep h0 T98.heap [a1] := K88.trans K98q (allS (Or.inr sz10) all0)
  have c105 : own_Arj Z T98.heap b10 [(own_pk wt0 (0 : Int32)), 0, 0, (own_pk wt0 (0 : Int32)), (own_pk wt1 (1 : Int32)), (own_pk wt2 (2 : Int32)), (own_pk wt3 (3 : Int32)), (own_pk wt4 (4 : Int32)), 9223372036854775807, 9223372036854775807, 9223372036854775807] := w98_0
  have N98 : Fr n0 L98 := by rw [l98]; exact Fr.app N96 N98q
  refine own_step (fun t k => st98.trans k) ?_
  refine own_al X98.here hx rfl (hb hby d3_150) rfl rfl ?_
  refine own_il X98.here hx rfl (hb hby d3_151) rfl ?_
  obtain ⟨cq106, q106, q106'⟩ := c99.cell
  obtain ⟨_, _, ⟨T106, L106, k106, n106⟩, -, X106, ⟨Lc106, hQ106, l106, y106, z106⟩, st106⟩ := X98.privateBack hx (y := own_y11) hown (mvT hZ (own_w hw 47 rfl)) (mvT hZ (own_w hw 48 rfl)) (mvT hZ (own_sp11 hw)) (Cond.privateMethod_at (mvP hZ (own_w hw 49 rfl) (args := #[]))) (mvT hZ (own_w hw 50 rfl)) (by decide) (backOf (W := 0) (rm11_p l Z a0 hw [] a1 b10 (8 : Int32) [(own_pk wt0 (0 : Int32)), (0 : Int64), (0 : Int64), (own_pk wt0 (0 : Int32)), (own_pk wt1 (1 : Int32)), (own_pk wt2 (2 : Int32)), (own_pk wt3 (3 : Int32)), (own_pk wt4 (4 : Int32)), (9223372036854775807 : Int64), (9223372036854775807 : Int64), (9223372036854775807 : Int64)] T98.heap n0 (Nat.le_trans Z0 K98.1) c99 c101 c100 c102 c105 ((by decide) : (4 : Int32) < (8 : Int32)) ((by decide) : ¬ (8 : Int32) < (8 : Int32)) ((Nat.le_of_ble_eq_true rfl) : 8 ≤ [(own_pk wt0 (0 : Int32)), (0 : Int64), (0 : Int64), (own_pk wt0 (0 : Int32)), (own_pk wt1 (1 : Int32)), (own_pk wt2 (2 : Int32)), (own_pk wt3 (3 : Int32)), (own_pk wt4 (4 : Int32)), (9223372036854775807 : Int64), (9223372036854775807 : Int64), (9223372036854775807 : Int64)].length) ge10 ne11) hZ (own_w hw 50 rfl) (own_w hw 12 rfl) (by decide) (by decide)) (g := (mkF m 152 #[rv a1, rv wa, iv 5, iv 3] [(.int 3), (.ref a1)])) rfl (by rw [hml]; rfl) (Steps.refl _) (a := a1) q106 q106' (argsL := [(.int 3)]) (rest := []) (lenOf pd_3_p5_5 rfl) rfl (own_wl rfl) (hb hby d3_152) (fun _ _ => ⟨rfl, rfl, (by decide : 1 + 0 ≤ _), (by decide : 11 + 0 ≤ _)⟩)
  dsimp only [Pt.U, Pt.locs, Pt.cells, Pt.slots] at X106 l106 y106 z106 st106 hQ106
  subst y106 z106
  obtain ⟨bx106_L_ky, rfl, N106q, K106q, w106_0, pr106_0⟩ := hQ106
  have c107 : Exa Z T106.heap a1 own_C := c99.keep K106q
  have c108 : Fld Z T106.heap a1 own_C "end" "I" (.int 8) := c100.keep K106q (ninS ne11 nin0)
  have c109 : Fld Z T106.heap a1 own_C "keys" "[J" (.ref b10) := c101.keep K106q (ninS ne11 nin0)
  have c110 : Fld Z T106.heap a1 own_C "nodes" "[I" .null := c102.keep K106q (ninS ne11 nin0)
  have c111 : own_Arj Z T106.heap wa [wt0, wt1, wt2, wt3, wt4] := c103.keep K106q (ninS ne12 nin0)
  have K106 : Keep h0 T106.heap [a1] := K98.trans K106q (allS (Or.inr sz10) all0)
  have N106 : Fr n0 L106 := by rw [l106]; exact Fr.app N98 N106q
  refine own_step (fun t k => st106.trans k) ?_
  clear K106q K88 K98 K98q N106q N88 N96 N96q N98 N98q X95 X96 X98 c100 c101 c102 c103 c105 c89 c90 c91 c92 c93 c99 e95 e96 hk97 q106 q106' q98 q98' st106 st96 st98 w88_0 w98_0
  show own_G p.tables e below _ (T106.setTop (mkF m 155 #[rv a1, rv wa, iv 5, iv 3] []))
  refine own_step (fun t k => XS.iinc X106.here hx rfl (hb hby d3_155) rfl (l' := #[rv a1, rv wa, iv 5, iv 2]) rfl k) ?_
  refine own_go X106.here hx rfl (pc0 := 158) (pc' := 139) rfl (hb hby d3_158) (by decide) (by decide) ?_
  refine own_il X106.here hx rfl (hb hby d3_139) rfl ?_
  refine own_ic X106.here hx rfl (hb hby d3_140) ?_
  have hk113 : (2 : Int32) < (3 : Int32) := (by decide)
  refine own_step (fun t k => XS.icmpYes X106.here hx rfl (pc0 := 141) (pc' := 161) rfl (hb hby d3_141) rfl ((tlt hk113).1) (by decide) (by decide) k) ?_
  show own_G p.tables e below _ (T106.setTop (mkF m 161 #[rv a1, rv wa, iv 5, iv 2] []))
  obtain ⟨fs, hr, hrun, hended, hW, hsame⟩ := X106.leave (v := none) (fun _ => rfl)
  refine own_done (X106.returnOut hx Bd.returns (hb hby d3_161) hr) hrun hended ⟨_, _, rfl, ?_, ⟨_, rfl⟩, hW, hsame.mono (by decide) (by decide)⟩
  show Q3_p5 Z a1 wa wt0 wt1 wt2 wt3 wt4 h0 n0 _ T106.heap _
  exact ⟨b10, _, rfl, N106, K106, c108, c109, c110, w106_0, sz10, (by have hbq := own_f5b_n5 hpk; obtain ⟨hbq0, hbq1, hbq2, hbq3, hbq4⟩ := hbq; exact ⟨pr106_0.1, (own_P (own_R_pk (i := 0) hnn0 hbq0 (by decide) (by decide)) (own_R_pk (i := 1) hnn1 hbq1 (by decide) (by decide)) (own_R_pk (i := 2) hnn2 hbq2 (by decide) (by decide)) (own_R_pk (i := 3) hnn3 hbq3 (by decide) (by decide)) (own_R_pk (i := 4) hnn4 hbq4 (by decide) (by decide)) pr106_0.2).trans (by omega)⟩)⟩
theorem pn_3_u5 : plainName "com/example/leafcode/leafcode/FourWayHeap" = true := by first | (simp [plainName, overriddenIn]; done) | decide +kernel
theorem pd_3_u5_0 : parseMethodDescriptor "([J)Z" = some ⟨[(.array .long)], some .boolean⟩ := by decide +kernel
theorem pd_3_u5_1 : parseMethodDescriptor "(I)I" = some ⟨[.int], some .int⟩ := by decide +kernel
theorem pd_3_u5_2 : parseMethodDescriptor "(II)V" = some ⟨[.int, .int], none⟩ := by decide +kernel
theorem pd_3_u5_3 : parseMethodDescriptor "(I)V" = some ⟨[.int], none⟩ := by decide +kernel
theorem ef_3_u5 (m : MethodId) (a1 : Addr) (wa : Addr) : entryFrame m #[(.ref a1), (.ref wa)] 4 = mkF m 0 #[rv a1, rv wa, .unset, .unset] [] := by first | (simp [entryFrame, mkF, argsToLocals, Value.category]; done) | rfl
def Q3_u5 (Z : State) (a1 : Addr) (wa : Addr) (wt0 : Int64) (wt1 : Int64) (wt2 : Int64) (wt3 : Int64) (wt4 : Int64) (h0 : Heap) (n0 : Nat) (v : Option Value) (h : Heap) (L : List Loc) : Prop := ∃ (x1 : Addr) (x2 : Addr) (L_x1 : List Int64) (L_x2 : List Int32), v = none ∧ Fr n0 L ∧ Keep h0 h [a1] ∧ Fld Z h a1 own_C "end" "I" (.int 8) ∧ Fld Z h a1 own_C "keys" "[J" (.ref x1) ∧ Fld Z h a1 own_C "nodes" "[I" (.ref x2) ∧ own_Arj Z h x1 L_x1 ∧ own_Ari Z h x2 .int L_x2 ∧ h0.size ≤ x1 ∧ h0.size ≤ x2 ∧ x1 ≠ x2 ∧ (L_x1.length = 11 ∧ (L_x1.getD 3 0).toInt = (min (min (min (min wt0.toInt wt1.toInt) wt2.toInt) wt3.toInt) wt4.toInt)) ∧ (True)
set_option maxRecDepth 65536 in
set_option maxHeartbeats 40000000 in
theorem rm3_u5 (l : Launch) (Z : State) (a0 : Array Value) (hw : ∀ d ∈ tables_1, d.before a0 Z = true) (ws : List Jvm.Cond) (a1 : Addr) (wa : Addr) (wt0 : Int64) (wt1 : Int64) (wt2 : Int64) (wt3 : Int64) (wt4 : Int64) (h0 : Heap) (n0 : Nat) (Z0 : n0 ≤ h0.size) (fp0 : Exa Z h0 a1 own_C) (fp1 : Fld Z h0 a1 own_C "end" "I" (.int 0)) (fp2 : Fld Z h0 a1 own_C "keys" "[J" .null) (fp3 : Fld Z h0 a1 own_C "nodes" "[I" .null) (fp4 : own_Arj Z h0 wa [wt0, wt1, wt2, wt3, wt4]) (hpk : own_f5_n5 wt0 wt1 wt2 wt3 wt4 = 0) (g_a1 : n0 ≤ a1) (ne_wa_a1 : wa ≠ a1) :
    MetFree l (⟨"com/example/leafcode/leafcode/FourWayHeap", "<init>", "([J)V"⟩ : MethodName) (head1 (Jvm.Cond.code (⟨"com/example/leafcode/leafcode/FourWayHeap", "<init>", "([J)V"⟩ : MethodName) prog_20_method_1_code 4 none :: ws) ({ frames := 4, cells := 2, slots := 22, locals := 83 } : Room)) (fun a U => a = #[(.ref a1), (.ref wa)] ∧ Z.Warmed39 U.vm ∧ U.heap = h0) (fun _ _ _ _ _ => True) (fun _ U o U' => ∃ v L, o = .returned v ∧ Q3_u5 Z a1 wa wt0 wt1 wt2 wt3 wt4 h0 n0 v U'.heap L ∧ FrameEnd U o U' L ({ frames := 4, cells := 2, slots := 22, locals := 83 } : Room).cells ({ frames := 4, cells := 2, slots := 22, locals := 83 } : Room).slots) := by
  refine MetFree.of_bodySF (plainFor_of_name pn_3_u5) hisR ?_
  intro p e s m args below meth c s₁ Bd hml0 hP hK
  obtain ⟨rfl, hZ, hh⟩ := hP
  have hx := Bd.exec
  have hby := Bd.bytes
  have hml : c.maxLocals = 4 := hml0
  have hown : s.vm.findClass "com/example/leafcode/leafcode/FourWayHeap" = some m.cls := findClass_of_methodNamed Bd.named
  have hnm := (name_of_methodNamed Bd.named Bd.method).1
  have X0 : Stand p l e ({ frames := 4, cells := 2, slots := 22, locals := 83 } : Room) s m #[(.ref a1), (.ref wa)] below meth c s₁ [] 0 0 := Stand.of_body Bd
  have e0 : s₁.heap = h0 := by rw [← hh, Bd.state]; rfl
  have N0 := Fr.nil n0
  refine own_start (fun t k => castTop (ef_3_u5 m a1 wa) k) ?_
  show own_G p.tables e below _ (s₁.setTop (mkF m 0 #[rv a1, rv wa, .unset, .unset] []))
  refine own_al X0.here hx rfl (hb hby d3_0) rfl rfl ?_
  obtain ⟨T1, X1, e1, st1⟩ := initO X0 hx hZ hown (own_w hw 16 rfl) (own_w hw 17 rfl) (own_w hw 18 rfl) e0 (g := (mkF m 1 #[rv a1, rv wa, .unset, .unset] [(.ref a1)])) rfl (by rw [hml]; rfl) rfl (hb hby d3_1) (by decide) (W := 0) (by show 2 * 0 + _ ≤ _; exact Nat.le_of_eq rfl) (by decide)
  refine own_step st1 ?_
  refine own_al X1.here hx rfl (hb hby d3_4) rfl rfl ?_
  refine own_step (own_lenJ X1 hx hZ e1 fp4 (g := (mkF m 5 #[rv a1, rv wa, .unset, .unset] [(.ref wa)])) rfl rfl (hb hby d3_5)) ?_
  refine own_step (fun t k => XS.istoreN X1.here hx rfl (hb hby d3_6) rfl (l' := #[rv a1, rv wa, iv 5, .unset]) rfl k) ?_
  refine own_al X1.here hx rfl (hb hby d3_7) rfl rfl ?_
  refine own_ic X1.here hx rfl (hb hby d3_8) ?_
  show own_G p.tables e below _ (T1.setTop (mkF m 9 #[rv a1, rv wa, iv 5, .unset] [(.int 3), (.ref a1)]))
  refine own_il X1.here hx rfl (hb hby d3_9) rfl ?_
  refine own_step (fun t k => XS.iadd X1.here hx rfl (hb hby d3_10) rfl k) ?_
  obtain ⟨T2, h2, X2, e2, W2, st2⟩ := putF X1 hx hZ hown (host := "") (Or.inl (own_w hw 19 rfl)) Via.refl e1 fp1 fp0 (Or.inl (own_w hw 20 rfl)) (own_w hw 11 rfl) (ty := .int) (by decide) rfl rfl (g := (mkF m 11 #[rv a1, rv wa, iv 5, .unset] [(.int 8), (.ref a1)])) rfl rfl (hb hby d3_11)
  have N2 := Fr.snoc X2 N0 g_a1
  have c3 : Fld Z h2 a1 own_C "end" "I" (.int 8) := fp1.same W2
  have c4 : Exa Z h2 a1 own_C := fp0.wr W2
  have c6 : Fld Z h2 a1 own_C "keys" "[J" .null := fp2.other W2 (Or.inr (slot_ne (Or.inl (own_w hw 22 rfl)) (Or.inl (own_w hw 20 rfl)) (by decide) (t := (.array .long)) (t' := .int) (by decide) (by decide)))
  have c7 : Fld Z h2 a1 own_C "nodes" "[I" .null := fp3.other W2 (Or.inr (slot_ne (Or.inl (own_w hw 46 rfl)) (Or.inl (own_w hw 20 rfl)) (by decide) (t := (.array .int)) (t' := .int) (by decide) (by decide)))
  have c8 : own_Arj Z h2 wa [wt0, wt1, wt2, wt3, wt4] := fp4.other W2 ne_wa_a1
  have K2 : Keep h0 h2 [a1] := (Keep.refl h0 [a1]).wr W2 (Or.inl (List.mem_of_getElem? (i := 0) rfl))
  refine own_step st2 ?_
  refine own_al X2.here hx rfl (hb hby d3_14) rfl rfl ?_
  refine own_al X2.here hx rfl (hb hby d3_15) rfl rfl ?_
  obtain ⟨T9, X9, e9, st9⟩ := getF X2 hx hZ hown (host := "") (Or.inl (own_w hw 19 rfl)) Via.refl e2 c3 (g := (mkF m 16 #[rv a1, rv wa, iv 5, .unset] [(.ref a1), (.ref a1)])) rfl rfl (hb hby d3_16)
  refine own_step st9 ?_
  refine own_ic X9.here hx rfl (hb hby d3_19) ?_
  show own_G p.tables e below _ (T9.setTop (mkF m 20 #[rv a1, rv wa, iv 5, .unset] [(.int 4), (.int 8), (.ref a1)]))
  refine own_step (fun t k => XS.iadd X9.here hx rfl (hb hby d3_20) rfl k) ?_
  refine own_ic X9.here hx rfl (hb hby d3_21) ?_
  refine own_step (fun t k => XS.isub X9.here hx rfl (hb hby d3_22) rfl k) ?_
  obtain ⟨T10, h10, k10, X10, e10, E10, A10, st10⟩ := newP X9 hx hZ (own_w hw 5 rfl) e9 (g := (mkF m 23 #[rv a1, rv wa, iv 5, .unset] [(.int 11), (.ref a1)])) rfl (hb hby d3_23) rfl (by decide) (cap := 11) (by decide) (by decide) (by decide) (by decide)
  obtain ⟨b10, g10⟩ : ∃ z, z = h2.size := ⟨_, rfl⟩
  have ne11 : a1 ≠ b10 := Nat.ne_of_lt (Nat.lt_of_lt_of_le c4.lt (Nat.le_of_eq g10.symm))
  have ne12 : wa ≠ b10 := Nat.ne_of_lt (Nat.lt_of_lt_of_le c8.lt (Nat.le_of_eq g10.symm))
  have sz10 : h0.size ≤ b10 := Nat.le_trans K2.1 (Nat.le_of_eq g10.symm)
  have ge10 : n0 ≤ b10 := Nat.le_trans Z0 sz10
  have c13 : Exa Z h10 a1 own_C := c4.ext E10
  have c14 : Fld Z h10 a1 own_C "end" "I" (.int 8) := c3.ext E10
  have c15 : Fld Z h10 a1 own_C "keys" "[J" .null := c6.ext E10
  have c16 : Fld Z h10 a1 own_C "nodes" "[I" .null := c7.ext E10
  have c17 : own_Arj Z h10 wa [wt0, wt1, wt2, wt3, wt4] := c8.ext E10
  have K10 : Keep h0 h10 [a1] := K2.ext E10
  rw [← g10] at A10 st10
  have c18 : own_Arj Z h10 b10 [0, 0, 0, 0, 0, 0, 0, 0, 0, 0, 0] := own_Arj_new A10 (by decide)
  refine own_step st10 ?_
  obtain ⟨T19, h19, X19, e19, W19, st19⟩ := putF X10 hx hZ hown (host := "") (Or.inl (own_w hw 21 rfl)) Via.refl e10 c15 c13 (Or.inl (own_w hw 22 rfl)) (own_w hw 11 rfl) (ty := (.array .long)) (by decide) rfl rfl (g := (mkF m 25 #[rv a1, rv wa, iv 5, .unset] [(.ref b10), (.ref a1)])) rfl rfl (hb hby d3_25)
  have N19 := Fr.snoc X19 N2 g_a1
  have c20 : Fld Z h19 a1 own_C "keys" "[J" (.ref b10) := c15.same W19
  have c21 : Exa Z h19 a1 own_C := c13.wr W19
  have c22 : Fld Z h19 a1 own_C "end" "I" (.int 8) := c14.other W19 (Or.inr (slot_ne (Or.inl (own_w hw 20 rfl)) (Or.inl (own_w hw 22 rfl)) (by decide) (t := .int) (t' := (.array .long)) (by decide) (by decide)))
  have c24 : Fld Z h19 a1 own_C "nodes" "[I" .null := c16.other W19 (Or.inr (slot_ne (Or.inl (own_w hw 46 rfl)) (Or.inl (own_w hw 22 rfl)) (by decide) (t := (.array .int)) (t' := (.array .long)) (by decide) (by decide)))
  have c25 : own_Arj Z h19 wa [wt0, wt1, wt2, wt3, wt4] := c17.other W19 ne_wa_a1
  have c26 : own_Arj Z h19 b10 [0, 0, 0, 0, 0, 0, 0, 0, 0, 0, 0] := c18.other W19 (Ne.symm ne11)
  have K19 : Keep h0 h19 [a1] := K10.wr W19 (Or.inl (List.mem_of_getElem? (i := 0) rfl))
  refine own_step st19 ?_
  refine own_al X19.here hx rfl (hb hby d3_28) rfl rfl ?_
  obtain ⟨_, _, ⟨T27, L27, k27, n27⟩, -, X27, ⟨Lc27, hQ27, l27, y27, z27⟩, st27⟩ := Jvm.LawKit.callS X19 hx (y := own_y5) hown (mvT hZ (own_w hw 23 rfl)) (mvT hZ (own_w hw 24 rfl)) (mvT hZ (own_w hw 12 rfl)) (mvT hZ (own_w hw 25 rfl)) (by decide) (backOf (W := 0) (rm5_n5 l Z a0 hw [] wa wt0 wt1 wt2 wt3 wt4 h19 n0 (Nat.le_trans Z0 K19.1) c25) hZ (own_w hw 25 rfl) (own_w hw 12 rfl) (by decide) (by decide)) (g := (mkF m 29 #[rv a1, rv wa, iv 5, .unset] [(.ref wa)])) rfl (by rw [hml]; rfl) (argsL := [(.ref wa)]) (rest := []) (lenOf pd_3_u5_0 rfl) rfl (own_wl rfl) (hb hby d3_29) (fun _ _ => ⟨rfl, e19, (by decide : 1 + 0 ≤ _), (by decide : 11 + 0 ≤ _)⟩)
  dsimp only [Pt.U, Pt.locs, Pt.cells, Pt.slots] at X27 l27 y27 z27 st27 hQ27
  subst y27 z27
  obtain ⟨rfl, N27q, e27⟩ := hQ27
  have N27 : Fr n0 L27 := by rw [l27]; exact Fr.app N19 N27q
  refine own_step st27 ?_
  clear A10 E10 K10 K2 N19 N2 N27q W19 W2 X1 X10 X19 X2 X9 c13 c14 c15 c16 c17 c18 c3 c4 c6 c7 c8 e1 e10 e19 e2 e9 g10 st1 st10 st19 st2 st27 st9
  show own_G p.tables e below _ (T27.setTop (mkF m 32 #[rv a1, rv wa, iv 5, .unset] [(.int (own_f5_n5 wt0 wt1 wt2 wt3 wt4))]))
  have hk28 : (own_f5_n5 wt0 wt1 wt2 wt3 wt4) = (0 : Int32) := hpk
  refine own_step (fun t k => XS.ifYes X27.here hx rfl (pc0 := 32) (pc' := 85) rfl (hb hby d3_32) rfl ((if0 _ _).trans (teq hk28).1) (by decide) (by decide) k) ?_
  show own_G p.tables e below _ (T27.setTop (mkF m 85 #[rv a1, rv wa, iv 5, .unset] []))
  refine own_al X27.here hx rfl (hb hby d3_85) rfl rfl ?_
  refine own_al X27.here hx rfl (hb hby d3_86) rfl rfl ?_
  obtain ⟨T29, X29, e29, st29⟩ := getF X27 hx hZ hown (host := "") (Or.inl (own_w hw 21 rfl)) Via.refl e27 c20 (g := (mkF m 87 #[rv a1, rv wa, iv 5, .unset] [(.ref a1), (.ref a1)])) rfl rfl (hb hby d3_87)
  refine own_step st29 ?_
  refine own_step (own_lenJ X29 hx hZ e29 c26 (g := (mkF m 90 #[rv a1, rv wa, iv 5, .unset] [(.ref b10), (.ref a1)])) rfl rfl (hb hby d3_90)) ?_
  obtain ⟨T30, h30, k30, X30, e30, E30, A30, st30⟩ := newP X29 hx hZ (own_w hw 68 rfl) e29 (g := (mkF m 91 #[rv a1, rv wa, iv 5, .unset] [(.int 11), (.ref a1)])) rfl (hb hby d3_91) rfl (by decide) (cap := 11) (by decide) (by decide) (by decide) (by decide)
  obtain ⟨b30, g30⟩ : ∃ z, z = h19.size := ⟨_, rfl⟩
  have ne31 : a1 ≠ b30 := Nat.ne_of_lt (Nat.lt_of_lt_of_le c21.lt (Nat.le_of_eq g30.symm))
  have ne32 : wa ≠ b30 := Nat.ne_of_lt (Nat.lt_of_lt_of_le c25.lt (Nat.le_of_eq g30.symm))
  have ne33 : b10 ≠ b30 := Nat.ne_of_lt (Nat.lt_of_lt_of_le c26.lt (Nat.le_of_eq g30.symm))
  have sz30 : h0.size ≤ b30 := Nat.le_trans K19.1 (Nat.le_of_eq g30.symm)
  have ge30 : n0 ≤ b30 := Nat.le_trans Z0 sz30
  have c34 : Exa Z h30 a1 own_C := c21.ext E30
  have c35 : Fld Z h30 a1 own_C "end" "I" (.int 8) := c22.ext E30
  have c36 : Fld Z h30 a1 own_C "keys" "[J" (.ref b10) := c20.ext E30
  have c37 : Fld Z h30 a1 own_C "nodes" "[I" .null := c24.ext E30
  have c38 : own_Arj Z h30 wa [wt0, wt1, wt2, wt3, wt4] := c25.ext E30
  have c39 : own_Arj Z h30 b10 [0, 0, 0, 0, 0, 0, 0, 0, 0, 0, 0] := c26.ext E30
  have K30 : Keep h0 h30 [a1] := K19.ext E30
  rw [← g30] at A30 st30
  have c40 : own_Ari Z h30 b30 .int [0, 0, 0, 0, 0, 0, 0, 0, 0, 0, 0] := own_Ari_new (ty := .int) A30 (by decide) rfl
  refine own_step st30 ?_
  obtain ⟨T41, h41, X41, e41, W41, st41⟩ := putF X30 hx hZ hown (host := "") (Or.inl (own_w hw 45 rfl)) Via.refl e30 c37 c34 (Or.inl (own_w hw 46 rfl)) (own_w hw 11 rfl) (ty := (.array .int)) (by decide) rfl rfl (g := (mkF m 93 #[rv a1, rv wa, iv 5, .unset] [(.ref b30), (.ref a1)])) rfl rfl (hb hby d3_93)
  have N41 := Fr.snoc X41 N27 g_a1
  have c42 : Fld Z h41 a1 own_C "nodes" "[I" (.ref b30) := c37.same W41
  have c43 : Exa Z h41 a1 own_C := c34.wr W41
  have c44 : Fld Z h41 a1 own_C "end" "I" (.int 8) := c35.other W41 (Or.inr (slot_ne (Or.inl (own_w hw 20 rfl)) (Or.inl (own_w hw 46 rfl)) (by decide) (t := .int) (t' := (.array .int)) (by decide) (by decide)))
  have c45 : Fld Z h41 a1 own_C "keys" "[J" (.ref b10) := c36.other W41 (Or.inr (slot_ne (Or.inl (own_w hw 22 rfl)) (Or.inl (own_w hw 46 rfl)) (by decide) (t := (.array .long)) (t' := (.array .int)) (by decide) (by decide)))
  have c47 : own_Arj Z h41 wa [wt0, wt1, wt2, wt3, wt4] := c38.other W41 ne_wa_a1
  have c48 : own_Arj Z h41 b10 [0, 0, 0, 0, 0, 0, 0, 0, 0, 0, 0] := c39.other W41 (Ne.symm ne11)
  have c49 : own_Ari Z h41 b30 .int [0, 0, 0, 0, 0, 0, 0, 0, 0, 0, 0] := c40.other W41 (Ne.symm ne31)
  have K41 : Keep h0 h41 [a1] := K30.wr W41 (Or.inl (List.mem_of_getElem? (i := 0) rfl))
  refine own_step st41 ?_
  refine own_al X41.here hx rfl (hb hby d3_96) rfl rfl ?_
  clear A30 E30 K19 K30 N27 W41 X27 X29 X30 c20 c21 c22 c24 c25 c26 c34 c35 c36 c37 c38 c39 c40 e27 e29 e30 g30 hk28 st29 st30 st41
  show own_G p.tables e below _ (T41.setTop (mkF m 97 #[rv a1, rv wa, iv 5, .unset] [(.ref wa)]))
  refine own_ic X41.here hx rfl (hb hby d3_97) ?_
  refine own_al X41.here hx rfl (hb hby d3_98) rfl rfl ?_
  obtain ⟨T50, X50, e50, st50⟩ := getF X41 hx hZ hown (host := "") (Or.inl (own_w hw 21 rfl)) Via.refl e41 c45 (g := (mkF m 99 #[rv a1, rv wa, iv 5, .unset] [(.ref a1), (.int 0), (.ref wa)])) rfl rfl (hb hby d3_99)
  refine own_step st50 ?_
  refine own_ic X50.here hx rfl (hb hby d3_102) ?_
  refine own_il X50.here hx rfl (hb hby d3_103) rfl ?_
  obtain ⟨T51, h51, L51, X51, e51, N51, K51q, A51, st51⟩ := own_cpJ X50 hx hZ hown (own_w hw 69 rfl) (own_w hw 72 rfl) (own_w hw 70 rfl) (own_w hw 71 rfl) e50 c47 c48 (by decide) (by decide) (by decide) (Nat.le_of_ble_eq_true rfl) (Nat.le_of_ble_eq_true rfl) N41 ge10 (g := (mkF m 104 #[rv a1, rv wa, iv 5, .unset] [(.int 5), (.int 3), (.ref b10), (.int 0), (.ref wa)])) rfl (by rw [hml]; rfl) rfl (hb hby d3_104) (by decide) (W := 0) (by show 2 * 0 + _ ≤ _; exact Nat.le_of_eq rfl) (by decide)
  have c52 : Exa Z h51 a1 own_C := c43.keep K51q
  have c53 : Fld Z h51 a1 own_C "end" "I" (.int 8) := c44.keep K51q (ninS ne11 nin0)
  have c54 : Fld Z h51 a1 own_C "keys" "[J" (.ref b10) := c45.keep K51q (ninS ne11 nin0)
  have c55 : Fld Z h51 a1 own_C "nodes" "[I" (.ref b30) := c42.keep K51q (ninS ne11 nin0)
  have c56 : own_Arj Z h51 wa [wt0, wt1, wt2, wt3, wt4] := c47.keep K51q (ninS ne12 nin0)
  have c58 : own_Ari Z h51 b30 .int [0, 0, 0, 0, 0, 0, 0, 0, 0, 0, 0] := c49.keep K51q (ninS (Ne.symm ne33) nin0)
  have c59 : own_Arj Z h51 b10 [0, 0, 0, wt0, wt1, wt2, wt3, wt4, 0, 0, 0] := A51
  have K51 : Keep h0 h51 [a1] := K41.trans K51q (allS (Or.inr sz10) all0)
  refine own_step st51 ?_
  refine own_ic X51.here hx rfl (hb hby d3_107) ?_
  clear A51 K41 K51q N41 X41 X50 c42 c43 c44 c45 c47 c48 c49 e41 e50 st50 st51
  show own_G p.tables e below _ (T51.setTop (mkF m 108 #[rv a1, rv wa, iv 5, .unset] [(.int 0)]))
  refine own_step (fun t k => XS.istoreN X51.here hx rfl (hb hby d3_108) rfl (l' := #[rv a1, rv wa, iv 5, iv 0]) rfl k) ?_
  refine own_il X51.here hx rfl (hb hby d3_109) rfl ?_
  refine own_il X51.here hx rfl (hb hby d3_110) rfl ?_
  have hk60 : (0 : Int32) < (5 : Int32) := (by decide)
  refine own_step (fun t k => XS.icmpNo X51.here hx rfl (hb hby d3_111) rfl ((tlt hk60).2.1) k) ?_
  show own_G p.tables e below _ (T51.setTop (mkF m 114 #[rv a1, rv wa, iv 5, iv 0] []))
  refine own_al X51.here hx rfl (hb hby d3_114) rfl rfl ?_
  obtain ⟨T61, X61, e61, st61⟩ := getF X51 hx hZ hown (host := "") (Or.inl (own_w hw 45 rfl)) Via.refl e51 c55 (g := (mkF m 115 #[rv a1, rv wa, iv 5, iv 0] [(.ref a1)])) rfl rfl (hb hby d3_115)
  refine own_step st61 ?_
  refine own_ic X61.here hx rfl (hb hby d3_118) ?_
  refine own_il X61.here hx rfl (hb hby d3_119) rfl ?_
  refine own_step (fun t k => XS.iadd X61.here hx rfl (hb hby d3_120) rfl k) ?_
  refine own_il X61.here hx rfl (hb hby d3_121) rfl ?_
  obtain ⟨T62, h62, X62, e62, W62, c62, st62⟩ := own_iastore X61 hx hZ e61 c58 (own_inb (by decide) (Nat.le_of_ble_eq_true rfl)) (g := (mkF m 122 #[rv a1, rv wa, iv 5, iv 0] [(.int 0), (.int 3), (.ref b30)])) rfl rfl (hb hby d3_122)
  have N62 := Fr.snoc X62 N51 ge30
  have c63 : own_Ari Z h62 b30 .int [0, 0, 0, 0, 0, 0, 0, 0, 0, 0, 0] := c62
  have c64 : Exa Z h62 a1 own_C := c52.wr W62
  have c65 : Fld Z h62 a1 own_C "end" "I" (.int 8) := c53.other W62 (Or.inl ne31)
  have c66 : Fld Z h62 a1 own_C "keys" "[J" (.ref b10) := c54.other W62 (Or.inl ne31)
  have c67 : Fld Z h62 a1 own_C "nodes" "[I" (.ref b30) := c55.other W62 (Or.inl ne31)
  have c68 : own_Arj Z h62 wa [wt0, wt1, wt2, wt3, wt4] := c56.other W62 ne32
  have c69 : own_Arj Z h62 b10 [0, 0, 0, wt0, wt1, wt2, wt3, wt4, 0, 0, 0] := c59.other W62 ne33
  have K62 : Keep h0 h62 [a1] := K51.wr W62 (Or.inr sz30)
  refine own_step st62 ?_
  clear K51 N51 W62 X51 X61 c52 c53 c54 c55 c56 c58 c59 c62 e51 e61 hk60 st61 st62
  show own_G p.tables e below _ (T62.setTop (mkF m 123 #[rv a1, rv wa, iv 5, iv 0] []))
  refine own_step (fun t k => XS.iinc X62.here hx rfl (hb hby d3_123) rfl (l' := #[rv a1, rv wa, iv 5, iv 1]) rfl k) ?_
  refine own_go X62.here hx rfl (pc0 := 126) (pc' := 109) rfl (hb hby d3_126) (by decide) (by decide) ?_
  refine own_il X62.here hx rfl (hb hby d3_109) rfl ?_
  refine own_il X62.here hx rfl (hb hby d3_110) rfl ?_
  have hk71 : (1 : Int32) < (5 : Int32) := (by decide)
  refine own_step (fun t k => XS.icmpNo X62.here hx rfl (hb hby d3_111) rfl ((tlt hk71).2.1) k) ?_
  show own_G p.tables e below _ (T62.setTop (mkF m 114 #[rv a1, rv wa, iv 5, iv 1] []))
  refine own_al X62.here hx rfl (hb hby d3_114) rfl rfl ?_
  obtain ⟨T72, X72, e72, st72⟩ := getF X62 hx hZ hown (host := "") (Or.inl (own_w hw 45 rfl)) Via.refl e62 c67 (g := (mkF m 115 #[rv a1, rv wa, iv 5, iv 1] [(.ref a1)])) rfl rfl (hb hby d3_115)
  refine own_step st72 ?_
  refine own_ic X72.here hx rfl (hb hby d3_118) ?_
  refine own_il X72.here hx rfl (hb hby d3_119) rfl ?_
  refine own_step (fun t k => XS.iadd X72.here hx rfl (hb hby d3_120) rfl k) ?_
  refine own_il X72.here hx rfl (hb hby d3_121) rfl ?_
  obtain ⟨T73, h73, X73, e73, W73, c73, st73⟩ := own_iastore X72 hx hZ e72 c63 (own_inb (by decide) (Nat.le_of_ble_eq_true rfl)) (g := (mkF m 122 #[rv a1, rv wa, iv 5, iv 1] [(.int 1), (.int 4), (.ref b30)])) rfl rfl (hb hby d3_122)
  have N73 := Fr.snoc X73 N62 ge30
  have c74 : own_Ari Z h73 b30 .int [0, 0, 0, 0, 1, 0, 0, 0, 0, 0, 0] := c73
  have c75 : Exa Z h73 a1 own_C := c64.wr W73
  have c76 : Fld Z h73 a1 own_C "end" "I" (.int 8) := c65.other W73 (Or.inl ne31)
  have c77 : Fld Z h73 a1 own_C "keys" "[J" (.ref b10) := c66.other W73 (Or.inl ne31)
  have c78 : Fld Z h73 a1 own_C "nodes" "[I" (.ref b30) := c67.other W73 (Or.inl ne31)
  have c79 : own_Arj Z h73 wa [wt0, wt1, wt2, wt3, wt4] := c68.other W73 ne32
  have c80 : own_Arj Z h73 b10 [0, 0, 0, wt0, wt1, wt2, wt3, wt4, 0, 0, 0] := c69.other W73 ne33
  have K73 : Keep h0 h73 [a1] := K62.wr W73 (Or.inr sz30)
  refine own_step st73 ?_
  clear K62 N62 W73 X62 X72 c63 c64 c65 c66 c67 c68 c69 c73 e62 e72 hk71 st72 st73
  show own_G p.tables e below _ (T73.setTop (mkF m 123 #[rv a1, rv wa, iv 5, iv 1] []))
  refine own_step (fun t k => XS.iinc X73.here hx rfl (hb hby d3_123) rfl (l' := #[rv a1, rv wa, iv 5, iv 2]) rfl k) ?_
  refine own_go X73.here hx rfl (pc0 := 126) (pc' := 109) rfl (hb hby d3_126) (by decide) (by decide) ?_
  refine own_il X73.here hx rfl (hb hby d3_109) rfl ?_
  refine own_il X73.here hx rfl (hb hby d3_110) rfl ?_
  have hk82 : (2 : Int32) < (5 : Int32) := (by decide)
  refine own_step (fun t k => XS.icmpNo X73.here hx rfl (hb hby d3_111) rfl ((tlt hk82).2.1) k) ?_
  show own_G p.tables e below _ (T73.setTop (mkF m 114 #[rv a1, rv wa, iv 5, iv 2] []))
  refine own_al X73.here hx rfl (hb hby d3_114) rfl rfl ?_
  obtain ⟨T83, X83, e83, st83⟩ := getF X73 hx hZ hown (host := "") (Or.inl (own_w hw 45 rfl)) Via.refl e73 c78 (g := (mkF m 115 #[rv a1, rv wa, iv 5, iv 2] [(.ref a1)])) rfl rfl (hb hby d3_115)
  refine own_step st83 ?_
  refine own_ic X83.here hx rfl (hb hby d3_118) ?_
  refine own_il X83.here hx rfl (hb hby d3_119) rfl ?_
  refine own_step (fun t k => XS.iadd X83.here hx rfl (hb hby d3_120) rfl k) ?_
  refine own_il X83.here hx rfl (hb hby d3_121) rfl ?_
  obtain ⟨T84, h84, X84, e84, W84, c84, st84⟩ := own_iastore X83 hx hZ e83 c74 (own_inb (by decide) (Nat.le_of_ble_eq_true rfl)) (g := (mkF m 122 #[rv a1, rv wa, iv 5, iv 2] [(.int 2), (.int 5), (.ref b30)])) rfl rfl (hb hby d3_122)
  have N84 := Fr.snoc X84 N73 ge30
  have c85 : own_Ari Z h84 b30 .int [0, 0, 0, 0, 1, 2, 0, 0, 0, 0, 0] := c84
  have c86 : Exa Z h84 a1 own_C := c75.wr W84
  have c87 : Fld Z h84 a1 own_C "end" "I" (.int 8) := c76.other W84 (Or.inl ne31)
  have c88 : Fld Z h84 a1 own_C "keys" "[J" (.ref b10) := c77.other W84 (Or.inl ne31)
  have c89 : Fld Z h84 a1 own_C "nodes" "[I" (.ref b30) := c78.other W84 (Or.inl ne31)
  have c90 : own_Arj Z h84 wa [wt0, wt1, wt2, wt3, wt4] := c79.other W84 ne32
  have c91 : own_Arj Z h84 b10 [0, 0, 0, wt0, wt1, wt2, wt3, wt4, 0, 0, 0] := c80.other W84 ne33
  have K84 : Keep h0 h84 [a1] := K73.wr W84 (Or.inr sz30)
  refine own_step st84 ?_
  clear K73 N73 W84 X73 X83 c74 c75 c76 c77 c78 c79 c80 c84 e73 e83 hk82 st83 st84
  show own_G p.tables e below _ (T84.setTop (mkF m 123 #[rv a1, rv wa, iv 5, iv 2] []))
  refine own_step (fun t k => XS.iinc X84.here hx rfl (hb hby d3_123) rfl (l' := #[rv a1, rv wa, iv 5, iv 3]) rfl k) ?_
  refine own_go X84.here hx rfl (pc0 := 126) (pc' := 109) rfl (hb hby d3_126) (by decide) (by decide) ?_
  refine own_il X84.here hx rfl (hb hby d3_109) rfl ?_
  refine own_il X84.here hx rfl (hb hby d3_110) rfl ?_
  have hk93 : (3 : Int32) < (5 : Int32) := (by decide)
  refine own_step (fun t k => XS.icmpNo X84.here hx rfl (hb hby d3_111) rfl ((tlt hk93).2.1) k) ?_
  show own_G p.tables e below _ (T84.setTop (mkF m 114 #[rv a1, rv wa, iv 5, iv 3] []))
  refine own_al X84.here hx rfl (hb hby d3_114) rfl rfl ?_
  obtain ⟨T94, X94, e94, st94⟩ := getF X84 hx hZ hown (host := "") (Or.inl (own_w hw 45 rfl)) Via.refl e84 c89 (g := (mkF m 115 #[rv a1, rv wa, iv 5, iv 3] [(.ref a1)])) rfl rfl (hb hby d3_115)
  refine own_step st94 ?_
  refine own_ic X94.here hx rfl (hb hby d3_118) ?_
  refine own_il X94.here hx rfl (hb hby d3_119) rfl ?_
  refine own_step (fun t k => XS.iadd X94.here hx rfl (hb hby d3_120) rfl k) ?_
  refine own_il X94.here hx rfl (hb hby d3_121) rfl ?_
  obtain ⟨T95, h95, X95, e95, W95, c95, st95⟩ := own_iastore X94 hx hZ e94 c85 (own_inb (by decide) (Nat.le_of_ble_eq_true rfl)) (g := (mkF m 122 #[rv a1, rv wa, iv 5, iv 3] [(.int 3), (.int 6), (.ref b30)])) rfl rfl (hb hby d3_122)
  have N95 := Fr.snoc X95 N84 ge30
  have c96 : own_Ari Z h95 b30 .int [0, 0, 0, 0, 1, 2, 3, 0, 0, 0, 0] := c95
  have c97 : Exa Z h95 a1 own_C := c86.wr W95
  have c98 : Fld Z h95 a1 own_C "end" "I" (.int 8) := c87.other W95 (Or.inl ne31)
  have c99 : Fld Z h95 a1 own_C "keys" "[J" (.ref b10) := c88.other W95 (Or.inl ne31)
  have c100 : Fld Z h95 a1 own_C "nodes" "[I" (.ref b30) := c89.other W95 (Or.inl ne31)
  have c101 : own_Arj Z h95 wa [wt0, wt1, wt2, wt3, wt4] := c90.other W95 ne32
  have c102 : own_Arj Z h95 b10 [0, 0, 0, wt0, wt1, wt2, wt3, wt4, 0, 0, 0] := c91.other W95 ne33
  have K95 : Keep h0 h95 [a1] := K84.wr W95 (Or.inr sz30)
  refine own_step st95 ?_
  clear K84 N84 W95 X84 X94 c85 c86 c87 c88 c89 c90 c91 c95 e84 e94 hk93 st94 st95
  show own_G p.tables e below _ (T95.setTop (mkF m 123 #[rv a1, rv wa, iv 5, iv 3] []))
  refine own_step (fun t k => XS.iinc X95.here hx rfl (hb hby d3_123) rfl (l' := #[rv a1, rv wa, iv 5, iv 4]) rfl k) ?_
  refine own_go X95.here hx rfl (pc0 := 126) (pc' := 109) rfl (hb hby d3_126) (by decide) (by decide) ?_
  refine own_il X95.here hx rfl (hb hby d3_109) rfl ?_
  refine own_il X95.here hx rfl (hb hby d3_110) rfl ?_
  have hk104 : (4 : Int32) < (5 : Int32) := (by decide)
  refine own_step (fun t k => XS.icmpNo X95.here hx rfl (hb hby d3_111) rfl ((tlt hk104).2.1) k) ?_
  show own_G p.tables e below _ (T95.setTop (mkF m 114 #[rv a1, rv wa, iv 5, iv 4] []))
  refine own_al X95.here hx rfl (hb hby d3_114) rfl rfl ?_
  obtain ⟨T105, X105, e105, st105⟩ := getF X95 hx hZ hown (host := "") (Or.inl (own_w hw 45 rfl)) Via.refl e95 c100 (g := (mkF m 115 #[rv a1, rv wa, iv 5, iv 4] [(.ref a1)])) rfl rfl (hb hby d3_115)
  refine own_step st105 ?_
  refine own_ic X105.here hx rfl (hb hby d3_118) ?_
  refine own_il X105.here hx rfl (hb hby d3_119) rfl ?_
  refine own_step (fun t k => XS.iadd X105.here hx rfl (hb hby d3_120) rfl k) ?_
  refine own_il X105.here hx rfl (hb hby d3_121) rfl ?_
  obtain ⟨T106, h106, X106, e106, W106, c106, st106⟩ := own_iastore X105 hx hZ e105 c96 (own_inb (by decide) (Nat.le_of_ble_eq_true rfl)) (g := (mkF m 122 #[rv a1, rv wa, iv 5, iv 4] [(.int 4), (.int 7), (.ref b30)])) rfl rfl (hb hby d3_122)
  have N106 := Fr.snoc X106 N95 ge30
  have c107 : own_Ari Z h106 b30 .int [0, 0, 0, 0, 1, 2, 3, 4, 0, 0, 0] := c106
  have c108 : Exa Z h106 a1 own_C := c97.wr W106
  have c109 : Fld Z h106 a1 own_C "end" "I" (.int 8) := c98.other W106 (Or.inl ne31)
  have c110 : Fld Z h106 a1 own_C "keys" "[J" (.ref b10) := c99.other W106 (Or.inl ne31)
  have c111 : Fld Z h106 a1 own_C "nodes" "[I" (.ref b30) := c100.other W106 (Or.inl ne31)
  have c112 : own_Arj Z h106 wa [wt0, wt1, wt2, wt3, wt4] := c101.other W106 ne32
  have c113 : own_Arj Z h106 b10 [0, 0, 0, wt0, wt1, wt2, wt3, wt4, 0, 0, 0] := c102.other W106 ne33
  have K106 : Keep h0 h106 [a1] := K95.wr W106 (Or.inr sz30)
  refine own_step st106 ?_
  clear K95 N95 W106 X105 X95 c100 c101 c102 c106 c96 c97 c98 c99 e105 e95 hk104 st105 st106
  show own_G p.tables e below _ (T106.setTop (mkF m 123 #[rv a1, rv wa, iv 5, iv 4] []))
  refine own_step (fun t k => XS.iinc X106.here hx rfl (hb hby d3_123) rfl (l' := #[rv a1, rv wa, iv 5, iv 5]) rfl k) ?_
  refine own_go X106.here hx rfl (pc0 := 126) (pc' := 109) rfl (hb hby d3_126) (by decide) (by decide) ?_
  refine own_il X106.here hx rfl (hb hby d3_109) rfl ?_
  refine own_il X106.here hx rfl (hb hby d3_110) rfl ?_
  have hk115 : ¬ ((5 : Int32) < (5 : Int32)) := (by decide)
  refine own_step (fun t k => XS.icmpYes X106.here hx rfl (pc0 := 111) (pc' := 129) rfl (hb hby d3_111) rfl ((flt hk115).2.1) (by decide) (by decide) k) ?_
  show own_G p.tables e below _ (T106.setTop (mkF m 129 #[rv a1, rv wa, iv 5, iv 5] []))
  refine own_al X106.here hx rfl (hb hby d3_129) rfl rfl ?_
  obtain ⟨T116, X116, e116, st116⟩ := getF X106 hx hZ hown (host := "") (Or.inl (own_w hw 19 rfl)) Via.refl e106 c109 (g := (mkF m 130 #[rv a1, rv wa, iv 5, iv 5] [(.ref a1)])) rfl rfl (hb hby d3_130)
  refine own_step st116 ?_
  refine own_ic X116.here hx rfl (hb hby d3_133) ?_
  refine own_step (fun t k => XS.isub X116.here hx rfl (hb hby d3_134) rfl k) ?_
  obtain ⟨_, _, ⟨T117, L117, k117, n117⟩, -, X117, ⟨Lc117, hQ117, l117, y117, z117⟩, st117⟩ := Jvm.LawKit.callS X116 hx (y := own_y9) hown (mvT hZ (own_w hw 38 rfl)) (mvT hZ (own_w hw 39 rfl)) (mvT hZ (own_w hw 12 rfl)) (mvT hZ (own_w hw 40 rfl)) (by decide) (backOf (W := 0) (rm9 l Z a0 hw [] (7 : Int32) h106 n0 (Nat.le_trans Z0 K106.1) ) hZ (own_w hw 40 rfl) (own_w hw 12 rfl) (by decide) (by decide)) (g := (mkF m 135 #[rv a1, rv wa, iv 5, iv 5] [(.int 7)])) rfl (by rw [hml]; rfl) (argsL := [(.int 7)]) (rest := []) (lenOf pd_3_u5_1 rfl) rfl (own_wl rfl) (hb hby d3_135) (fun _ _ => ⟨rfl, e116, (by decide : 2 + 0 ≤ _), (by decide : 22 + 0 ≤ _)⟩)
  dsimp only [Pt.U, Pt.locs, Pt.cells, Pt.slots] at X117 l117 y117 z117 st117 hQ117
  subst y117 z117
  obtain ⟨rfl, N117q, e117⟩ := hQ117
  have N117 : Fr n0 L117 := by rw [l117]; exact Fr.app N106 N117q
  refine own_step st117 ?_
  show own_G p.tables e below _ (T117.setTop (mkF m 138 #[rv a1, rv wa, iv 5, iv 5] [(.int 3)]))
  refine own_step (fun t k => XS.istoreN X117.here hx rfl (hb hby d3_138) rfl (l' := #[rv a1, rv wa, iv 5, iv 3]) rfl k) ?_
  refine own_il X117.here hx rfl (hb hby d3_139) rfl ?_
  refine own_ic X117.here hx rfl (hb hby d3_140) ?_
  have hk118 : ¬ ((3 : Int32) < (3 : Int32)) := (by decide)
  refine own_step (fun t k => XS.icmpNo X117.here hx rfl (hb hby d3_141) rfl ((flt hk118).1) k) ?_
  clear N106 N117q X106 X116 e106 e116 hk115 hk118 st116 st117
  show own_G p.tables e below _ (T117.setTop (mkF m 144 #[rv a1, rv wa, iv 5, iv 3] []))
  refine own_al X117.here hx rfl (hb hby d3_144) rfl rfl ?_
  refine own_il X117.here hx rfl (hb hby d3_145) rfl ?_
  refine own_ic X117.here hx rfl (hb hby d3_146) ?_
  obtain ⟨cq119, q119, q119'⟩ := c108.cell
  obtain ⟨_, _, ⟨T119, L119, k119, n119⟩, -, X119, ⟨Lc119, hQ119, l119, y119, z119⟩, st119⟩ := X117.privateBack hx (y := own_y10) hown (mvT hZ (own_w hw 41 rfl)) (mvT hZ (own_w hw 42 rfl)) (mvT hZ (own_sp10 hw)) (Cond.privateMethod_at (mvP hZ (own_w hw 43 rfl) (args := #[]))) (mvT hZ (own_w hw 44 rfl)) (by decide) (backOf (W := 0) (rm10_u l Z a0 hw [] a1 (3 : Int32) (0 : Int32) b10 b30 [(0 : Int64), (0 : Int64), (0 : Int64), wt0, wt1, wt2, wt3, wt4, (0 : Int64), (0 : Int64), (0 : Int64)] [(0 : Int32), (0 : Int32), (0 : Int32), (0 : Int32), (1 : Int32), (2 : Int32), (3 : Int32), (4 : Int32), (0 : Int32), (0 : Int32), (0 : Int32)] h106 n0 (Nat.le_trans Z0 K106.1) c110 c111 c113 c107 ((own_inb (by decide) (Nat.le_of_ble_eq_true rfl)) : own_Inb (3 : Int32) [(0 : Int64), (0 : Int64), (0 : Int64), wt0, wt1, wt2, wt3, wt4, (0 : Int64), (0 : Int64), (0 : Int64)].length) ((own_inb (by decide) (Nat.le_of_ble_eq_true rfl)) : own_Inb (0 : Int32) [(0 : Int64), (0 : Int64), (0 : Int64), wt0, wt1, wt2, wt3, wt4, (0 : Int64), (0 : Int64), (0 : Int64)].length) ((own_inb (by decide) (Nat.le_of_ble_eq_true rfl)) : own_Inb (3 : Int32) [(0 : Int32), (0 : Int32), (0 : Int32), (0 : Int32), (1 : Int32), (2 : Int32), (3 : Int32), (4 : Int32), (0 : Int32), (0 : Int32), (0 : Int32)].length) ((own_inb (by decide) (Nat.le_of_ble_eq_true rfl)) : own_Inb (0 : Int32) [(0 : Int32), (0 : Int32), (0 : Int32), (0 : Int32), (1 : Int32), (2 : Int32), (3 : Int32), (4 : Int32), (0 : Int32), (0 : Int32), (0 : Int32)].length) ge10 ne11 (Ne.symm ne33) ge30 ne31) hZ (own_w hw 44 rfl) (own_w hw 12 rfl) (by decide) (by decide)) (g := (mkF m 147 #[rv a1, rv wa, iv 5, iv 3] [(.int 0), (.int 3), (.ref a1)])) rfl (by rw [hml]; rfl) (Steps.refl _) (a := a1) (by rw [e117]; exact q119) q119' (argsL := [(.int 3), (.int 0)]) (rest := []) (lenOf pd_3_u5_2 rfl) rfl (own_wl rfl) (hb hby d3_147) (fun _ _ => ⟨rfl, e117, (by decide : 2 + 0 ≤ _), (by decide : 22 + 0 ≤ _)⟩)
  dsimp only [Pt.U, Pt.locs, Pt.cells, Pt.slots] at X119 l119 y119 z119 st119 hQ119
  subst y119 z119
  obtain ⟨rfl, N119q, K119q, w119_0, w119_1⟩ := hQ119
  have c120 : Exa Z T119.heap a1 own_C := c108.keep K119q
  have c121 : Fld Z T119.heap a1 own_C "end" "I" (.int 8) := c109.keep K119q (ninS ne11 (ninS ne31 nin0))
  have c122 : Fld Z T119.heap a1 own_C "keys" "[J" (.ref b10) := c110.keep K119q (ninS ne11 (ninS ne31 nin0))
  have c123 : Fld Z T119.heap a1 own_C "nodes" "[I" (.ref b30) := c111.keep K119q (ninS ne11 (ninS ne31 nin0))
  have c124 : own_Arj Z T119.heap wa [wt0, wt1, wt2, wt3, wt4] := c112.keep K119q (ninS ne12 (ninS ne32 nin0))
  have K119 : Keep h0 T119.heap [a1] := K106.trans K119q (allS (Or.inr sz10) (allS (Or.inr sz30) all0))
  have c127 : own_Arj Z T119.heap b10 [wt0, 0, 0, wt0, wt1, wt2, wt3, wt4, 0, 0, 0] := w119_0
  have c128 : own_Ari Z T119.heap b30 .int [0, 0, 0, 0, 1, 2, 3, 4, 0, 0, 0] := w119_1
  have N119 : Fr n0 L119 := by rw [l119]; exact Fr.app N117 N119q
  refine own_step (fun t k => st119.trans k) ?_
  refine own_al X119.here hx rfl (hb hby d3_150) rfl rfl ?_
  refine own_il X119.here hx rfl (hb hby d3_151) rfl ?_
  obtain ⟨cq129, q129, q129'⟩ := c120.cell
  obtain ⟨_, _, ⟨T129, L129, k129, n129⟩, -, X129, ⟨Lc129, hQ129, l129, y129, z129⟩, st129⟩ := X119.privateBack hx (y := own_y11) hown (mvT hZ (own_w hw 47 rfl)) (mvT hZ (own_w hw 48 rfl)) (mvT hZ (own_sp11 hw)) (Cond.privateMethod_at (mvP hZ (own_w hw 49 rfl) (args := #[]))) (mvT hZ (own_w hw 50 rfl)) (by decide) (backOf (W := 0) (rm11_u l Z a0 hw [] a1 b10 b30 (8 : Int32) [wt0, (0 : Int64), (0 : Int64), wt0, wt1, wt2, wt3, wt4, (0 : Int64), (0 : Int64), (0 : Int64)] [(0 : Int32), (0 : Int32), (0 : Int32), (0 : Int32), (1 : Int32), (2 : Int32), (3 : Int32), (4 : Int32), (0 : Int32), (0 : Int32), (0 : Int32)] T119.heap n0 (Nat.le_trans Z0 K119.1) c120 c122 c121 c123 c127 c128 ((by decide) : (4 : Int32) < (8 : Int32)) ((by decide) : ¬ (8 : Int32) < (8 : Int32)) ((Nat.le_of_ble_eq_true rfl) : 8 ≤ [wt0, (0 : Int64), (0 : Int64), wt0, wt1, wt2, wt3, wt4, (0 : Int64), (0 : Int64), (0 : Int64)].length) ((Nat.le_of_ble_eq_true rfl) : 8 ≤ [(0 : Int32), (0 : Int32), (0 : Int32), (0 : Int32), (1 : Int32), (2 : Int32), (3 : Int32), (4 : Int32), (0 : Int32), (0 : Int32), (0 : Int32)].length) ge10 ne11 (Ne.symm ne33) ge30 ne31) hZ (own_w hw 50 rfl) (own_w hw 12 rfl) (by decide) (by decide)) (g := (mkF m 152 #[rv a1, rv wa, iv 5, iv 3] [(.int 3), (.ref a1)])) rfl (by rw [hml]; rfl) (Steps.refl _) (a := a1) q129 q129' (argsL := [(.int 3)]) (rest := []) (lenOf pd_3_u5_3 rfl) rfl (own_wl rfl) (hb hby d3_152) (fun _ _ => ⟨rfl, rfl, (by decide : 2 + 0 ≤ _), (by decide : 22 + 0 ≤ _)⟩)
  dsimp only [Pt.U, Pt.locs, Pt.cells, Pt.slots] at X129 l129 y129 z129 st129 hQ129
  subst y129 z129
  obtain ⟨bx129_L_nd, bx129_L_ky, rfl, N129q, K129q, w129_0, w129_1, pr129_0, pr129_1⟩ := hQ129
  have c130 : Exa Z T129.heap a1 own_C := c120.keep K129q
  have c131 : Fld Z T129.heap a1 own_C "end" "I" (.int 8) := c121.keep K129q (ninS ne31 (ninS ne11 nin0))
  have c132 : Fld Z T129.heap a1 own_C "keys" "[J" (.ref b10) := c122.keep K129q (ninS ne31 (ninS ne11 nin0))
  have c133 : Fld Z T129.heap a1 own_C "nodes" "[I" (.ref b30) := c123.keep K129q (ninS ne31 (ninS ne11 nin0))
  have c134 : own_Arj Z T129.heap wa [wt0, wt1, wt2, wt3, wt4] := c124.keep K129q (ninS ne32 (ninS ne12 nin0))
  have K129 : Keep h0 T129.heap [a1] := K119.trans K129q (allS (Or.inr sz30) (allS (Or.inr sz10) all0))
  have N129 : Fr n0 L129 := by rw [l129]; exact Fr.app N119 N129q
  refine own_step (fun t k => st129.trans k) ?_
  clear K106 K119 K119q K129q N117 N119 N119q N129q X117 X119 c107 c108 c109 c110 c111 c112 c113 c120 c121 c122 c123 c124 c127 c128 e117 q119 q119' q129 q129' st119 st129 w119_0 w119_1
  show own_G p.tables e below _ (T129.setTop (mkF m 155 #[rv a1, rv wa, iv 5, iv 3] []))
  refine own_step (fun t k => XS.iinc X129.here hx rfl (hb hby d3_155) rfl (l' := #[rv a1, rv wa, iv 5, iv 2]) rfl k) ?_
  refine own_go X129.here hx rfl (pc0 := 158) (pc' := 139) rfl (hb hby d3_158) (by decide) (by decide) ?_
  refine own_il X129.here hx rfl (hb hby d3_139) rfl ?_
  refine own_ic X129.here hx rfl (hb hby d3_140) ?_
  have hk137 : (2 : Int32) < (3 : Int32) := (by decide)
  refine own_step (fun t k => XS.icmpYes X129.here hx rfl (pc0 := 141) (pc' := 161) rfl (hb hby d3_141) rfl ((tlt hk137).1) (by decide) (by decide) k) ?_
  show own_G p.tables e below _ (T129.setTop (mkF m 161 #[rv a1, rv wa, iv 5, iv 2] []))
  obtain ⟨fs, hr, hrun, hended, hW, hsame⟩ := X129.leave (v := none) (fun _ => rfl)
  refine own_done (X129.returnOut hx Bd.returns (hb hby d3_161) hr) hrun hended ⟨_, _, rfl, ?_, ⟨_, rfl⟩, hW, hsame.mono (by decide) (by decide)⟩
  show Q3_u5 Z a1 wa wt0 wt1 wt2 wt3 wt4 h0 n0 _ T129.heap _
  exact ⟨b10, b30, _, _, rfl, N129, K129, c131, c132, c133, w129_1, w129_0, sz10, sz30, ne33, (⟨pr129_1.1, pr129_1.2.trans ((congrArg (fun z => min wt0.toInt z) (own_lcu8 _ _)).trans (show min wt0.toInt (min (min (min wt1.toInt wt2.toInt) wt3.toInt) wt4.toInt) = (min (min (min (min wt0.toInt wt1.toInt) wt2.toInt) wt3.toInt) wt4.toInt) from by omega))⟩), (trivial)⟩
theorem pn_0 : plainName "com/example/leafcode/leafcode/FourWayHeapMinWeightPinLaw" = true := by first | (simp [plainName, overriddenIn]; done) | decide +kernel
theorem pd_0_0 : parseMethodDescriptor "(IJJJJJ)[J" = some ⟨[.int, .long, .long, .long, .long, .long], some (.array .long)⟩ := by decide +kernel
theorem pd_0_1 : parseMethodDescriptor "([J)V" = some ⟨[(.array .long)], none⟩ := by decide +kernel
theorem pd_0_2 : parseMethodDescriptor "()J" = some ⟨[], some .long⟩ := by decide +kernel
theorem pd_0_3 : parseMethodDescriptor "(JJ)J" = some ⟨[.long, .long], some .long⟩ := by decide +kernel
theorem ef_0 (m : MethodId) (ua : Int64) (ub : Int64) (uc : Int64) (ud : Int64) (ue : Int64) (flg : Int32) : entryFrame m #[(.long ua), (.long ub), (.long uc), (.long ud), (.long ue), (.int flg)] maxLocals = mkF m 0 #[.val (.long ua), .second, .val (.long ub), .second, .val (.long uc), .second, .val (.long ud), .second, .val (.long ue), .second, iv flg, .unset, .unset, .unset, .unset, .unset, .unset, .unset, .unset, .unset, .unset, .unset, .unset, .unset, .unset, .unset, .unset, .unset] [] := by first | (simp [entryFrame, mkF, argsToLocals, Value.category, maxLocals]; done) | rfl
def Q0 (Z : State) (ua : Int64) (ub : Int64) (uc : Int64) (ud : Int64) (ue : Int64) (flg : Int32) (h0 : Heap) (n0 : Nat) (v : Option Value) (h : Heap) (L : List Loc) : Prop := v = some (.int (1 : Int32)) ∧ Fr n0 L
set_option maxRecDepth 65536 in
set_option maxHeartbeats 40000000 in
theorem rm0 (l : Launch) (Z : State) (a0 : Array Value) (hw : ∀ d ∈ tables_1, d.before a0 Z = true) (ws : List Jvm.Cond) (ua : Int64) (ub : Int64) (uc : Int64) (ud : Int64) (ue : Int64) (flg : Int32) (h0 : Heap) (n0 : Nat) (Z0 : n0 ≤ h0.size) :
    MetFree l x (head1 (Jvm.Cond.code x code maxLocals ret :: ws) room_1) (fun a U => a = #[(.long ua), (.long ub), (.long uc), (.long ud), (.long ue), (.int flg)] ∧ Z.Warmed39 U.vm ∧ U.heap = h0) (fun _ _ _ _ _ => True) (fun _ U o U' => ∃ v L, o = .returned v ∧ Q0 Z ua ub uc ud ue flg h0 n0 v U'.heap L ∧ FrameEnd U o U' L room_1.cells room_1.slots) := by
  refine MetFree.of_bodySF (plainFor_of_name pn_0) hisR ?_
  intro p e s m args below meth c s₁ Bd hml0 hP hK
  obtain ⟨rfl, hZ, hh⟩ := hP
  have hx := Bd.exec
  have hby := Bd.bytes
  have hml : c.maxLocals = 28 := hml0
  have hown : s.vm.findClass "com/example/leafcode/leafcode/FourWayHeapMinWeightPinLaw" = some m.cls := findClass_of_methodNamed Bd.named
  have hnm := (name_of_methodNamed Bd.named Bd.method).1
  have X0 : Stand p l e room_1 s m #[(.long ua), (.long ub), (.long uc), (.long ud), (.long ue), (.int flg)] below meth c s₁ [] 0 0 := Stand.of_body Bd
  have e0 : s₁.heap = h0 := by rw [← hh, Bd.state]; rfl
  have N0 := Fr.nil n0
  refine own_start (fun t k => castTop (ef_0 m ua ub uc ud ue flg) k) ?_
  show own_G p.tables e below _ (s₁.setTop (mkF m 0 #[.val (.long ua), .second, .val (.long ub), .second, .val (.long uc), .second, .val (.long ud), .second, .val (.long ue), .second, iv flg, .unset, .unset, .unset, .unset, .unset, .unset, .unset, .unset, .unset, .unset, .unset, .unset, .unset, .unset, .unset, .unset, .unset] []))
  refine own_ix X0.here hx rfl (hb hby at_0) rfl ?_
  refine own_ic X0.here hx rfl (hb hby at_2) ?_
  refine own_step (fun t k => XS.iushr X0.here hx rfl (hb hby at_3) rfl k) ?_
  refine own_ic X0.here hx rfl (hb hby at_4) ?_
  refine own_step (fun t k => XS.iand X0.here hx rfl (hb hby at_5) rfl k) ?_
  refine own_imp (B := s₁.setTop (mkF m 18 #[.val (.long ua), .second, .val (.long ub), .second, .val (.long uc), .second, .val (.long ud), .second, .val (.long ue), .second, iv flg, .unset, .unset, .unset, .unset, .unset, .unset, .unset, .unset, .unset, .unset, .unset, .unset, .unset, .unset, .unset, .unset, .unset] [(.long (if (((flg.toUInt32 >>> ((3 : Int32) &&& 31).toUInt32).toInt32) &&& (1 : Int32)) = (0 : Int32) then (4294967295 : Int64) else (9223372036854775807 : Int64)))])) (fun k0 => ?_) ?_
  · by_cases hc1 : (((flg.toUInt32 >>> ((3 : Int32) &&& 31).toUInt32).toInt32) &&& (1 : Int32)) = (0 : Int32)
    · simp only [if_pos hc1] at k0
      refine own_step (fun t k => XS.ifYes X0.here hx rfl (pc0 := 6) (pc' := 15) rfl (hb hby at_6) rfl ((if0 _ _).trans (teq hc1).1) (by decide) (by decide) k) ?_
      show own_G p.tables e below _ (s₁.setTop (mkF m 15 #[.val (.long ua), .second, .val (.long ub), .second, .val (.long uc), .second, .val (.long ud), .second, .val (.long ue), .second, iv flg, .unset, .unset, .unset, .unset, .unset, .unset, .unset, .unset, .unset, .unset, .unset, .unset, .unset, .unset, .unset, .unset, .unset] []))
      refine own_step (X0.ldc2Long hx hown (mvT hZ (own_w hw 0 rfl)) (g := (mkF m 15 #[.val (.long ua), .second, .val (.long ub), .second, .val (.long uc), .second, .val (.long ud), .second, .val (.long ue), .second, iv flg, .unset, .unset, .unset, .unset, .unset, .unset, .unset, .unset, .unset, .unset, .unset, .unset, .unset, .unset, .unset, .unset, .unset] [])) rfl (hb hby at_15)) ?_
      exact k0
    · simp only [if_neg hc1] at k0
      refine own_step (fun t k => XS.ifNo X0.here hx rfl (hb hby at_6) rfl ((if0 _ _).trans (feq hc1).1) k) ?_
      show own_G p.tables e below _ (s₁.setTop (mkF m 9 #[.val (.long ua), .second, .val (.long ub), .second, .val (.long uc), .second, .val (.long ud), .second, .val (.long ue), .second, iv flg, .unset, .unset, .unset, .unset, .unset, .unset, .unset, .unset, .unset, .unset, .unset, .unset, .unset, .unset, .unset, .unset, .unset] []))
      refine own_step (X0.ldc2Long hx hown (mvT hZ (own_w hw 67 rfl)) (g := (mkF m 9 #[.val (.long ua), .second, .val (.long ub), .second, .val (.long uc), .second, .val (.long ud), .second, .val (.long ue), .second, iv flg, .unset, .unset, .unset, .unset, .unset, .unset, .unset, .unset, .unset, .unset, .unset, .unset, .unset, .unset, .unset, .unset, .unset] [])) rfl (hb hby at_9)) ?_
      refine own_go X0.here hx rfl (pc0 := 12) (pc' := 18) rfl (hb hby at_12) (by decide) (by decide) ?_
      exact k0
  show own_G p.tables e below _ (s₁.setTop (mkF m 18 #[.val (.long ua), .second, .val (.long ub), .second, .val (.long uc), .second, .val (.long ud), .second, .val (.long ue), .second, iv flg, .unset, .unset, .unset, .unset, .unset, .unset, .unset, .unset, .unset, .unset, .unset, .unset, .unset, .unset, .unset, .unset, .unset] [(.long (if (((flg.toUInt32 >>> ((3 : Int32) &&& 31).toUInt32).toInt32) &&& (1 : Int32)) = (0 : Int32) then (4294967295 : Int64) else (9223372036854775807 : Int64)))]))
  refine own_nm ((if (((flg.toUInt32 >>> ((3 : Int32) &&& 31).toUInt32).toInt32) &&& (1 : Int32)) = (0 : Int32) then (4294967295 : Int64) else (9223372036854775807 : Int64)) : Int64) (fun msk => s₁.setTop (mkF m 18 #[.val (.long ua), .second, .val (.long ub), .second, .val (.long uc), .second, .val (.long ud), .second, .val (.long ue), .second, iv flg, .unset, .unset, .unset, .unset, .unset, .unset, .unset, .unset, .unset, .unset, .unset, .unset, .unset, .unset, .unset, .unset, .unset] [(.long msk)])) ?_
  intro msk hd_msk
  show own_G p.tables e below _ (s₁.setTop (mkF m 18 #[.val (.long ua), .second, .val (.long ub), .second, .val (.long uc), .second, .val (.long ud), .second, .val (.long ue), .second, iv flg, .unset, .unset, .unset, .unset, .unset, .unset, .unset, .unset, .unset, .unset, .unset, .unset, .unset, .unset, .unset, .unset, .unset] [(.long msk)]))
  refine own_step (fun t k => XS.lstore X0.here hx rfl (hb hby at_18) rfl (l' := #[.val (.long ua), .second, .val (.long ub), .second, .val (.long uc), .second, .val (.long ud), .second, .val (.long ue), .second, iv flg, .val (.long msk), .second, .unset, .unset, .unset, .unset, .unset, .unset, .unset, .unset, .unset, .unset, .unset, .unset, .unset, .unset, .unset]) rfl k) ?_
  refine own_step (fun t k => XS.lloadN X0.here hx rfl (hb hby at_20) rfl k) ?_
  refine own_lx X0.here hx rfl (hb hby at_21) rfl ?_
  refine own_step (fun t k => XS.land X0.here hx rfl (hb hby at_23) rfl k) ?_
  refine own_nm ((ua &&& msk) : Int64) (fun va => s₁.setTop (mkF m 24 #[.val (.long ua), .second, .val (.long ub), .second, .val (.long uc), .second, .val (.long ud), .second, .val (.long ue), .second, iv flg, .val (.long msk), .second, .unset, .unset, .unset, .unset, .unset, .unset, .unset, .unset, .unset, .unset, .unset, .unset, .unset, .unset, .unset] [(.long va)])) ?_
  intro va hd_va
  show own_G p.tables e below _ (s₁.setTop (mkF m 24 #[.val (.long ua), .second, .val (.long ub), .second, .val (.long uc), .second, .val (.long ud), .second, .val (.long ue), .second, iv flg, .val (.long msk), .second, .unset, .unset, .unset, .unset, .unset, .unset, .unset, .unset, .unset, .unset, .unset, .unset, .unset, .unset, .unset] [(.long va)]))
  refine own_step (fun t k => XS.lstore X0.here hx rfl (hb hby at_24) rfl (l' := #[.val (.long ua), .second, .val (.long ub), .second, .val (.long uc), .second, .val (.long ud), .second, .val (.long ue), .second, iv flg, .val (.long msk), .second, .val (.long va), .second, .unset, .unset, .unset, .unset, .unset, .unset, .unset, .unset, .unset, .unset, .unset, .unset, .unset]) rfl k) ?_
  refine own_step (fun t k => XS.lloadN X0.here hx rfl (hb hby at_26) rfl k) ?_
  refine own_lx X0.here hx rfl (hb hby at_27) rfl ?_
  refine own_step (fun t k => XS.land X0.here hx rfl (hb hby at_29) rfl k) ?_
  refine own_nm ((ub &&& msk) : Int64) (fun vb => s₁.setTop (mkF m 30 #[.val (.long ua), .second, .val (.long ub), .second, .val (.long uc), .second, .val (.long ud), .second, .val (.long ue), .second, iv flg, .val (.long msk), .second, .val (.long va), .second, .unset, .unset, .unset, .unset, .unset, .unset, .unset, .unset, .unset, .unset, .unset, .unset, .unset] [(.long vb)])) ?_
  intro vb hd_vb
  show own_G p.tables e below _ (s₁.setTop (mkF m 30 #[.val (.long ua), .second, .val (.long ub), .second, .val (.long uc), .second, .val (.long ud), .second, .val (.long ue), .second, iv flg, .val (.long msk), .second, .val (.long va), .second, .unset, .unset, .unset, .unset, .unset, .unset, .unset, .unset, .unset, .unset, .unset, .unset, .unset] [(.long vb)]))
  refine own_step (fun t k => XS.lstore X0.here hx rfl (hb hby at_30) rfl (l' := #[.val (.long ua), .second, .val (.long ub), .second, .val (.long uc), .second, .val (.long ud), .second, .val (.long ue), .second, iv flg, .val (.long msk), .second, .val (.long va), .second, .val (.long vb), .second, .unset, .unset, .unset, .unset, .unset, .unset, .unset, .unset, .unset, .unset, .unset]) rfl k) ?_
  refine own_lx X0.here hx rfl (hb hby at_32) rfl ?_
  refine own_lx X0.here hx rfl (hb hby at_34) rfl ?_
  refine own_step (fun t k => XS.land X0.here hx rfl (hb hby at_36) rfl k) ?_
  refine own_nm ((uc &&& msk) : Int64) (fun vc => s₁.setTop (mkF m 37 #[.val (.long ua), .second, .val (.long ub), .second, .val (.long uc), .second, .val (.long ud), .second, .val (.long ue), .second, iv flg, .val (.long msk), .second, .val (.long va), .second, .val (.long vb), .second, .unset, .unset, .unset, .unset, .unset, .unset, .unset, .unset, .unset, .unset, .unset] [(.long vc)])) ?_
  intro vc hd_vc
  show own_G p.tables e below _ (s₁.setTop (mkF m 37 #[.val (.long ua), .second, .val (.long ub), .second, .val (.long uc), .second, .val (.long ud), .second, .val (.long ue), .second, iv flg, .val (.long msk), .second, .val (.long va), .second, .val (.long vb), .second, .unset, .unset, .unset, .unset, .unset, .unset, .unset, .unset, .unset, .unset, .unset] [(.long vc)]))
  refine own_step (fun t k => XS.lstore X0.here hx rfl (hb hby at_37) rfl (l' := #[.val (.long ua), .second, .val (.long ub), .second, .val (.long uc), .second, .val (.long ud), .second, .val (.long ue), .second, iv flg, .val (.long msk), .second, .val (.long va), .second, .val (.long vb), .second, .val (.long vc), .second, .unset, .unset, .unset, .unset, .unset, .unset, .unset, .unset, .unset]) rfl k) ?_
  refine own_lx X0.here hx rfl (hb hby at_39) rfl ?_
  refine own_lx X0.here hx rfl (hb hby at_41) rfl ?_
  refine own_step (fun t k => XS.land X0.here hx rfl (hb hby at_43) rfl k) ?_
  refine own_nm ((ud &&& msk) : Int64) (fun vd => s₁.setTop (mkF m 44 #[.val (.long ua), .second, .val (.long ub), .second, .val (.long uc), .second, .val (.long ud), .second, .val (.long ue), .second, iv flg, .val (.long msk), .second, .val (.long va), .second, .val (.long vb), .second, .val (.long vc), .second, .unset, .unset, .unset, .unset, .unset, .unset, .unset, .unset, .unset] [(.long vd)])) ?_
  intro vd hd_vd
  show own_G p.tables e below _ (s₁.setTop (mkF m 44 #[.val (.long ua), .second, .val (.long ub), .second, .val (.long uc), .second, .val (.long ud), .second, .val (.long ue), .second, iv flg, .val (.long msk), .second, .val (.long va), .second, .val (.long vb), .second, .val (.long vc), .second, .unset, .unset, .unset, .unset, .unset, .unset, .unset, .unset, .unset] [(.long vd)]))
  refine own_step (fun t k => XS.lstore X0.here hx rfl (hb hby at_44) rfl (l' := #[.val (.long ua), .second, .val (.long ub), .second, .val (.long uc), .second, .val (.long ud), .second, .val (.long ue), .second, iv flg, .val (.long msk), .second, .val (.long va), .second, .val (.long vb), .second, .val (.long vc), .second, .val (.long vd), .second, .unset, .unset, .unset, .unset, .unset, .unset, .unset]) rfl k) ?_
  refine own_lx X0.here hx rfl (hb hby at_46) rfl ?_
  refine own_lx X0.here hx rfl (hb hby at_48) rfl ?_
  refine own_step (fun t k => XS.land X0.here hx rfl (hb hby at_50) rfl k) ?_
  refine own_nm ((ue &&& msk) : Int64) (fun ve => s₁.setTop (mkF m 51 #[.val (.long ua), .second, .val (.long ub), .second, .val (.long uc), .second, .val (.long ud), .second, .val (.long ue), .second, iv flg, .val (.long msk), .second, .val (.long va), .second, .val (.long vb), .second, .val (.long vc), .second, .val (.long vd), .second, .unset, .unset, .unset, .unset, .unset, .unset, .unset] [(.long ve)])) ?_
  intro ve hd_ve
  show own_G p.tables e below _ (s₁.setTop (mkF m 51 #[.val (.long ua), .second, .val (.long ub), .second, .val (.long uc), .second, .val (.long ud), .second, .val (.long ue), .second, iv flg, .val (.long msk), .second, .val (.long va), .second, .val (.long vb), .second, .val (.long vc), .second, .val (.long vd), .second, .unset, .unset, .unset, .unset, .unset, .unset, .unset] [(.long ve)]))
  refine own_step (fun t k => XS.lstore X0.here hx rfl (hb hby at_51) rfl (l' := #[.val (.long ua), .second, .val (.long ub), .second, .val (.long uc), .second, .val (.long ud), .second, .val (.long ue), .second, iv flg, .val (.long msk), .second, .val (.long va), .second, .val (.long vb), .second, .val (.long vc), .second, .val (.long vd), .second, .val (.long ve), .second, .unset, .unset, .unset, .unset, .unset]) rfl k) ?_
  refine own_ix X0.here hx rfl (hb hby at_53) rfl ?_
  refine own_step (fun t k => XS.bipush X0.here hx rfl (hb hby at_55) k) ?_
  refine own_step (fun t k => XS.iand X0.here hx rfl (hb hby at_57) rfl k) ?_
  refine own_ic X0.here hx rfl (hb hby at_58) ?_
  refine own_step (fun t k => XS.irem X0.here hx rfl (hb hby at_59) rfl (by decide) k) ?_
  refine own_ic X0.here hx rfl (hb hby at_60) ?_
  show own_G p.tables e below _ (s₁.setTop (mkF m 61 #[.val (.long ua), .second, .val (.long ub), .second, .val (.long uc), .second, .val (.long ud), .second, .val (.long ue), .second, iv flg, .val (.long msk), .second, .val (.long va), .second, .val (.long vb), .second, .val (.long vc), .second, .val (.long vd), .second, .val (.long ve), .second, .unset, .unset, .unset, .unset, .unset] [(.int 1), (.int ((flg &&& (7 : Int32)) - ((flg &&& (7 : Int32)) / (5 : Int32)) * (5 : Int32)))]))
  refine own_step (fun t k => XS.iadd X0.here hx rfl (hb hby at_61) rfl k) ?_
  refine own_nm ((((flg &&& (7 : Int32)) - ((flg &&& (7 : Int32)) / (5 : Int32)) * (5 : Int32)) + (1 : Int32)) : Int32) (fun siz => s₁.setTop (mkF m 62 #[.val (.long ua), .second, .val (.long ub), .second, .val (.long uc), .second, .val (.long ud), .second, .val (.long ue), .second, iv flg, .val (.long msk), .second, .val (.long va), .second, .val (.long vb), .second, .val (.long vc), .second, .val (.long vd), .second, .val (.long ve), .second, .unset, .unset, .unset, .unset, .unset] [(.int siz)])) ?_
  intro siz hd_siz
  show own_G p.tables e below _ (s₁.setTop (mkF m 62 #[.val (.long ua), .second, .val (.long ub), .second, .val (.long uc), .second, .val (.long ud), .second, .val (.long ue), .second, iv flg, .val (.long msk), .second, .val (.long va), .second, .val (.long vb), .second, .val (.long vc), .second, .val (.long vd), .second, .val (.long ve), .second, .unset, .unset, .unset, .unset, .unset] [(.int siz)]))
  refine own_step (fun t k => XS.istore X0.here hx rfl (hb hby at_62) rfl (l' := #[.val (.long ua), .second, .val (.long ub), .second, .val (.long uc), .second, .val (.long ud), .second, .val (.long ue), .second, iv flg, .val (.long msk), .second, .val (.long va), .second, .val (.long vb), .second, .val (.long vc), .second, .val (.long vd), .second, .val (.long ve), .second, iv siz, .unset, .unset, .unset, .unset]) rfl k) ?_
  rcases own_siz hd_siz with rfl | rfl | rfl | rfl | rfl
  · skip
    show own_G p.tables e below _ (s₁.setTop (mkF m 64 #[.val (.long ua), .second, .val (.long ub), .second, .val (.long uc), .second, .val (.long ud), .second, .val (.long ue), .second, iv flg, .val (.long msk), .second, .val (.long va), .second, .val (.long vb), .second, .val (.long vc), .second, .val (.long vd), .second, .val (.long ve), .second, iv 1, .unset, .unset, .unset, .unset] []))
    refine own_ix X0.here hx rfl (hb hby at_64) rfl ?_
    refine own_lx X0.here hx rfl (hb hby at_66) rfl ?_
    refine own_lx X0.here hx rfl (hb hby at_68) rfl ?_
    refine own_lx X0.here hx rfl (hb hby at_70) rfl ?_
    refine own_lx X0.here hx rfl (hb hby at_72) rfl ?_
    refine own_lx X0.here hx rfl (hb hby at_74) rfl ?_
    obtain ⟨_, _, ⟨T8, L8, k8, n8⟩, -, X8, ⟨Lc8, hQ8, l8, y8, z8⟩, st8⟩ := Jvm.LawKit.callS X0 hx (y := own_y1) hown (mvT hZ (own_w hw 1 rfl)) (mvT hZ (own_w hw 2 rfl)) (mvT hZ (own_w hw 3 rfl)) (mvT hZ (own_w hw 4 rfl)) (by decide) (backOf (W := 0) (rm1_n1 l Z a0 hw [] va vb vc vd ve h0 n0 (Nat.le_trans Z0 (Keep.refl h0 []).1) ) hZ (own_w hw 4 rfl) (own_w hw 3 rfl) (by decide) (by decide)) (g := (mkF m 76 #[.val (.long ua), .second, .val (.long ub), .second, .val (.long uc), .second, .val (.long ud), .second, .val (.long ue), .second, iv flg, .val (.long msk), .second, .val (.long va), .second, .val (.long vb), .second, .val (.long vc), .second, .val (.long vd), .second, .val (.long ve), .second, iv 1, .unset, .unset, .unset, .unset] [(.long ve), (.long vd), (.long vc), (.long vb), (.long va), (.int 1)])) rfl (by rw [hml]; rfl) (argsL := [(.int 1), (.long va), (.long vb), (.long vc), (.long vd), (.long ve)]) (rest := []) (lenOf pd_0_0 rfl) rfl (own_wl rfl) (hb hby at_76) (fun _ _ => ⟨rfl, e0, (by decide : 0 + 1 ≤ _), (by decide : 0 + 1 ≤ _)⟩)
    dsimp only [Pt.U, Pt.locs, Pt.cells, Pt.slots] at X8 l8 y8 z8 st8 hQ8
    subst y8 z8
    obtain ⟨bx8_rb, rfl, N8q, K8q, w8_0, sx8_0⟩ := hQ8
    have sz8_0 : h0.size ≤ bx8_rb := Nat.le_trans (Keep.refl h0 []).1 sx8_0
    have ge8_0 : n0 ≤ bx8_rb := Nat.le_trans Z0 sz8_0
    have K8 : Keep h0 T8.heap [] := (Keep.refl h0 []).trans K8q all0
    have N8 : Fr n0 L8 := by rw [l8]; exact Fr.app N0 N8q
    refine own_step st8 ?_
    show own_G p.tables e below _ (T8.setTop (mkF m 79 #[.val (.long ua), .second, .val (.long ub), .second, .val (.long uc), .second, .val (.long ud), .second, .val (.long ue), .second, iv flg, .val (.long msk), .second, .val (.long va), .second, .val (.long vb), .second, .val (.long vc), .second, .val (.long vd), .second, .val (.long ve), .second, iv 1, .unset, .unset, .unset, .unset] [(.ref bx8_rb)]))
    refine own_step (fun t k => XS.astore X8.here hx rfl (hb hby at_79) rfl rfl (l' := #[.val (.long ua), .second, .val (.long ub), .second, .val (.long uc), .second, .val (.long ud), .second, .val (.long ue), .second, iv flg, .val (.long msk), .second, .val (.long va), .second, .val (.long vb), .second, .val (.long vc), .second, .val (.long vd), .second, .val (.long ve), .second, iv 1, rv bx8_rb, .unset, .unset, .unset]) rfl k) ?_
    refine own_lx X8.here hx rfl (hb hby at_81) rfl ?_
    refine own_step (fun t k => XS.lstore X8.here hx rfl (hb hby at_83) rfl (l' := #[.val (.long ua), .second, .val (.long ub), .second, .val (.long uc), .second, .val (.long ud), .second, .val (.long ue), .second, iv flg, .val (.long msk), .second, .val (.long va), .second, .val (.long vb), .second, .val (.long vc), .second, .val (.long vd), .second, .val (.long ve), .second, iv 1, rv bx8_rb, .val (.long va), .second, .unset]) rfl k) ?_
    refine own_ix X8.here hx rfl (hb hby at_85) rfl ?_
    refine own_ic X8.here hx rfl (hb hby at_87) ?_
    have hk9 : ¬ ((1 : Int32) < (1 : Int32)) := (by decide)
    refine own_step (fun t k => XS.icmpYes X8.here hx rfl (pc0 := 88) (pc' := 100) rfl (hb hby at_88) rfl ((flt hk9).2.2.2) (by decide) (by decide) k) ?_
    show own_G p.tables e below _ (T8.setTop (mkF m 100 #[.val (.long ua), .second, .val (.long ub), .second, .val (.long uc), .second, .val (.long ud), .second, .val (.long ue), .second, iv flg, .val (.long msk), .second, .val (.long va), .second, .val (.long vb), .second, .val (.long vc), .second, .val (.long vd), .second, .val (.long ve), .second, iv 1, rv bx8_rb, .val (.long va), .second, .unset] []))
    refine own_ix X8.here hx rfl (hb hby at_100) rfl ?_
    refine own_ic X8.here hx rfl (hb hby at_102) ?_
    have hk10 : ¬ ((2 : Int32) < (1 : Int32)) := (by decide)
    refine own_step (fun t k => XS.icmpYes X8.here hx rfl (pc0 := 103) (pc' := 115) rfl (hb hby at_103) rfl ((flt hk10).2.2.2) (by decide) (by decide) k) ?_
    show own_G p.tables e below _ (T8.setTop (mkF m 115 #[.val (.long ua), .second, .val (.long ub), .second, .val (.long uc), .second, .val (.long ud), .second, .val (.long ue), .second, iv flg, .val (.long msk), .second, .val (.long va), .second, .val (.long vb), .second, .val (.long vc), .second, .val (.long vd), .second, .val (.long ve), .second, iv 1, rv bx8_rb, .val (.long va), .second, .unset] []))
    refine own_ix X8.here hx rfl (hb hby at_115) rfl ?_
    refine own_ic X8.here hx rfl (hb hby at_117) ?_
    have hk11 : ¬ ((3 : Int32) < (1 : Int32)) := (by decide)
    refine own_step (fun t k => XS.icmpYes X8.here hx rfl (pc0 := 118) (pc' := 130) rfl (hb hby at_118) rfl ((flt hk11).2.2.2) (by decide) (by decide) k) ?_
    show own_G p.tables e below _ (T8.setTop (mkF m 130 #[.val (.long ua), .second, .val (.long ub), .second, .val (.long uc), .second, .val (.long ud), .second, .val (.long ue), .second, iv flg, .val (.long msk), .second, .val (.long va), .second, .val (.long vb), .second, .val (.long vc), .second, .val (.long vd), .second, .val (.long ve), .second, iv 1, rv bx8_rb, .val (.long va), .second, .unset] []))
    refine own_ix X8.here hx rfl (hb hby at_130) rfl ?_
    refine own_ic X8.here hx rfl (hb hby at_132) ?_
    have hk12 : ¬ ((4 : Int32) < (1 : Int32)) := (by decide)
    refine own_step (fun t k => XS.icmpYes X8.here hx rfl (pc0 := 133) (pc' := 145) rfl (hb hby at_133) rfl ((flt hk12).2.2.2) (by decide) (by decide) k) ?_
    show own_G p.tables e below _ (T8.setTop (mkF m 145 #[.val (.long ua), .second, .val (.long ub), .second, .val (.long uc), .second, .val (.long ud), .second, .val (.long ue), .second, iv flg, .val (.long msk), .second, .val (.long va), .second, .val (.long vb), .second, .val (.long vc), .second, .val (.long vd), .second, .val (.long ve), .second, iv 1, rv bx8_rb, .val (.long va), .second, .unset] []))
    rcases own_f5z_n1 va with hpk | hpk
    · skip
      show own_G p.tables e below _ (T8.setTop (mkF m 145 #[.val (.long ua), .second, .val (.long ub), .second, .val (.long uc), .second, .val (.long ud), .second, .val (.long ue), .second, iv flg, .val (.long msk), .second, .val (.long va), .second, .val (.long vb), .second, .val (.long vc), .second, .val (.long vd), .second, .val (.long ve), .second, iv 1, rv bx8_rb, .val (.long va), .second, .unset] []))
      obtain ⟨T13, h13, X13, e13, E13, A13, D13, -, st13⟩ := newO X8 hx hZ hown (own_w hw 10 rfl) (own_w hw 11 rfl) (own_w hw 12 rfl) rfl (g := (mkF m 145 #[.val (.long ua), .second, .val (.long ub), .second, .val (.long uc), .second, .val (.long ud), .second, .val (.long ue), .second, iv flg, .val (.long msk), .second, .val (.long va), .second, .val (.long vb), .second, .val (.long vc), .second, .val (.long vd), .second, .val (.long ve), .second, iv 1, rv bx8_rb, .val (.long va), .second, .unset] [])) rfl (hb hby at_145) (by decide) (by decide)
      obtain ⟨b13, g13⟩ : ∃ z, z = T8.heap.size := ⟨_, rfl⟩
      have ne14 : bx8_rb ≠ b13 := Nat.ne_of_lt (Nat.lt_of_lt_of_le w8_0.lt (Nat.le_of_eq g13.symm))
      have sz13 : h0.size ≤ b13 := Nat.le_trans K8.1 (Nat.le_of_eq g13.symm)
      have ge13 : n0 ≤ b13 := Nat.le_trans Z0 sz13
      have c15 : own_Arj Z h13 bx8_rb [va] := w8_0.ext E13
      have K13 : Keep h0 h13 [] := K8.ext E13
      rw [← g13] at A13 D13 st13
      have c16 : Fld Z h13 b13 own_C "end" "I" (.int 0) := D13 (Or.inl (own_w hw 20 rfl)) (ty := .int) (by decide)
      have c17 : Fld Z h13 b13 own_C "keys" "[J" .null := D13 (Or.inl (own_w hw 22 rfl)) (ty := (.array .long)) (by decide)
      have c18 : Fld Z h13 b13 own_C "nodes" "[I" .null := D13 (Or.inl (own_w hw 46 rfl)) (ty := (.array .int)) (by decide)
      refine own_step st13 ?_
      refine own_step (fun t k => XS.dup X13.here hx rfl (hb hby at_148) rfl rfl k) ?_
      refine own_step (fun t k => XS.aload X13.here hx rfl (hb hby at_149) rfl rfl k) ?_
      obtain ⟨_, _, ⟨T19, L19, k19, n19⟩, -, X19, ⟨Lc19, hQ19, l19, y19, z19⟩, st19⟩ := X13.specialBack hx (y := own_y3) rfl hown (mvT hZ (own_w hw 13 rfl)) (mvT hZ (own_w hw 14 rfl)) (mvT hZ (own_w hw 15 rfl)) (by decide) (backOf (W := 1) (rm3_p1 l Z a0 hw [] b13 bx8_rb va h13 n0 (Nat.le_trans Z0 K13.1) A13 c16 c17 c18 c15 (hpk : own_f5_n1 va = 1) (own_nn hd_va hd_msk : 0 ≤ va.toInt) ge13 ne14) hZ (own_w hw 15 rfl) (own_w hw 12 rfl) (by decide) (by decide)) (g := (mkF m 151 #[.val (.long ua), .second, .val (.long ub), .second, .val (.long uc), .second, .val (.long ud), .second, .val (.long ue), .second, iv flg, .val (.long msk), .second, .val (.long va), .second, .val (.long vb), .second, .val (.long vc), .second, .val (.long vd), .second, .val (.long ve), .second, iv 1, rv bx8_rb, .val (.long va), .second, .unset] [(.ref bx8_rb), (.ref b13), (.ref b13)])) rfl (by rw [hml]; rfl) (Steps.refl _) (a := b13) (argsL := [(.ref bx8_rb)]) (rest := [(.ref b13)]) (lenOf pd_0_1 rfl) rfl (own_wl rfl) (hb hby at_151) (fun _ _ => ⟨rfl, e13, (by decide : 2 + 1 ≤ _), (by decide : 4 + 7 ≤ _)⟩)
      dsimp only [Pt.U, Pt.locs, Pt.cells, Pt.slots] at X19 l19 y19 z19 st19 hQ19
      subst y19 z19
      obtain ⟨bx19_x1, bx19_L_x1, rfl, N19q, K19q, w19_0, w19_1, w19_2, w19_3, sx19_0, pr19_0⟩ := hQ19
      have c20 : own_Arj Z T19.heap bx8_rb [va] := c15.keep K19q (ninS ne14 nin0)
      have c21 : Exa Z T19.heap b13 own_C := A13.keep K19q
      have sz19_0 : h0.size ≤ bx19_x1 := Nat.le_trans K13.1 sx19_0
      have ge19_0 : n0 ≤ bx19_x1 := Nat.le_trans Z0 sz19_0
      have ne25 : bx8_rb ≠ bx19_x1 := Nat.ne_of_lt (Nat.lt_of_lt_of_le c15.lt sx19_0)
      have ne26 : b13 ≠ bx19_x1 := Nat.ne_of_lt (Nat.lt_of_lt_of_le A13.lt sx19_0)
      have K19 : Keep h0 T19.heap [] := K13.trans K19q (allS (Or.inr sz13) all0)
      have N19 : Fr n0 L19 := by rw [l19]; exact Fr.app N8 N19q
      refine own_step (fun t k => st19.trans k) ?_
      refine own_step (fun t k => XS.astore X19.here hx rfl (hb hby at_154) rfl rfl (l' := #[.val (.long ua), .second, .val (.long ub), .second, .val (.long uc), .second, .val (.long ud), .second, .val (.long ue), .second, iv flg, .val (.long msk), .second, .val (.long va), .second, .val (.long vb), .second, .val (.long vc), .second, .val (.long vd), .second, .val (.long ve), .second, iv 1, rv bx8_rb, .val (.long va), .second, rv b13]) rfl k) ?_
      refine own_step (fun t k => XS.aload X19.here hx rfl (hb hby at_156) rfl rfl k) ?_
      obtain ⟨cq27, kq27, q27a, q27b, q27c⟩ := isOf hZ rfl c21
      obtain ⟨_, _, ⟨T27, L27, k27, n27⟩, -, X27, ⟨Lc27, hQ27, l27, y27, z27⟩, st27⟩ := X19.virtualBack hx (y := own_y15) (z := own_y15) hown (mvT hZ (own_w hw 62 rfl)) (mvT hZ (own_w hw 63 rfl)) (notFace_of_selects (args := #[]) (mvT hZ (own_w hw 65 rfl))) (mvT hZ (own_w hw 65 rfl)) (mvT hZ (own_w hw 64 rfl)) (by decide) (backOf (W := 0) (rm15_p l Z a0 hw [] b13 bx19_x1 bx19_L_x1 T19.heap n0 (Nat.le_trans Z0 K19.1) w19_1 w19_2 w19_3 (own_b3 pr19_0.1 (by decide) : own_Inb (3 : Int32) bx19_L_x1.length)) hZ (own_w hw 66 rfl) (own_w hw 12 rfl) (by decide) (by decide)) q27a q27c (g := (mkF m 158 #[.val (.long ua), .second, .val (.long ub), .second, .val (.long uc), .second, .val (.long ud), .second, .val (.long ue), .second, iv flg, .val (.long msk), .second, .val (.long va), .second, .val (.long vb), .second, .val (.long vc), .second, .val (.long vd), .second, .val (.long ve), .second, iv 1, rv bx8_rb, .val (.long va), .second, rv b13] [(.ref b13)])) rfl (by rw [hml]; rfl) (Steps.refl _) (argsL := []) (rest := []) (lenOf pd_0_2 rfl) rfl (own_wl rfl) (hb hby at_158) (fun _ _ => ⟨rfl, rfl, (by decide : 3 + 0 ≤ _), (by decide : 11 + 0 ≤ _)⟩)
      dsimp only [Pt.U, Pt.locs, Pt.cells, Pt.slots] at X27 l27 y27 z27 st27 hQ27
      subst y27 z27
      obtain ⟨rfl, N27q, e27⟩ := hQ27
      have N27 : Fr n0 L27 := by rw [l27]; exact Fr.app N19 N27q
      refine own_step (fun t k => st27.trans k) ?_
      clear A13 D13 E13 K13 K19q K8 K8q N19 N19q N27q N8 N8q X13 X19 X8 c15 c16 c17 c18 e13 g13 hk10 hk11 hk12 hk9 q27a q27b q27c st13 st19 st27 st8 sx19_0 sx8_0 w8_0
      show own_G p.tables e below _ (T27.setTop (mkF m 161 #[.val (.long ua), .second, .val (.long ub), .second, .val (.long uc), .second, .val (.long ud), .second, .val (.long ue), .second, iv flg, .val (.long msk), .second, .val (.long va), .second, .val (.long vb), .second, .val (.long vc), .second, .val (.long vd), .second, .val (.long ve), .second, iv 1, rv bx8_rb, .val (.long va), .second, rv b13] [(.long (own_ush (bx19_L_x1.getD 3 0)))]))
      refine own_lx X27.here hx rfl (hb hby at_161) rfl ?_
      refine own_step (fun t k => XS.lcmp X27.here hx rfl (hb hby at_163) rfl k) ?_
      have hk28 : (own_ush (bx19_L_x1.getD 3 0)) = va := Int64.toInt_inj.mp pr19_0.2
      refine own_step (fun t k => XS.ifNo X27.here hx rfl (hb hby at_164) rfl ((if0 _ _).trans (teq ((lw_eq _ _).mpr hk28)).2) k) ?_
      show own_G p.tables e below _ (T27.setTop (mkF m 167 #[.val (.long ua), .second, .val (.long ub), .second, .val (.long uc), .second, .val (.long ud), .second, .val (.long ue), .second, iv flg, .val (.long msk), .second, .val (.long va), .second, .val (.long vb), .second, .val (.long vc), .second, .val (.long vd), .second, .val (.long ve), .second, iv 1, rv bx8_rb, .val (.long va), .second, rv b13] []))
      refine own_ic X27.here hx rfl (hb hby at_167) ?_
      refine own_go X27.here hx rfl (pc0 := 168) (pc' := 172) rfl (hb hby at_168) (by decide) (by decide) ?_
      obtain ⟨fs, hr, hrun, hended, hW, hsame⟩ := X27.leave (v := some (.int (1 : Int32))) (fun h => by rw [Bd.returns] at h; cases h)
      refine own_done (retN X27 hx (t := .boolean) Bd.returns (by simp) (hb hby at_172) hr) hrun hended ⟨_, _, rfl, ?_, ⟨_, rfl⟩, hW, hsame.mono (by decide) (by decide)⟩
      show Q0 Z ua ub uc ud ue flg h0 n0 _ T27.heap _
      rw [e27]
      exact ⟨rfl, N27⟩
    · skip
      show own_G p.tables e below _ (T8.setTop (mkF m 145 #[.val (.long ua), .second, .val (.long ub), .second, .val (.long uc), .second, .val (.long ud), .second, .val (.long ue), .second, iv flg, .val (.long msk), .second, .val (.long va), .second, .val (.long vb), .second, .val (.long vc), .second, .val (.long vd), .second, .val (.long ve), .second, iv 1, rv bx8_rb, .val (.long va), .second, .unset] []))
      obtain ⟨T29, h29, X29, e29, E29, A29, D29, -, st29⟩ := newO X8 hx hZ hown (own_w hw 10 rfl) (own_w hw 11 rfl) (own_w hw 12 rfl) rfl (g := (mkF m 145 #[.val (.long ua), .second, .val (.long ub), .second, .val (.long uc), .second, .val (.long ud), .second, .val (.long ue), .second, iv flg, .val (.long msk), .second, .val (.long va), .second, .val (.long vb), .second, .val (.long vc), .second, .val (.long vd), .second, .val (.long ve), .second, iv 1, rv bx8_rb, .val (.long va), .second, .unset] [])) rfl (hb hby at_145) (by decide) (by decide)
      obtain ⟨b29, g29⟩ : ∃ z, z = T8.heap.size := ⟨_, rfl⟩
      have ne30 : bx8_rb ≠ b29 := Nat.ne_of_lt (Nat.lt_of_lt_of_le w8_0.lt (Nat.le_of_eq g29.symm))
      have sz29 : h0.size ≤ b29 := Nat.le_trans K8.1 (Nat.le_of_eq g29.symm)
      have ge29 : n0 ≤ b29 := Nat.le_trans Z0 sz29
      have c31 : own_Arj Z h29 bx8_rb [va] := w8_0.ext E29
      have K29 : Keep h0 h29 [] := K8.ext E29
      rw [← g29] at A29 D29 st29
      have c32 : Fld Z h29 b29 own_C "end" "I" (.int 0) := D29 (Or.inl (own_w hw 20 rfl)) (ty := .int) (by decide)
      have c33 : Fld Z h29 b29 own_C "keys" "[J" .null := D29 (Or.inl (own_w hw 22 rfl)) (ty := (.array .long)) (by decide)
      have c34 : Fld Z h29 b29 own_C "nodes" "[I" .null := D29 (Or.inl (own_w hw 46 rfl)) (ty := (.array .int)) (by decide)
      refine own_step st29 ?_
      refine own_step (fun t k => XS.dup X29.here hx rfl (hb hby at_148) rfl rfl k) ?_
      refine own_step (fun t k => XS.aload X29.here hx rfl (hb hby at_149) rfl rfl k) ?_
      obtain ⟨_, _, ⟨T35, L35, k35, n35⟩, -, X35, ⟨Lc35, hQ35, l35, y35, z35⟩, st35⟩ := X29.specialBack hx (y := own_y3) rfl hown (mvT hZ (own_w hw 13 rfl)) (mvT hZ (own_w hw 14 rfl)) (mvT hZ (own_w hw 15 rfl)) (by decide) (backOf (W := 1) (rm3_u1 l Z a0 hw [] b29 bx8_rb va h29 n0 (Nat.le_trans Z0 K29.1) A29 c32 c33 c34 c31 (hpk : own_f5_n1 va = 0) ge29 ne30) hZ (own_w hw 15 rfl) (own_w hw 12 rfl) (by decide) (by decide)) (g := (mkF m 151 #[.val (.long ua), .second, .val (.long ub), .second, .val (.long uc), .second, .val (.long ud), .second, .val (.long ue), .second, iv flg, .val (.long msk), .second, .val (.long va), .second, .val (.long vb), .second, .val (.long vc), .second, .val (.long vd), .second, .val (.long ve), .second, iv 1, rv bx8_rb, .val (.long va), .second, .unset] [(.ref bx8_rb), (.ref b29), (.ref b29)])) rfl (by rw [hml]; rfl) (Steps.refl _) (a := b29) (argsL := [(.ref bx8_rb)]) (rest := [(.ref b29)]) (lenOf pd_0_1 rfl) rfl (own_wl rfl) (hb hby at_151) (fun _ _ => ⟨rfl, e29, (by decide : 2 + 2 ≤ _), (by decide : 4 + 14 ≤ _)⟩)
      dsimp only [Pt.U, Pt.locs, Pt.cells, Pt.slots] at X35 l35 y35 z35 st35 hQ35
      subst y35 z35
      obtain ⟨bx35_x1, bx35_x2, bx35_L_x1, bx35_L_x2, rfl, N35q, K35q, w35_0, w35_1, w35_2, w35_3, w35_4, sx35_0, sx35_1, xn35_0, pr35_0, pr35_1⟩ := hQ35
      have c36 : own_Arj Z T35.heap bx8_rb [va] := c31.keep K35q (ninS ne30 nin0)
      have c37 : Exa Z T35.heap b29 own_C := A29.keep K35q
      have sz35_0 : h0.size ≤ bx35_x1 := Nat.le_trans K29.1 sx35_0
      have ge35_0 : n0 ≤ bx35_x1 := Nat.le_trans Z0 sz35_0
      have ne41 : bx8_rb ≠ bx35_x1 := Nat.ne_of_lt (Nat.lt_of_lt_of_le c31.lt sx35_0)
      have ne42 : b29 ≠ bx35_x1 := Nat.ne_of_lt (Nat.lt_of_lt_of_le A29.lt sx35_0)
      have sz35_1 : h0.size ≤ bx35_x2 := Nat.le_trans K29.1 sx35_1
      have ge35_1 : n0 ≤ bx35_x2 := Nat.le_trans Z0 sz35_1
      have ne43 : bx8_rb ≠ bx35_x2 := Nat.ne_of_lt (Nat.lt_of_lt_of_le c31.lt sx35_1)
      have ne44 : b29 ≠ bx35_x2 := Nat.ne_of_lt (Nat.lt_of_lt_of_le A29.lt sx35_1)
      have K35 : Keep h0 T35.heap [] := K29.trans K35q (allS (Or.inr sz29) all0)
      have N35 : Fr n0 L35 := by rw [l35]; exact Fr.app N8 N35q
      refine own_step (fun t k => st35.trans k) ?_
      refine own_step (fun t k => XS.astore X35.here hx rfl (hb hby at_154) rfl rfl (l' := #[.val (.long ua), .second, .val (.long ub), .second, .val (.long uc), .second, .val (.long ud), .second, .val (.long ue), .second, iv flg, .val (.long msk), .second, .val (.long va), .second, .val (.long vb), .second, .val (.long vc), .second, .val (.long vd), .second, .val (.long ve), .second, iv 1, rv bx8_rb, .val (.long va), .second, rv b29]) rfl k) ?_
      refine own_step (fun t k => XS.aload X35.here hx rfl (hb hby at_156) rfl rfl k) ?_
      obtain ⟨cq45, kq45, q45a, q45b, q45c⟩ := isOf hZ rfl c37
      obtain ⟨_, _, ⟨T45, L45, k45, n45⟩, -, X45, ⟨Lc45, hQ45, l45, y45, z45⟩, st45⟩ := X35.virtualBack hx (y := own_y15) (z := own_y15) hown (mvT hZ (own_w hw 62 rfl)) (mvT hZ (own_w hw 63 rfl)) (notFace_of_selects (args := #[]) (mvT hZ (own_w hw 65 rfl))) (mvT hZ (own_w hw 65 rfl)) (mvT hZ (own_w hw 64 rfl)) (by decide) (backOf (W := 0) (rm15_u l Z a0 hw [] b29 bx35_x1 bx35_x2 bx35_L_x1 T35.heap n0 (Nat.le_trans Z0 K35.1) w35_1 w35_2 w35_3 (own_b3 pr35_0.1 (by decide) : own_Inb (3 : Int32) bx35_L_x1.length)) hZ (own_w hw 66 rfl) (own_w hw 12 rfl) (by decide) (by decide)) q45a q45c (g := (mkF m 158 #[.val (.long ua), .second, .val (.long ub), .second, .val (.long uc), .second, .val (.long ud), .second, .val (.long ue), .second, iv flg, .val (.long msk), .second, .val (.long va), .second, .val (.long vb), .second, .val (.long vc), .second, .val (.long vd), .second, .val (.long ve), .second, iv 1, rv bx8_rb, .val (.long va), .second, rv b29] [(.ref b29)])) rfl (by rw [hml]; rfl) (Steps.refl _) (argsL := []) (rest := []) (lenOf pd_0_2 rfl) rfl (own_wl rfl) (hb hby at_158) (fun _ _ => ⟨rfl, rfl, (by decide : 4 + 0 ≤ _), (by decide : 18 + 0 ≤ _)⟩)
      dsimp only [Pt.U, Pt.locs, Pt.cells, Pt.slots] at X45 l45 y45 z45 st45 hQ45
      subst y45 z45
      obtain ⟨rfl, N45q, e45⟩ := hQ45
      have N45 : Fr n0 L45 := by rw [l45]; exact Fr.app N35 N45q
      refine own_step (fun t k => st45.trans k) ?_
      clear A29 D29 E29 K29 K35q K8 K8q N35 N35q N45q N8 N8q X29 X35 X8 c31 c32 c33 c34 e29 g29 hk10 hk11 hk12 hk9 q45a q45b q45c st29 st35 st45 st8 sx35_0 sx35_1 sx8_0 w8_0
      show own_G p.tables e below _ (T45.setTop (mkF m 161 #[.val (.long ua), .second, .val (.long ub), .second, .val (.long uc), .second, .val (.long ud), .second, .val (.long ue), .second, iv flg, .val (.long msk), .second, .val (.long va), .second, .val (.long vb), .second, .val (.long vc), .second, .val (.long vd), .second, .val (.long ve), .second, iv 1, rv bx8_rb, .val (.long va), .second, rv b29] [(.long (bx35_L_x1.getD 3 0))]))
      refine own_lx X45.here hx rfl (hb hby at_161) rfl ?_
      refine own_step (fun t k => XS.lcmp X45.here hx rfl (hb hby at_163) rfl k) ?_
      have hk46 : (bx35_L_x1.getD 3 0) = va := Int64.toInt_inj.mp pr35_0.2
      refine own_step (fun t k => XS.ifNo X45.here hx rfl (hb hby at_164) rfl ((if0 _ _).trans (teq ((lw_eq _ _).mpr hk46)).2) k) ?_
      show own_G p.tables e below _ (T45.setTop (mkF m 167 #[.val (.long ua), .second, .val (.long ub), .second, .val (.long uc), .second, .val (.long ud), .second, .val (.long ue), .second, iv flg, .val (.long msk), .second, .val (.long va), .second, .val (.long vb), .second, .val (.long vc), .second, .val (.long vd), .second, .val (.long ve), .second, iv 1, rv bx8_rb, .val (.long va), .second, rv b29] []))
      refine own_ic X45.here hx rfl (hb hby at_167) ?_
      refine own_go X45.here hx rfl (pc0 := 168) (pc' := 172) rfl (hb hby at_168) (by decide) (by decide) ?_
      obtain ⟨fs, hr, hrun, hended, hW, hsame⟩ := X45.leave (v := some (.int (1 : Int32))) (fun h => by rw [Bd.returns] at h; cases h)
      refine own_done (retN X45 hx (t := .boolean) Bd.returns (by simp) (hb hby at_172) hr) hrun hended ⟨_, _, rfl, ?_, ⟨_, rfl⟩, hW, hsame.mono (by decide) (by decide)⟩
      show Q0 Z ua ub uc ud ue flg h0 n0 _ T45.heap _
      rw [e45]
      exact ⟨rfl, N45⟩
  · skip
    show own_G p.tables e below _ (s₁.setTop (mkF m 64 #[.val (.long ua), .second, .val (.long ub), .second, .val (.long uc), .second, .val (.long ud), .second, .val (.long ue), .second, iv flg, .val (.long msk), .second, .val (.long va), .second, .val (.long vb), .second, .val (.long vc), .second, .val (.long vd), .second, .val (.long ve), .second, iv 2, .unset, .unset, .unset, .unset] []))
    refine own_ix X0.here hx rfl (hb hby at_64) rfl ?_
    refine own_lx X0.here hx rfl (hb hby at_66) rfl ?_
    refine own_lx X0.here hx rfl (hb hby at_68) rfl ?_
    refine own_lx X0.here hx rfl (hb hby at_70) rfl ?_
    refine own_lx X0.here hx rfl (hb hby at_72) rfl ?_
    refine own_lx X0.here hx rfl (hb hby at_74) rfl ?_
    obtain ⟨_, _, ⟨T47, L47, k47, n47⟩, -, X47, ⟨Lc47, hQ47, l47, y47, z47⟩, st47⟩ := Jvm.LawKit.callS X0 hx (y := own_y1) hown (mvT hZ (own_w hw 1 rfl)) (mvT hZ (own_w hw 2 rfl)) (mvT hZ (own_w hw 3 rfl)) (mvT hZ (own_w hw 4 rfl)) (by decide) (backOf (W := 0) (rm1_n2 l Z a0 hw [] va vb vc vd ve h0 n0 (Nat.le_trans Z0 (Keep.refl h0 []).1) ) hZ (own_w hw 4 rfl) (own_w hw 3 rfl) (by decide) (by decide)) (g := (mkF m 76 #[.val (.long ua), .second, .val (.long ub), .second, .val (.long uc), .second, .val (.long ud), .second, .val (.long ue), .second, iv flg, .val (.long msk), .second, .val (.long va), .second, .val (.long vb), .second, .val (.long vc), .second, .val (.long vd), .second, .val (.long ve), .second, iv 2, .unset, .unset, .unset, .unset] [(.long ve), (.long vd), (.long vc), (.long vb), (.long va), (.int 2)])) rfl (by rw [hml]; rfl) (argsL := [(.int 2), (.long va), (.long vb), (.long vc), (.long vd), (.long ve)]) (rest := []) (lenOf pd_0_0 rfl) rfl (own_wl rfl) (hb hby at_76) (fun _ _ => ⟨rfl, e0, (by decide : 0 + 1 ≤ _), (by decide : 0 + 2 ≤ _)⟩)
    dsimp only [Pt.U, Pt.locs, Pt.cells, Pt.slots] at X47 l47 y47 z47 st47 hQ47
    subst y47 z47
    obtain ⟨bx47_rb, rfl, N47q, K47q, w47_0, sx47_0⟩ := hQ47
    have sz47_0 : h0.size ≤ bx47_rb := Nat.le_trans (Keep.refl h0 []).1 sx47_0
    have ge47_0 : n0 ≤ bx47_rb := Nat.le_trans Z0 sz47_0
    have K47 : Keep h0 T47.heap [] := (Keep.refl h0 []).trans K47q all0
    have N47 : Fr n0 L47 := by rw [l47]; exact Fr.app N0 N47q
    refine own_step st47 ?_
    show own_G p.tables e below _ (T47.setTop (mkF m 79 #[.val (.long ua), .second, .val (.long ub), .second, .val (.long uc), .second, .val (.long ud), .second, .val (.long ue), .second, iv flg, .val (.long msk), .second, .val (.long va), .second, .val (.long vb), .second, .val (.long vc), .second, .val (.long vd), .second, .val (.long ve), .second, iv 2, .unset, .unset, .unset, .unset] [(.ref bx47_rb)]))
    refine own_step (fun t k => XS.astore X47.here hx rfl (hb hby at_79) rfl rfl (l' := #[.val (.long ua), .second, .val (.long ub), .second, .val (.long uc), .second, .val (.long ud), .second, .val (.long ue), .second, iv flg, .val (.long msk), .second, .val (.long va), .second, .val (.long vb), .second, .val (.long vc), .second, .val (.long vd), .second, .val (.long ve), .second, iv 2, rv bx47_rb, .unset, .unset, .unset]) rfl k) ?_
    refine own_lx X47.here hx rfl (hb hby at_81) rfl ?_
    refine own_step (fun t k => XS.lstore X47.here hx rfl (hb hby at_83) rfl (l' := #[.val (.long ua), .second, .val (.long ub), .second, .val (.long uc), .second, .val (.long ud), .second, .val (.long ue), .second, iv flg, .val (.long msk), .second, .val (.long va), .second, .val (.long vb), .second, .val (.long vc), .second, .val (.long vd), .second, .val (.long ve), .second, iv 2, rv bx47_rb, .val (.long va), .second, .unset]) rfl k) ?_
    refine own_ix X47.here hx rfl (hb hby at_85) rfl ?_
    refine own_ic X47.here hx rfl (hb hby at_87) ?_
    have hk48 : (1 : Int32) < (2 : Int32) := (by decide)
    refine own_step (fun t k => XS.icmpNo X47.here hx rfl (hb hby at_88) rfl ((tlt hk48).2.2.2) k) ?_
    show own_G p.tables e below _ (T47.setTop (mkF m 91 #[.val (.long ua), .second, .val (.long ub), .second, .val (.long uc), .second, .val (.long ud), .second, .val (.long ue), .second, iv flg, .val (.long msk), .second, .val (.long va), .second, .val (.long vb), .second, .val (.long vc), .second, .val (.long vd), .second, .val (.long ve), .second, iv 2, rv bx47_rb, .val (.long va), .second, .unset] []))
    refine own_lx X47.here hx rfl (hb hby at_91) rfl ?_
    refine own_lx X47.here hx rfl (hb hby at_93) rfl ?_
    obtain ⟨_, _, ⟨T49, L49, k49, n49⟩, -, X49, ⟨Lc49, hQ49, l49, y49, z49⟩, st49⟩ := Jvm.LawKit.callS X47 hx (y := own_y2) hown (mvT hZ (own_w hw 6 rfl)) (mvT hZ (own_w hw 7 rfl)) (mvT hZ (own_w hw 8 rfl)) (mvT hZ (own_w hw 9 rfl)) (by decide) (backOf (W := 0) (rm2 l Z a0 hw [] va vb T47.heap n0 (Nat.le_trans Z0 K47.1) ) hZ (own_w hw 9 rfl) (own_w hw 8 rfl) (by decide) (by decide)) (g := (mkF m 95 #[.val (.long ua), .second, .val (.long ub), .second, .val (.long uc), .second, .val (.long ud), .second, .val (.long ue), .second, iv flg, .val (.long msk), .second, .val (.long va), .second, .val (.long vb), .second, .val (.long vc), .second, .val (.long vd), .second, .val (.long ve), .second, iv 2, rv bx47_rb, .val (.long va), .second, .unset] [(.long vb), (.long va)])) rfl (by rw [hml]; rfl) (argsL := [(.long va), (.long vb)]) (rest := []) (lenOf pd_0_3 rfl) rfl (own_wl rfl) (hb hby at_95) (fun _ _ => ⟨rfl, rfl, (by decide : 1 + 0 ≤ _), (by decide : 2 + 0 ≤ _)⟩)
    dsimp only [Pt.U, Pt.locs, Pt.cells, Pt.slots] at X49 l49 y49 z49 st49 hQ49
    subst y49 z49
    obtain ⟨rfl, N49q, e49⟩ := hQ49
    have N49 : Fr n0 L49 := by rw [l49]; exact Fr.app N47 N49q
    refine own_step st49 ?_
    refine own_step (fun t k => XS.lstore X49.here hx rfl (hb hby at_98) rfl (l' := #[.val (.long ua), .second, .val (.long ub), .second, .val (.long uc), .second, .val (.long ud), .second, .val (.long ue), .second, iv flg, .val (.long msk), .second, .val (.long va), .second, .val (.long vb), .second, .val (.long vc), .second, .val (.long vd), .second, .val (.long ve), .second, iv 2, rv bx47_rb, .val (.long (own_f2 va vb)), .second, .unset]) rfl k) ?_
    refine own_ix X49.here hx rfl (hb hby at_100) rfl ?_
    refine own_ic X49.here hx rfl (hb hby at_102) ?_
    have hk50 : ¬ ((2 : Int32) < (2 : Int32)) := (by decide)
    refine own_step (fun t k => XS.icmpYes X49.here hx rfl (pc0 := 103) (pc' := 115) rfl (hb hby at_103) rfl ((flt hk50).2.2.2) (by decide) (by decide) k) ?_
    clear K47q N47 N47q N49q X47 hk48 hk50 st47 st49 sx47_0
    show own_G p.tables e below _ (T49.setTop (mkF m 115 #[.val (.long ua), .second, .val (.long ub), .second, .val (.long uc), .second, .val (.long ud), .second, .val (.long ue), .second, iv flg, .val (.long msk), .second, .val (.long va), .second, .val (.long vb), .second, .val (.long vc), .second, .val (.long vd), .second, .val (.long ve), .second, iv 2, rv bx47_rb, .val (.long (own_f2 va vb)), .second, .unset] []))
    refine own_ix X49.here hx rfl (hb hby at_115) rfl ?_
    refine own_ic X49.here hx rfl (hb hby at_117) ?_
    have hk51 : ¬ ((3 : Int32) < (2 : Int32)) := (by decide)
    refine own_step (fun t k => XS.icmpYes X49.here hx rfl (pc0 := 118) (pc' := 130) rfl (hb hby at_118) rfl ((flt hk51).2.2.2) (by decide) (by decide) k) ?_
    show own_G p.tables e below _ (T49.setTop (mkF m 130 #[.val (.long ua), .second, .val (.long ub), .second, .val (.long uc), .second, .val (.long ud), .second, .val (.long ue), .second, iv flg, .val (.long msk), .second, .val (.long va), .second, .val (.long vb), .second, .val (.long vc), .second, .val (.long vd), .second, .val (.long ve), .second, iv 2, rv bx47_rb, .val (.long (own_f2 va vb)), .second, .unset] []))
    refine own_ix X49.here hx rfl (hb hby at_130) rfl ?_
    refine own_ic X49.here hx rfl (hb hby at_132) ?_
    have hk52 : ¬ ((4 : Int32) < (2 : Int32)) := (by decide)
    refine own_step (fun t k => XS.icmpYes X49.here hx rfl (pc0 := 133) (pc' := 145) rfl (hb hby at_133) rfl ((flt hk52).2.2.2) (by decide) (by decide) k) ?_
    show own_G p.tables e below _ (T49.setTop (mkF m 145 #[.val (.long ua), .second, .val (.long ub), .second, .val (.long uc), .second, .val (.long ud), .second, .val (.long ue), .second, iv flg, .val (.long msk), .second, .val (.long va), .second, .val (.long vb), .second, .val (.long vc), .second, .val (.long vd), .second, .val (.long ve), .second, iv 2, rv bx47_rb, .val (.long (own_f2 va vb)), .second, .unset] []))
    rcases own_f5z_n2 va vb with hpk | hpk
    · skip
      show own_G p.tables e below _ (T49.setTop (mkF m 145 #[.val (.long ua), .second, .val (.long ub), .second, .val (.long uc), .second, .val (.long ud), .second, .val (.long ue), .second, iv flg, .val (.long msk), .second, .val (.long va), .second, .val (.long vb), .second, .val (.long vc), .second, .val (.long vd), .second, .val (.long ve), .second, iv 2, rv bx47_rb, .val (.long (own_f2 va vb)), .second, .unset] []))
      obtain ⟨T53, h53, X53, e53, E53, A53, D53, -, st53⟩ := newO X49 hx hZ hown (own_w hw 10 rfl) (own_w hw 11 rfl) (own_w hw 12 rfl) e49 (g := (mkF m 145 #[.val (.long ua), .second, .val (.long ub), .second, .val (.long uc), .second, .val (.long ud), .second, .val (.long ue), .second, iv flg, .val (.long msk), .second, .val (.long va), .second, .val (.long vb), .second, .val (.long vc), .second, .val (.long vd), .second, .val (.long ve), .second, iv 2, rv bx47_rb, .val (.long (own_f2 va vb)), .second, .unset] [])) rfl (hb hby at_145) (by decide) (by decide)
      obtain ⟨b53, g53⟩ : ∃ z, z = T47.heap.size := ⟨_, rfl⟩
      have ne54 : bx47_rb ≠ b53 := Nat.ne_of_lt (Nat.lt_of_lt_of_le w47_0.lt (Nat.le_of_eq g53.symm))
      have sz53 : h0.size ≤ b53 := Nat.le_trans K47.1 (Nat.le_of_eq g53.symm)
      have ge53 : n0 ≤ b53 := Nat.le_trans Z0 sz53
      have c55 : own_Arj Z h53 bx47_rb [va, vb] := w47_0.ext E53
      have K53 : Keep h0 h53 [] := K47.ext E53
      rw [← g53] at A53 D53 st53
      have c56 : Fld Z h53 b53 own_C "end" "I" (.int 0) := D53 (Or.inl (own_w hw 20 rfl)) (ty := .int) (by decide)
      have c57 : Fld Z h53 b53 own_C "keys" "[J" .null := D53 (Or.inl (own_w hw 22 rfl)) (ty := (.array .long)) (by decide)
      have c58 : Fld Z h53 b53 own_C "nodes" "[I" .null := D53 (Or.inl (own_w hw 46 rfl)) (ty := (.array .int)) (by decide)
      refine own_step st53 ?_
      refine own_step (fun t k => XS.dup X53.here hx rfl (hb hby at_148) rfl rfl k) ?_
      refine own_step (fun t k => XS.aload X53.here hx rfl (hb hby at_149) rfl rfl k) ?_
      obtain ⟨_, _, ⟨T59, L59, k59, n59⟩, -, X59, ⟨Lc59, hQ59, l59, y59, z59⟩, st59⟩ := X53.specialBack hx (y := own_y3) rfl hown (mvT hZ (own_w hw 13 rfl)) (mvT hZ (own_w hw 14 rfl)) (mvT hZ (own_w hw 15 rfl)) (by decide) (backOf (W := 1) (rm3_p2 l Z a0 hw [] b53 bx47_rb va vb h53 n0 (Nat.le_trans Z0 K53.1) A53 c56 c57 c58 c55 (hpk : own_f5_n2 va vb = 1) (own_nn hd_va hd_msk : 0 ≤ va.toInt) (own_nn hd_vb hd_msk : 0 ≤ vb.toInt) ge53 ne54) hZ (own_w hw 15 rfl) (own_w hw 12 rfl) (by decide) (by decide)) (g := (mkF m 151 #[.val (.long ua), .second, .val (.long ub), .second, .val (.long uc), .second, .val (.long ud), .second, .val (.long ue), .second, iv flg, .val (.long msk), .second, .val (.long va), .second, .val (.long vb), .second, .val (.long vc), .second, .val (.long vd), .second, .val (.long ve), .second, iv 2, rv bx47_rb, .val (.long (own_f2 va vb)), .second, .unset] [(.ref bx47_rb), (.ref b53), (.ref b53)])) rfl (by rw [hml]; rfl) (Steps.refl _) (a := b53) (argsL := [(.ref bx47_rb)]) (rest := [(.ref b53)]) (lenOf pd_0_1 rfl) rfl (own_wl rfl) (hb hby at_151) (fun _ _ => ⟨rfl, e53, (by decide : 2 + 1 ≤ _), (by decide : 5 + 8 ≤ _)⟩)
      dsimp only [Pt.U, Pt.locs, Pt.cells, Pt.slots] at X59 l59 y59 z59 st59 hQ59
      subst y59 z59
      obtain ⟨bx59_x1, bx59_L_x1, rfl, N59q, K59q, w59_0, w59_1, w59_2, w59_3, sx59_0, pr59_0⟩ := hQ59
      have c60 : own_Arj Z T59.heap bx47_rb [va, vb] := c55.keep K59q (ninS ne54 nin0)
      have c61 : Exa Z T59.heap b53 own_C := A53.keep K59q
      have sz59_0 : h0.size ≤ bx59_x1 := Nat.le_trans K53.1 sx59_0
      have ge59_0 : n0 ≤ bx59_x1 := Nat.le_trans Z0 sz59_0
      have ne65 : bx47_rb ≠ bx59_x1 := Nat.ne_of_lt (Nat.lt_of_lt_of_le c55.lt sx59_0)
      have ne66 : b53 ≠ bx59_x1 := Nat.ne_of_lt (Nat.lt_of_lt_of_le A53.lt sx59_0)
      have K59 : Keep h0 T59.heap [] := K53.trans K59q (allS (Or.inr sz53) all0)
      have N59 : Fr n0 L59 := by rw [l59]; exact Fr.app N49 N59q
      refine own_step (fun t k => st59.trans k) ?_
      refine own_step (fun t k => XS.astore X59.here hx rfl (hb hby at_154) rfl rfl (l' := #[.val (.long ua), .second, .val (.long ub), .second, .val (.long uc), .second, .val (.long ud), .second, .val (.long ue), .second, iv flg, .val (.long msk), .second, .val (.long va), .second, .val (.long vb), .second, .val (.long vc), .second, .val (.long vd), .second, .val (.long ve), .second, iv 2, rv bx47_rb, .val (.long (own_f2 va vb)), .second, rv b53]) rfl k) ?_
      refine own_step (fun t k => XS.aload X59.here hx rfl (hb hby at_156) rfl rfl k) ?_
      obtain ⟨cq67, kq67, q67a, q67b, q67c⟩ := isOf hZ rfl c61
      obtain ⟨_, _, ⟨T67, L67, k67, n67⟩, -, X67, ⟨Lc67, hQ67, l67, y67, z67⟩, st67⟩ := X59.virtualBack hx (y := own_y15) (z := own_y15) hown (mvT hZ (own_w hw 62 rfl)) (mvT hZ (own_w hw 63 rfl)) (notFace_of_selects (args := #[]) (mvT hZ (own_w hw 65 rfl))) (mvT hZ (own_w hw 65 rfl)) (mvT hZ (own_w hw 64 rfl)) (by decide) (backOf (W := 0) (rm15_p l Z a0 hw [] b53 bx59_x1 bx59_L_x1 T59.heap n0 (Nat.le_trans Z0 K59.1) w59_1 w59_2 w59_3 (own_b3 pr59_0.1 (by decide) : own_Inb (3 : Int32) bx59_L_x1.length)) hZ (own_w hw 66 rfl) (own_w hw 12 rfl) (by decide) (by decide)) q67a q67c (g := (mkF m 158 #[.val (.long ua), .second, .val (.long ub), .second, .val (.long uc), .second, .val (.long ud), .second, .val (.long ue), .second, iv flg, .val (.long msk), .second, .val (.long va), .second, .val (.long vb), .second, .val (.long vc), .second, .val (.long vd), .second, .val (.long ve), .second, iv 2, rv bx47_rb, .val (.long (own_f2 va vb)), .second, rv b53] [(.ref b53)])) rfl (by rw [hml]; rfl) (Steps.refl _) (argsL := []) (rest := []) (lenOf pd_0_2 rfl) rfl (own_wl rfl) (hb hby at_158) (fun _ _ => ⟨rfl, rfl, (by decide : 3 + 0 ≤ _), (by decide : 13 + 0 ≤ _)⟩)
      dsimp only [Pt.U, Pt.locs, Pt.cells, Pt.slots] at X67 l67 y67 z67 st67 hQ67
      subst y67 z67
      obtain ⟨rfl, N67q, e67⟩ := hQ67
      have N67 : Fr n0 L67 := by rw [l67]; exact Fr.app N59 N67q
      refine own_step (fun t k => st67.trans k) ?_
      clear A53 D53 E53 K47 K53 K59q N49 N59 N59q N67q X49 X53 X59 c55 c56 c57 c58 e49 e53 g53 hk51 hk52 q67a q67b q67c st53 st59 st67 sx59_0 w47_0
      show own_G p.tables e below _ (T67.setTop (mkF m 161 #[.val (.long ua), .second, .val (.long ub), .second, .val (.long uc), .second, .val (.long ud), .second, .val (.long ue), .second, iv flg, .val (.long msk), .second, .val (.long va), .second, .val (.long vb), .second, .val (.long vc), .second, .val (.long vd), .second, .val (.long ve), .second, iv 2, rv bx47_rb, .val (.long (own_f2 va vb)), .second, rv b53] [(.long (own_ush (bx59_L_x1.getD 3 0)))]))
      refine own_lx X67.here hx rfl (hb hby at_161) rfl ?_
      refine own_step (fun t k => XS.lcmp X67.here hx rfl (hb hby at_163) rfl k) ?_
      have hk68 : (own_ush (bx59_L_x1.getD 3 0)) = (own_f2 va vb) := Int64.toInt_inj.mp (pr59_0.2.trans (by simp only [own_f2_int]))
      refine own_step (fun t k => XS.ifNo X67.here hx rfl (hb hby at_164) rfl ((if0 _ _).trans (teq ((lw_eq _ _).mpr hk68)).2) k) ?_
      show own_G p.tables e below _ (T67.setTop (mkF m 167 #[.val (.long ua), .second, .val (.long ub), .second, .val (.long uc), .second, .val (.long ud), .second, .val (.long ue), .second, iv flg, .val (.long msk), .second, .val (.long va), .second, .val (.long vb), .second, .val (.long vc), .second, .val (.long vd), .second, .val (.long ve), .second, iv 2, rv bx47_rb, .val (.long (own_f2 va vb)), .second, rv b53] []))
      refine own_ic X67.here hx rfl (hb hby at_167) ?_
      refine own_go X67.here hx rfl (pc0 := 168) (pc' := 172) rfl (hb hby at_168) (by decide) (by decide) ?_
      obtain ⟨fs, hr, hrun, hended, hW, hsame⟩ := X67.leave (v := some (.int (1 : Int32))) (fun h => by rw [Bd.returns] at h; cases h)
      refine own_done (retN X67 hx (t := .boolean) Bd.returns (by simp) (hb hby at_172) hr) hrun hended ⟨_, _, rfl, ?_, ⟨_, rfl⟩, hW, hsame.mono (by decide) (by decide)⟩
      show Q0 Z ua ub uc ud ue flg h0 n0 _ T67.heap _
      rw [e67]
      exact ⟨rfl, N67⟩
    · skip
      show own_G p.tables e below _ (T49.setTop (mkF m 145 #[.val (.long ua), .second, .val (.long ub), .second, .val (.long uc), .second, .val (.long ud), .second, .val (.long ue), .second, iv flg, .val (.long msk), .second, .val (.long va), .second, .val (.long vb), .second, .val (.long vc), .second, .val (.long vd), .second, .val (.long ve), .second, iv 2, rv bx47_rb, .val (.long (own_f2 va vb)), .second, .unset] []))
      obtain ⟨T69, h69, X69, e69, E69, A69, D69, -, st69⟩ := newO X49 hx hZ hown (own_w hw 10 rfl) (own_w hw 11 rfl) (own_w hw 12 rfl) e49 (g := (mkF m 145 #[.val (.long ua), .second, .val (.long ub), .second, .val (.long uc), .second, .val (.long ud), .second, .val (.long ue), .second, iv flg, .val (.long msk), .second, .val (.long va), .second, .val (.long vb), .second, .val (.long vc), .second, .val (.long vd), .second, .val (.long ve), .second, iv 2, rv bx47_rb, .val (.long (own_f2 va vb)), .second, .unset] [])) rfl (hb hby at_145) (by decide) (by decide)
      obtain ⟨b69, g69⟩ : ∃ z, z = T47.heap.size := ⟨_, rfl⟩
      have ne70 : bx47_rb ≠ b69 := Nat.ne_of_lt (Nat.lt_of_lt_of_le w47_0.lt (Nat.le_of_eq g69.symm))
      have sz69 : h0.size ≤ b69 := Nat.le_trans K47.1 (Nat.le_of_eq g69.symm)
      have ge69 : n0 ≤ b69 := Nat.le_trans Z0 sz69
      have c71 : own_Arj Z h69 bx47_rb [va, vb] := w47_0.ext E69
      have K69 : Keep h0 h69 [] := K47.ext E69
      rw [← g69] at A69 D69 st69
      have c72 : Fld Z h69 b69 own_C "end" "I" (.int 0) := D69 (Or.inl (own_w hw 20 rfl)) (ty := .int) (by decide)
      have c73 : Fld Z h69 b69 own_C "keys" "[J" .null := D69 (Or.inl (own_w hw 22 rfl)) (ty := (.array .long)) (by decide)
      have c74 : Fld Z h69 b69 own_C "nodes" "[I" .null := D69 (Or.inl (own_w hw 46 rfl)) (ty := (.array .int)) (by decide)
      refine own_step st69 ?_
      refine own_step (fun t k => XS.dup X69.here hx rfl (hb hby at_148) rfl rfl k) ?_
      refine own_step (fun t k => XS.aload X69.here hx rfl (hb hby at_149) rfl rfl k) ?_
      obtain ⟨_, _, ⟨T75, L75, k75, n75⟩, -, X75, ⟨Lc75, hQ75, l75, y75, z75⟩, st75⟩ := X69.specialBack hx (y := own_y3) rfl hown (mvT hZ (own_w hw 13 rfl)) (mvT hZ (own_w hw 14 rfl)) (mvT hZ (own_w hw 15 rfl)) (by decide) (backOf (W := 1) (rm3_u2 l Z a0 hw [] b69 bx47_rb va vb h69 n0 (Nat.le_trans Z0 K69.1) A69 c72 c73 c74 c71 (hpk : own_f5_n2 va vb = 0) ge69 ne70) hZ (own_w hw 15 rfl) (own_w hw 12 rfl) (by decide) (by decide)) (g := (mkF m 151 #[.val (.long ua), .second, .val (.long ub), .second, .val (.long uc), .second, .val (.long ud), .second, .val (.long ue), .second, iv flg, .val (.long msk), .second, .val (.long va), .second, .val (.long vb), .second, .val (.long vc), .second, .val (.long vd), .second, .val (.long ve), .second, iv 2, rv bx47_rb, .val (.long (own_f2 va vb)), .second, .unset] [(.ref bx47_rb), (.ref b69), (.ref b69)])) rfl (by rw [hml]; rfl) (Steps.refl _) (a := b69) (argsL := [(.ref bx47_rb)]) (rest := [(.ref b69)]) (lenOf pd_0_1 rfl) rfl (own_wl rfl) (hb hby at_151) (fun _ _ => ⟨rfl, e69, (by decide : 2 + 2 ≤ _), (by decide : 5 + 16 ≤ _)⟩)
      dsimp only [Pt.U, Pt.locs, Pt.cells, Pt.slots] at X75 l75 y75 z75 st75 hQ75
      subst y75 z75
      obtain ⟨bx75_x1, bx75_x2, bx75_L_x1, bx75_L_x2, rfl, N75q, K75q, w75_0, w75_1, w75_2, w75_3, w75_4, sx75_0, sx75_1, xn75_0, pr75_0, pr75_1⟩ := hQ75
      have c76 : own_Arj Z T75.heap bx47_rb [va, vb] := c71.keep K75q (ninS ne70 nin0)
      have c77 : Exa Z T75.heap b69 own_C := A69.keep K75q
      have sz75_0 : h0.size ≤ bx75_x1 := Nat.le_trans K69.1 sx75_0
      have ge75_0 : n0 ≤ bx75_x1 := Nat.le_trans Z0 sz75_0
      have ne81 : bx47_rb ≠ bx75_x1 := Nat.ne_of_lt (Nat.lt_of_lt_of_le c71.lt sx75_0)
      have ne82 : b69 ≠ bx75_x1 := Nat.ne_of_lt (Nat.lt_of_lt_of_le A69.lt sx75_0)
      have sz75_1 : h0.size ≤ bx75_x2 := Nat.le_trans K69.1 sx75_1
      have ge75_1 : n0 ≤ bx75_x2 := Nat.le_trans Z0 sz75_1
      have ne83 : bx47_rb ≠ bx75_x2 := Nat.ne_of_lt (Nat.lt_of_lt_of_le c71.lt sx75_1)
      have ne84 : b69 ≠ bx75_x2 := Nat.ne_of_lt (Nat.lt_of_lt_of_le A69.lt sx75_1)
      have K75 : Keep h0 T75.heap [] := K69.trans K75q (allS (Or.inr sz69) all0)
      have N75 : Fr n0 L75 := by rw [l75]; exact Fr.app N49 N75q
      refine own_step (fun t k => st75.trans k) ?_
      refine own_step (fun t k => XS.astore X75.here hx rfl (hb hby at_154) rfl rfl (l' := #[.val (.long ua), .second, .val (.long ub), .second, .val (.long uc), .second, .val (.long ud), .second, .val (.long ue), .second, iv flg, .val (.long msk), .second, .val (.long va), .second, .val (.long vb), .second, .val (.long vc), .second, .val (.long vd), .second, .val (.long ve), .second, iv 2, rv bx47_rb, .val (.long (own_f2 va vb)), .second, rv b69]) rfl k) ?_
      refine own_step (fun t k => XS.aload X75.here hx rfl (hb hby at_156) rfl rfl k) ?_
      obtain ⟨cq85, kq85, q85a, q85b, q85c⟩ := isOf hZ rfl c77
      obtain ⟨_, _, ⟨T85, L85, k85, n85⟩, -, X85, ⟨Lc85, hQ85, l85, y85, z85⟩, st85⟩ := X75.virtualBack hx (y := own_y15) (z := own_y15) hown (mvT hZ (own_w hw 62 rfl)) (mvT hZ (own_w hw 63 rfl)) (notFace_of_selects (args := #[]) (mvT hZ (own_w hw 65 rfl))) (mvT hZ (own_w hw 65 rfl)) (mvT hZ (own_w hw 64 rfl)) (by decide) (backOf (W := 0) (rm15_u l Z a0 hw [] b69 bx75_x1 bx75_x2 bx75_L_x1 T75.heap n0 (Nat.le_trans Z0 K75.1) w75_1 w75_2 w75_3 (own_b3 pr75_0.1 (by decide) : own_Inb (3 : Int32) bx75_L_x1.length)) hZ (own_w hw 66 rfl) (own_w hw 12 rfl) (by decide) (by decide)) q85a q85c (g := (mkF m 158 #[.val (.long ua), .second, .val (.long ub), .second, .val (.long uc), .second, .val (.long ud), .second, .val (.long ue), .second, iv flg, .val (.long msk), .second, .val (.long va), .second, .val (.long vb), .second, .val (.long vc), .second, .val (.long vd), .second, .val (.long ve), .second, iv 2, rv bx47_rb, .val (.long (own_f2 va vb)), .second, rv b69] [(.ref b69)])) rfl (by rw [hml]; rfl) (Steps.refl _) (argsL := []) (rest := []) (lenOf pd_0_2 rfl) rfl (own_wl rfl) (hb hby at_158) (fun _ _ => ⟨rfl, rfl, (by decide : 4 + 0 ≤ _), (by decide : 21 + 0 ≤ _)⟩)
      dsimp only [Pt.U, Pt.locs, Pt.cells, Pt.slots] at X85 l85 y85 z85 st85 hQ85
      subst y85 z85
      obtain ⟨rfl, N85q, e85⟩ := hQ85
      have N85 : Fr n0 L85 := by rw [l85]; exact Fr.app N75 N85q
      refine own_step (fun t k => st85.trans k) ?_
      clear A69 D69 E69 K47 K69 K75q N49 N75 N75q N85q X49 X69 X75 c71 c72 c73 c74 e49 e69 g69 hk51 hk52 q85a q85b q85c st69 st75 st85 sx75_0 sx75_1 w47_0
      show own_G p.tables e below _ (T85.setTop (mkF m 161 #[.val (.long ua), .second, .val (.long ub), .second, .val (.long uc), .second, .val (.long ud), .second, .val (.long ue), .second, iv flg, .val (.long msk), .second, .val (.long va), .second, .val (.long vb), .second, .val (.long vc), .second, .val (.long vd), .second, .val (.long ve), .second, iv 2, rv bx47_rb, .val (.long (own_f2 va vb)), .second, rv b69] [(.long (bx75_L_x1.getD 3 0))]))
      refine own_lx X85.here hx rfl (hb hby at_161) rfl ?_
      refine own_step (fun t k => XS.lcmp X85.here hx rfl (hb hby at_163) rfl k) ?_
      have hk86 : (bx75_L_x1.getD 3 0) = (own_f2 va vb) := Int64.toInt_inj.mp (pr75_0.2.trans (by simp only [own_f2_int]))
      refine own_step (fun t k => XS.ifNo X85.here hx rfl (hb hby at_164) rfl ((if0 _ _).trans (teq ((lw_eq _ _).mpr hk86)).2) k) ?_
      show own_G p.tables e below _ (T85.setTop (mkF m 167 #[.val (.long ua), .second, .val (.long ub), .second, .val (.long uc), .second, .val (.long ud), .second, .val (.long ue), .second, iv flg, .val (.long msk), .second, .val (.long va), .second, .val (.long vb), .second, .val (.long vc), .second, .val (.long vd), .second, .val (.long ve), .second, iv 2, rv bx47_rb, .val (.long (own_f2 va vb)), .second, rv b69] []))
      refine own_ic X85.here hx rfl (hb hby at_167) ?_
      refine own_go X85.here hx rfl (pc0 := 168) (pc' := 172) rfl (hb hby at_168) (by decide) (by decide) ?_
      obtain ⟨fs, hr, hrun, hended, hW, hsame⟩ := X85.leave (v := some (.int (1 : Int32))) (fun h => by rw [Bd.returns] at h; cases h)
      refine own_done (retN X85 hx (t := .boolean) Bd.returns (by simp) (hb hby at_172) hr) hrun hended ⟨_, _, rfl, ?_, ⟨_, rfl⟩, hW, hsame.mono (by decide) (by decide)⟩
      show Q0 Z ua ub uc ud ue flg h0 n0 _ T85.heap _
      rw [e85]
      exact ⟨rfl, N85⟩
  · skip
    show own_G p.tables e below _ (s₁.setTop (mkF m 64 #[.val (.long ua), .second, .val (.long ub), .second, .val (.long uc), .second, .val (.long ud), .second, .val (.long ue), .second, iv flg, .val (.long msk), .second, .val (.long va), .second, .val (.long vb), .second, .val (.long vc), .second, .val (.long vd), .second, .val (.long ve), .second, iv 3, .unset, .unset, .unset, .unset] []))
    refine own_ix X0.here hx rfl (hb hby at_64) rfl ?_
    refine own_lx X0.here hx rfl (hb hby at_66) rfl ?_
    refine own_lx X0.here hx rfl (hb hby at_68) rfl ?_
    refine own_lx X0.here hx rfl (hb hby at_70) rfl ?_
    refine own_lx X0.here hx rfl (hb hby at_72) rfl ?_
    refine own_lx X0.here hx rfl (hb hby at_74) rfl ?_
    obtain ⟨_, _, ⟨T87, L87, k87, n87⟩, -, X87, ⟨Lc87, hQ87, l87, y87, z87⟩, st87⟩ := Jvm.LawKit.callS X0 hx (y := own_y1) hown (mvT hZ (own_w hw 1 rfl)) (mvT hZ (own_w hw 2 rfl)) (mvT hZ (own_w hw 3 rfl)) (mvT hZ (own_w hw 4 rfl)) (by decide) (backOf (W := 0) (rm1_n3 l Z a0 hw [] va vb vc vd ve h0 n0 (Nat.le_trans Z0 (Keep.refl h0 []).1) ) hZ (own_w hw 4 rfl) (own_w hw 3 rfl) (by decide) (by decide)) (g := (mkF m 76 #[.val (.long ua), .second, .val (.long ub), .second, .val (.long uc), .second, .val (.long ud), .second, .val (.long ue), .second, iv flg, .val (.long msk), .second, .val (.long va), .second, .val (.long vb), .second, .val (.long vc), .second, .val (.long vd), .second, .val (.long ve), .second, iv 3, .unset, .unset, .unset, .unset] [(.long ve), (.long vd), (.long vc), (.long vb), (.long va), (.int 3)])) rfl (by rw [hml]; rfl) (argsL := [(.int 3), (.long va), (.long vb), (.long vc), (.long vd), (.long ve)]) (rest := []) (lenOf pd_0_0 rfl) rfl (own_wl rfl) (hb hby at_76) (fun _ _ => ⟨rfl, e0, (by decide : 0 + 1 ≤ _), (by decide : 0 + 3 ≤ _)⟩)
    dsimp only [Pt.U, Pt.locs, Pt.cells, Pt.slots] at X87 l87 y87 z87 st87 hQ87
    subst y87 z87
    obtain ⟨bx87_rb, rfl, N87q, K87q, w87_0, sx87_0⟩ := hQ87
    have sz87_0 : h0.size ≤ bx87_rb := Nat.le_trans (Keep.refl h0 []).1 sx87_0
    have ge87_0 : n0 ≤ bx87_rb := Nat.le_trans Z0 sz87_0
    have K87 : Keep h0 T87.heap [] := (Keep.refl h0 []).trans K87q all0
    have N87 : Fr n0 L87 := by rw [l87]; exact Fr.app N0 N87q
    refine own_step st87 ?_
    show own_G p.tables e below _ (T87.setTop (mkF m 79 #[.val (.long ua), .second, .val (.long ub), .second, .val (.long uc), .second, .val (.long ud), .second, .val (.long ue), .second, iv flg, .val (.long msk), .second, .val (.long va), .second, .val (.long vb), .second, .val (.long vc), .second, .val (.long vd), .second, .val (.long ve), .second, iv 3, .unset, .unset, .unset, .unset] [(.ref bx87_rb)]))
    refine own_step (fun t k => XS.astore X87.here hx rfl (hb hby at_79) rfl rfl (l' := #[.val (.long ua), .second, .val (.long ub), .second, .val (.long uc), .second, .val (.long ud), .second, .val (.long ue), .second, iv flg, .val (.long msk), .second, .val (.long va), .second, .val (.long vb), .second, .val (.long vc), .second, .val (.long vd), .second, .val (.long ve), .second, iv 3, rv bx87_rb, .unset, .unset, .unset]) rfl k) ?_
    refine own_lx X87.here hx rfl (hb hby at_81) rfl ?_
    refine own_step (fun t k => XS.lstore X87.here hx rfl (hb hby at_83) rfl (l' := #[.val (.long ua), .second, .val (.long ub), .second, .val (.long uc), .second, .val (.long ud), .second, .val (.long ue), .second, iv flg, .val (.long msk), .second, .val (.long va), .second, .val (.long vb), .second, .val (.long vc), .second, .val (.long vd), .second, .val (.long ve), .second, iv 3, rv bx87_rb, .val (.long va), .second, .unset]) rfl k) ?_
    refine own_ix X87.here hx rfl (hb hby at_85) rfl ?_
    refine own_ic X87.here hx rfl (hb hby at_87) ?_
    have hk88 : (1 : Int32) < (3 : Int32) := (by decide)
    refine own_step (fun t k => XS.icmpNo X87.here hx rfl (hb hby at_88) rfl ((tlt hk88).2.2.2) k) ?_
    show own_G p.tables e below _ (T87.setTop (mkF m 91 #[.val (.long ua), .second, .val (.long ub), .second, .val (.long uc), .second, .val (.long ud), .second, .val (.long ue), .second, iv flg, .val (.long msk), .second, .val (.long va), .second, .val (.long vb), .second, .val (.long vc), .second, .val (.long vd), .second, .val (.long ve), .second, iv 3, rv bx87_rb, .val (.long va), .second, .unset] []))
    refine own_lx X87.here hx rfl (hb hby at_91) rfl ?_
    refine own_lx X87.here hx rfl (hb hby at_93) rfl ?_
    obtain ⟨_, _, ⟨T89, L89, k89, n89⟩, -, X89, ⟨Lc89, hQ89, l89, y89, z89⟩, st89⟩ := Jvm.LawKit.callS X87 hx (y := own_y2) hown (mvT hZ (own_w hw 6 rfl)) (mvT hZ (own_w hw 7 rfl)) (mvT hZ (own_w hw 8 rfl)) (mvT hZ (own_w hw 9 rfl)) (by decide) (backOf (W := 0) (rm2 l Z a0 hw [] va vb T87.heap n0 (Nat.le_trans Z0 K87.1) ) hZ (own_w hw 9 rfl) (own_w hw 8 rfl) (by decide) (by decide)) (g := (mkF m 95 #[.val (.long ua), .second, .val (.long ub), .second, .val (.long uc), .second, .val (.long ud), .second, .val (.long ue), .second, iv flg, .val (.long msk), .second, .val (.long va), .second, .val (.long vb), .second, .val (.long vc), .second, .val (.long vd), .second, .val (.long ve), .second, iv 3, rv bx87_rb, .val (.long va), .second, .unset] [(.long vb), (.long va)])) rfl (by rw [hml]; rfl) (argsL := [(.long va), (.long vb)]) (rest := []) (lenOf pd_0_3 rfl) rfl (own_wl rfl) (hb hby at_95) (fun _ _ => ⟨rfl, rfl, (by decide : 1 + 0 ≤ _), (by decide : 3 + 0 ≤ _)⟩)
    dsimp only [Pt.U, Pt.locs, Pt.cells, Pt.slots] at X89 l89 y89 z89 st89 hQ89
    subst y89 z89
    obtain ⟨rfl, N89q, e89⟩ := hQ89
    have N89 : Fr n0 L89 := by rw [l89]; exact Fr.app N87 N89q
    refine own_step st89 ?_
    refine own_step (fun t k => XS.lstore X89.here hx rfl (hb hby at_98) rfl (l' := #[.val (.long ua), .second, .val (.long ub), .second, .val (.long uc), .second, .val (.long ud), .second, .val (.long ue), .second, iv flg, .val (.long msk), .second, .val (.long va), .second, .val (.long vb), .second, .val (.long vc), .second, .val (.long vd), .second, .val (.long ve), .second, iv 3, rv bx87_rb, .val (.long (own_f2 va vb)), .second, .unset]) rfl k) ?_
    refine own_ix X89.here hx rfl (hb hby at_100) rfl ?_
    refine own_ic X89.here hx rfl (hb hby at_102) ?_
    have hk90 : (2 : Int32) < (3 : Int32) := (by decide)
    refine own_step (fun t k => XS.icmpNo X89.here hx rfl (hb hby at_103) rfl ((tlt hk90).2.2.2) k) ?_
    clear K87q N87 N87q N89q X87 hk88 hk90 st87 st89 sx87_0
    show own_G p.tables e below _ (T89.setTop (mkF m 106 #[.val (.long ua), .second, .val (.long ub), .second, .val (.long uc), .second, .val (.long ud), .second, .val (.long ue), .second, iv flg, .val (.long msk), .second, .val (.long va), .second, .val (.long vb), .second, .val (.long vc), .second, .val (.long vd), .second, .val (.long ve), .second, iv 3, rv bx87_rb, .val (.long (own_f2 va vb)), .second, .unset] []))
    refine own_lx X89.here hx rfl (hb hby at_106) rfl ?_
    refine own_lx X89.here hx rfl (hb hby at_108) rfl ?_
    obtain ⟨_, _, ⟨T91, L91, k91, n91⟩, -, X91, ⟨Lc91, hQ91, l91, y91, z91⟩, st91⟩ := Jvm.LawKit.callS X89 hx (y := own_y2) hown (mvT hZ (own_w hw 6 rfl)) (mvT hZ (own_w hw 7 rfl)) (mvT hZ (own_w hw 8 rfl)) (mvT hZ (own_w hw 9 rfl)) (by decide) (backOf (W := 0) (rm2 l Z a0 hw [] (own_f2 va vb) vc T87.heap n0 (Nat.le_trans Z0 K87.1) ) hZ (own_w hw 9 rfl) (own_w hw 8 rfl) (by decide) (by decide)) (g := (mkF m 110 #[.val (.long ua), .second, .val (.long ub), .second, .val (.long uc), .second, .val (.long ud), .second, .val (.long ue), .second, iv flg, .val (.long msk), .second, .val (.long va), .second, .val (.long vb), .second, .val (.long vc), .second, .val (.long vd), .second, .val (.long ve), .second, iv 3, rv bx87_rb, .val (.long (own_f2 va vb)), .second, .unset] [(.long vc), (.long (own_f2 va vb))])) rfl (by rw [hml]; rfl) (argsL := [(.long (own_f2 va vb)), (.long vc)]) (rest := []) (lenOf pd_0_3 rfl) rfl (own_wl rfl) (hb hby at_110) (fun _ _ => ⟨rfl, e89, (by decide : 1 + 0 ≤ _), (by decide : 3 + 0 ≤ _)⟩)
    dsimp only [Pt.U, Pt.locs, Pt.cells, Pt.slots] at X91 l91 y91 z91 st91 hQ91
    subst y91 z91
    obtain ⟨rfl, N91q, e91⟩ := hQ91
    have N91 : Fr n0 L91 := by rw [l91]; exact Fr.app N89 N91q
    refine own_step st91 ?_
    refine own_step (fun t k => XS.lstore X91.here hx rfl (hb hby at_113) rfl (l' := #[.val (.long ua), .second, .val (.long ub), .second, .val (.long uc), .second, .val (.long ud), .second, .val (.long ue), .second, iv flg, .val (.long msk), .second, .val (.long va), .second, .val (.long vb), .second, .val (.long vc), .second, .val (.long vd), .second, .val (.long ve), .second, iv 3, rv bx87_rb, .val (.long (own_f2 (own_f2 va vb) vc)), .second, .unset]) rfl k) ?_
    refine own_ix X91.here hx rfl (hb hby at_115) rfl ?_
    refine own_ic X91.here hx rfl (hb hby at_117) ?_
    have hk92 : ¬ ((3 : Int32) < (3 : Int32)) := (by decide)
    refine own_step (fun t k => XS.icmpYes X91.here hx rfl (pc0 := 118) (pc' := 130) rfl (hb hby at_118) rfl ((flt hk92).2.2.2) (by decide) (by decide) k) ?_
    show own_G p.tables e below _ (T91.setTop (mkF m 130 #[.val (.long ua), .second, .val (.long ub), .second, .val (.long uc), .second, .val (.long ud), .second, .val (.long ue), .second, iv flg, .val (.long msk), .second, .val (.long va), .second, .val (.long vb), .second, .val (.long vc), .second, .val (.long vd), .second, .val (.long ve), .second, iv 3, rv bx87_rb, .val (.long (own_f2 (own_f2 va vb) vc)), .second, .unset] []))
    refine own_ix X91.here hx rfl (hb hby at_130) rfl ?_
    refine own_ic X91.here hx rfl (hb hby at_132) ?_
    have hk93 : ¬ ((4 : Int32) < (3 : Int32)) := (by decide)
    refine own_step (fun t k => XS.icmpYes X91.here hx rfl (pc0 := 133) (pc' := 145) rfl (hb hby at_133) rfl ((flt hk93).2.2.2) (by decide) (by decide) k) ?_
    show own_G p.tables e below _ (T91.setTop (mkF m 145 #[.val (.long ua), .second, .val (.long ub), .second, .val (.long uc), .second, .val (.long ud), .second, .val (.long ue), .second, iv flg, .val (.long msk), .second, .val (.long va), .second, .val (.long vb), .second, .val (.long vc), .second, .val (.long vd), .second, .val (.long ve), .second, iv 3, rv bx87_rb, .val (.long (own_f2 (own_f2 va vb) vc)), .second, .unset] []))
    rcases own_f5z_n3 va vb vc with hpk | hpk
    · skip
      show own_G p.tables e below _ (T91.setTop (mkF m 145 #[.val (.long ua), .second, .val (.long ub), .second, .val (.long uc), .second, .val (.long ud), .second, .val (.long ue), .second, iv flg, .val (.long msk), .second, .val (.long va), .second, .val (.long vb), .second, .val (.long vc), .second, .val (.long vd), .second, .val (.long ve), .second, iv 3, rv bx87_rb, .val (.long (own_f2 (own_f2 va vb) vc)), .second, .unset] []))
      obtain ⟨T94, h94, X94, e94, E94, A94, D94, -, st94⟩ := newO X91 hx hZ hown (own_w hw 10 rfl) (own_w hw 11 rfl) (own_w hw 12 rfl) e91 (g := (mkF m 145 #[.val (.long ua), .second, .val (.long ub), .second, .val (.long uc), .second, .val (.long ud), .second, .val (.long ue), .second, iv flg, .val (.long msk), .second, .val (.long va), .second, .val (.long vb), .second, .val (.long vc), .second, .val (.long vd), .second, .val (.long ve), .second, iv 3, rv bx87_rb, .val (.long (own_f2 (own_f2 va vb) vc)), .second, .unset] [])) rfl (hb hby at_145) (by decide) (by decide)
      obtain ⟨b94, g94⟩ : ∃ z, z = T87.heap.size := ⟨_, rfl⟩
      have ne95 : bx87_rb ≠ b94 := Nat.ne_of_lt (Nat.lt_of_lt_of_le w87_0.lt (Nat.le_of_eq g94.symm))
      have sz94 : h0.size ≤ b94 := Nat.le_trans K87.1 (Nat.le_of_eq g94.symm)
      have ge94 : n0 ≤ b94 := Nat.le_trans Z0 sz94
      have c96 : own_Arj Z h94 bx87_rb [va, vb, vc] := w87_0.ext E94
      have K94 : Keep h0 h94 [] := K87.ext E94
      rw [← g94] at A94 D94 st94
      have c97 : Fld Z h94 b94 own_C "end" "I" (.int 0) := D94 (Or.inl (own_w hw 20 rfl)) (ty := .int) (by decide)
      have c98 : Fld Z h94 b94 own_C "keys" "[J" .null := D94 (Or.inl (own_w hw 22 rfl)) (ty := (.array .long)) (by decide)
      have c99 : Fld Z h94 b94 own_C "nodes" "[I" .null := D94 (Or.inl (own_w hw 46 rfl)) (ty := (.array .int)) (by decide)
      refine own_step st94 ?_
      refine own_step (fun t k => XS.dup X94.here hx rfl (hb hby at_148) rfl rfl k) ?_
      refine own_step (fun t k => XS.aload X94.here hx rfl (hb hby at_149) rfl rfl k) ?_
      obtain ⟨_, _, ⟨T100, L100, k100, n100⟩, -, X100, ⟨Lc100, hQ100, l100, y100, z100⟩, st100⟩ := X94.specialBack hx (y := own_y3) rfl hown (mvT hZ (own_w hw 13 rfl)) (mvT hZ (own_w hw 14 rfl)) (mvT hZ (own_w hw 15 rfl)) (by decide) (backOf (W := 1) (rm3_p3 l Z a0 hw [] b94 bx87_rb va vb vc h94 n0 (Nat.le_trans Z0 K94.1) A94 c97 c98 c99 c96 (hpk : own_f5_n3 va vb vc = 1) (own_nn hd_va hd_msk : 0 ≤ va.toInt) (own_nn hd_vb hd_msk : 0 ≤ vb.toInt) (own_nn hd_vc hd_msk : 0 ≤ vc.toInt) ge94 ne95) hZ (own_w hw 15 rfl) (own_w hw 12 rfl) (by decide) (by decide)) (g := (mkF m 151 #[.val (.long ua), .second, .val (.long ub), .second, .val (.long uc), .second, .val (.long ud), .second, .val (.long ue), .second, iv flg, .val (.long msk), .second, .val (.long va), .second, .val (.long vb), .second, .val (.long vc), .second, .val (.long vd), .second, .val (.long ve), .second, iv 3, rv bx87_rb, .val (.long (own_f2 (own_f2 va vb) vc)), .second, .unset] [(.ref bx87_rb), (.ref b94), (.ref b94)])) rfl (by rw [hml]; rfl) (Steps.refl _) (a := b94) (argsL := [(.ref bx87_rb)]) (rest := [(.ref b94)]) (lenOf pd_0_1 rfl) rfl (own_wl rfl) (hb hby at_151) (fun _ _ => ⟨rfl, e94, (by decide : 2 + 1 ≤ _), (by decide : 6 + 9 ≤ _)⟩)
      dsimp only [Pt.U, Pt.locs, Pt.cells, Pt.slots] at X100 l100 y100 z100 st100 hQ100
      subst y100 z100
      obtain ⟨bx100_x1, bx100_L_x1, rfl, N100q, K100q, w100_0, w100_1, w100_2, w100_3, sx100_0, pr100_0⟩ := hQ100
      have c101 : own_Arj Z T100.heap bx87_rb [va, vb, vc] := c96.keep K100q (ninS ne95 nin0)
      have c102 : Exa Z T100.heap b94 own_C := A94.keep K100q
      have sz100_0 : h0.size ≤ bx100_x1 := Nat.le_trans K94.1 sx100_0
      have ge100_0 : n0 ≤ bx100_x1 := Nat.le_trans Z0 sz100_0
      have ne106 : bx87_rb ≠ bx100_x1 := Nat.ne_of_lt (Nat.lt_of_lt_of_le c96.lt sx100_0)
      have ne107 : b94 ≠ bx100_x1 := Nat.ne_of_lt (Nat.lt_of_lt_of_le A94.lt sx100_0)
      have K100 : Keep h0 T100.heap [] := K94.trans K100q (allS (Or.inr sz94) all0)
      have N100 : Fr n0 L100 := by rw [l100]; exact Fr.app N91 N100q
      refine own_step (fun t k => st100.trans k) ?_
      refine own_step (fun t k => XS.astore X100.here hx rfl (hb hby at_154) rfl rfl (l' := #[.val (.long ua), .second, .val (.long ub), .second, .val (.long uc), .second, .val (.long ud), .second, .val (.long ue), .second, iv flg, .val (.long msk), .second, .val (.long va), .second, .val (.long vb), .second, .val (.long vc), .second, .val (.long vd), .second, .val (.long ve), .second, iv 3, rv bx87_rb, .val (.long (own_f2 (own_f2 va vb) vc)), .second, rv b94]) rfl k) ?_
      refine own_step (fun t k => XS.aload X100.here hx rfl (hb hby at_156) rfl rfl k) ?_
      obtain ⟨cq108, kq108, q108a, q108b, q108c⟩ := isOf hZ rfl c102
      obtain ⟨_, _, ⟨T108, L108, k108, n108⟩, -, X108, ⟨Lc108, hQ108, l108, y108, z108⟩, st108⟩ := X100.virtualBack hx (y := own_y15) (z := own_y15) hown (mvT hZ (own_w hw 62 rfl)) (mvT hZ (own_w hw 63 rfl)) (notFace_of_selects (args := #[]) (mvT hZ (own_w hw 65 rfl))) (mvT hZ (own_w hw 65 rfl)) (mvT hZ (own_w hw 64 rfl)) (by decide) (backOf (W := 0) (rm15_p l Z a0 hw [] b94 bx100_x1 bx100_L_x1 T100.heap n0 (Nat.le_trans Z0 K100.1) w100_1 w100_2 w100_3 (own_b3 pr100_0.1 (by decide) : own_Inb (3 : Int32) bx100_L_x1.length)) hZ (own_w hw 66 rfl) (own_w hw 12 rfl) (by decide) (by decide)) q108a q108c (g := (mkF m 158 #[.val (.long ua), .second, .val (.long ub), .second, .val (.long uc), .second, .val (.long ud), .second, .val (.long ue), .second, iv flg, .val (.long msk), .second, .val (.long va), .second, .val (.long vb), .second, .val (.long vc), .second, .val (.long vd), .second, .val (.long ve), .second, iv 3, rv bx87_rb, .val (.long (own_f2 (own_f2 va vb) vc)), .second, rv b94] [(.ref b94)])) rfl (by rw [hml]; rfl) (Steps.refl _) (argsL := []) (rest := []) (lenOf pd_0_2 rfl) rfl (own_wl rfl) (hb hby at_158) (fun _ _ => ⟨rfl, rfl, (by decide : 3 + 0 ≤ _), (by decide : 15 + 0 ≤ _)⟩)
      dsimp only [Pt.U, Pt.locs, Pt.cells, Pt.slots] at X108 l108 y108 z108 st108 hQ108
      subst y108 z108
      obtain ⟨rfl, N108q, e108⟩ := hQ108
      have N108 : Fr n0 L108 := by rw [l108]; exact Fr.app N100 N108q
      refine own_step (fun t k => st108.trans k) ?_
      clear A94 D94 E94 K100q K87 K94 N100 N100q N108q N89 N91 N91q X100 X89 X91 X94 c96 c97 c98 c99 e89 e91 e94 g94 hk92 hk93 q108a q108b q108c st100 st108 st91 st94 sx100_0 w87_0
      show own_G p.tables e below _ (T108.setTop (mkF m 161 #[.val (.long ua), .second, .val (.long ub), .second, .val (.long uc), .second, .val (.long ud), .second, .val (.long ue), .second, iv flg, .val (.long msk), .second, .val (.long va), .second, .val (.long vb), .second, .val (.long vc), .second, .val (.long vd), .second, .val (.long ve), .second, iv 3, rv bx87_rb, .val (.long (own_f2 (own_f2 va vb) vc)), .second, rv b94] [(.long (own_ush (bx100_L_x1.getD 3 0)))]))
      refine own_lx X108.here hx rfl (hb hby at_161) rfl ?_
      refine own_step (fun t k => XS.lcmp X108.here hx rfl (hb hby at_163) rfl k) ?_
      have hk109 : (own_ush (bx100_L_x1.getD 3 0)) = (own_f2 (own_f2 va vb) vc) := Int64.toInt_inj.mp (pr100_0.2.trans (by simp only [own_f2_int]))
      refine own_step (fun t k => XS.ifNo X108.here hx rfl (hb hby at_164) rfl ((if0 _ _).trans (teq ((lw_eq _ _).mpr hk109)).2) k) ?_
      show own_G p.tables e below _ (T108.setTop (mkF m 167 #[.val (.long ua), .second, .val (.long ub), .second, .val (.long uc), .second, .val (.long ud), .second, .val (.long ue), .second, iv flg, .val (.long msk), .second, .val (.long va), .second, .val (.long vb), .second, .val (.long vc), .second, .val (.long vd), .second, .val (.long ve), .second, iv 3, rv bx87_rb, .val (.long (own_f2 (own_f2 va vb) vc)), .second, rv b94] []))
      refine own_ic X108.here hx rfl (hb hby at_167) ?_
      refine own_go X108.here hx rfl (pc0 := 168) (pc' := 172) rfl (hb hby at_168) (by decide) (by decide) ?_
      obtain ⟨fs, hr, hrun, hended, hW, hsame⟩ := X108.leave (v := some (.int (1 : Int32))) (fun h => by rw [Bd.returns] at h; cases h)
      refine own_done (retN X108 hx (t := .boolean) Bd.returns (by simp) (hb hby at_172) hr) hrun hended ⟨_, _, rfl, ?_, ⟨_, rfl⟩, hW, hsame.mono (by decide) (by decide)⟩
      show Q0 Z ua ub uc ud ue flg h0 n0 _ T108.heap _
      rw [e108]
      exact ⟨rfl, N108⟩
    · skip
      show own_G p.tables e below _ (T91.setTop (mkF m 145 #[.val (.long ua), .second, .val (.long ub), .second, .val (.long uc), .second, .val (.long ud), .second, .val (.long ue), .second, iv flg, .val (.long msk), .second, .val (.long va), .second, .val (.long vb), .second, .val (.long vc), .second, .val (.long vd), .second, .val (.long ve), .second, iv 3, rv bx87_rb, .val (.long (own_f2 (own_f2 va vb) vc)), .second, .unset] []))
      obtain ⟨T110, h110, X110, e110, E110, A110, D110, -, st110⟩ := newO X91 hx hZ hown (own_w hw 10 rfl) (own_w hw 11 rfl) (own_w hw 12 rfl) e91 (g := (mkF m 145 #[.val (.long ua), .second, .val (.long ub), .second, .val (.long uc), .second, .val (.long ud), .second, .val (.long ue), .second, iv flg, .val (.long msk), .second, .val (.long va), .second, .val (.long vb), .second, .val (.long vc), .second, .val (.long vd), .second, .val (.long ve), .second, iv 3, rv bx87_rb, .val (.long (own_f2 (own_f2 va vb) vc)), .second, .unset] [])) rfl (hb hby at_145) (by decide) (by decide)
      obtain ⟨b110, g110⟩ : ∃ z, z = T87.heap.size := ⟨_, rfl⟩
      have ne111 : bx87_rb ≠ b110 := Nat.ne_of_lt (Nat.lt_of_lt_of_le w87_0.lt (Nat.le_of_eq g110.symm))
      have sz110 : h0.size ≤ b110 := Nat.le_trans K87.1 (Nat.le_of_eq g110.symm)
      have ge110 : n0 ≤ b110 := Nat.le_trans Z0 sz110
      have c112 : own_Arj Z h110 bx87_rb [va, vb, vc] := w87_0.ext E110
      have K110 : Keep h0 h110 [] := K87.ext E110
      rw [← g110] at A110 D110 st110
      have c113 : Fld Z h110 b110 own_C "end" "I" (.int 0) := D110 (Or.inl (own_w hw 20 rfl)) (ty := .int) (by decide)
      have c114 : Fld Z h110 b110 own_C "keys" "[J" .null := D110 (Or.inl (own_w hw 22 rfl)) (ty := (.array .long)) (by decide)
      have c115 : Fld Z h110 b110 own_C "nodes" "[I" .null := D110 (Or.inl (own_w hw 46 rfl)) (ty := (.array .int)) (by decide)
      refine own_step st110 ?_
      refine own_step (fun t k => XS.dup X110.here hx rfl (hb hby at_148) rfl rfl k) ?_
      refine own_step (fun t k => XS.aload X110.here hx rfl (hb hby at_149) rfl rfl k) ?_
      obtain ⟨_, _, ⟨T116, L116, k116, n116⟩, -, X116, ⟨Lc116, hQ116, l116, y116, z116⟩, st116⟩ := X110.specialBack hx (y := own_y3) rfl hown (mvT hZ (own_w hw 13 rfl)) (mvT hZ (own_w hw 14 rfl)) (mvT hZ (own_w hw 15 rfl)) (by decide) (backOf (W := 1) (rm3_u3 l Z a0 hw [] b110 bx87_rb va vb vc h110 n0 (Nat.le_trans Z0 K110.1) A110 c113 c114 c115 c112 (hpk : own_f5_n3 va vb vc = 0) ge110 ne111) hZ (own_w hw 15 rfl) (own_w hw 12 rfl) (by decide) (by decide)) (g := (mkF m 151 #[.val (.long ua), .second, .val (.long ub), .second, .val (.long uc), .second, .val (.long ud), .second, .val (.long ue), .second, iv flg, .val (.long msk), .second, .val (.long va), .second, .val (.long vb), .second, .val (.long vc), .second, .val (.long vd), .second, .val (.long ve), .second, iv 3, rv bx87_rb, .val (.long (own_f2 (own_f2 va vb) vc)), .second, .unset] [(.ref bx87_rb), (.ref b110), (.ref b110)])) rfl (by rw [hml]; rfl) (Steps.refl _) (a := b110) (argsL := [(.ref bx87_rb)]) (rest := [(.ref b110)]) (lenOf pd_0_1 rfl) rfl (own_wl rfl) (hb hby at_151) (fun _ _ => ⟨rfl, e110, (by decide : 2 + 2 ≤ _), (by decide : 6 + 18 ≤ _)⟩)
      dsimp only [Pt.U, Pt.locs, Pt.cells, Pt.slots] at X116 l116 y116 z116 st116 hQ116
      subst y116 z116
      obtain ⟨bx116_x1, bx116_x2, bx116_L_x1, bx116_L_x2, rfl, N116q, K116q, w116_0, w116_1, w116_2, w116_3, w116_4, sx116_0, sx116_1, xn116_0, pr116_0, pr116_1⟩ := hQ116
      have c117 : own_Arj Z T116.heap bx87_rb [va, vb, vc] := c112.keep K116q (ninS ne111 nin0)
      have c118 : Exa Z T116.heap b110 own_C := A110.keep K116q
      have sz116_0 : h0.size ≤ bx116_x1 := Nat.le_trans K110.1 sx116_0
      have ge116_0 : n0 ≤ bx116_x1 := Nat.le_trans Z0 sz116_0
      have ne122 : bx87_rb ≠ bx116_x1 := Nat.ne_of_lt (Nat.lt_of_lt_of_le c112.lt sx116_0)
      have ne123 : b110 ≠ bx116_x1 := Nat.ne_of_lt (Nat.lt_of_lt_of_le A110.lt sx116_0)
      have sz116_1 : h0.size ≤ bx116_x2 := Nat.le_trans K110.1 sx116_1
      have ge116_1 : n0 ≤ bx116_x2 := Nat.le_trans Z0 sz116_1
      have ne124 : bx87_rb ≠ bx116_x2 := Nat.ne_of_lt (Nat.lt_of_lt_of_le c112.lt sx116_1)
      have ne125 : b110 ≠ bx116_x2 := Nat.ne_of_lt (Nat.lt_of_lt_of_le A110.lt sx116_1)
      have K116 : Keep h0 T116.heap [] := K110.trans K116q (allS (Or.inr sz110) all0)
      have N116 : Fr n0 L116 := by rw [l116]; exact Fr.app N91 N116q
      refine own_step (fun t k => st116.trans k) ?_
      refine own_step (fun t k => XS.astore X116.here hx rfl (hb hby at_154) rfl rfl (l' := #[.val (.long ua), .second, .val (.long ub), .second, .val (.long uc), .second, .val (.long ud), .second, .val (.long ue), .second, iv flg, .val (.long msk), .second, .val (.long va), .second, .val (.long vb), .second, .val (.long vc), .second, .val (.long vd), .second, .val (.long ve), .second, iv 3, rv bx87_rb, .val (.long (own_f2 (own_f2 va vb) vc)), .second, rv b110]) rfl k) ?_
      refine own_step (fun t k => XS.aload X116.here hx rfl (hb hby at_156) rfl rfl k) ?_
      obtain ⟨cq126, kq126, q126a, q126b, q126c⟩ := isOf hZ rfl c118
      obtain ⟨_, _, ⟨T126, L126, k126, n126⟩, -, X126, ⟨Lc126, hQ126, l126, y126, z126⟩, st126⟩ := X116.virtualBack hx (y := own_y15) (z := own_y15) hown (mvT hZ (own_w hw 62 rfl)) (mvT hZ (own_w hw 63 rfl)) (notFace_of_selects (args := #[]) (mvT hZ (own_w hw 65 rfl))) (mvT hZ (own_w hw 65 rfl)) (mvT hZ (own_w hw 64 rfl)) (by decide) (backOf (W := 0) (rm15_u l Z a0 hw [] b110 bx116_x1 bx116_x2 bx116_L_x1 T116.heap n0 (Nat.le_trans Z0 K116.1) w116_1 w116_2 w116_3 (own_b3 pr116_0.1 (by decide) : own_Inb (3 : Int32) bx116_L_x1.length)) hZ (own_w hw 66 rfl) (own_w hw 12 rfl) (by decide) (by decide)) q126a q126c (g := (mkF m 158 #[.val (.long ua), .second, .val (.long ub), .second, .val (.long uc), .second, .val (.long ud), .second, .val (.long ue), .second, iv flg, .val (.long msk), .second, .val (.long va), .second, .val (.long vb), .second, .val (.long vc), .second, .val (.long vd), .second, .val (.long ve), .second, iv 3, rv bx87_rb, .val (.long (own_f2 (own_f2 va vb) vc)), .second, rv b110] [(.ref b110)])) rfl (by rw [hml]; rfl) (Steps.refl _) (argsL := []) (rest := []) (lenOf pd_0_2 rfl) rfl (own_wl rfl) (hb hby at_158) (fun _ _ => ⟨rfl, rfl, (by decide : 4 + 0 ≤ _), (by decide : 24 + 0 ≤ _)⟩)
      dsimp only [Pt.U, Pt.locs, Pt.cells, Pt.slots] at X126 l126 y126 z126 st126 hQ126
      subst y126 z126
      obtain ⟨rfl, N126q, e126⟩ := hQ126
      have N126 : Fr n0 L126 := by rw [l126]; exact Fr.app N116 N126q
      refine own_step (fun t k => st126.trans k) ?_
      clear A110 D110 E110 K110 K116q K87 N116 N116q N126q N89 N91 N91q X110 X116 X89 X91 c112 c113 c114 c115 e110 e89 e91 g110 hk92 hk93 q126a q126b q126c st110 st116 st126 st91 sx116_0 sx116_1 w87_0
      show own_G p.tables e below _ (T126.setTop (mkF m 161 #[.val (.long ua), .second, .val (.long ub), .second, .val (.long uc), .second, .val (.long ud), .second, .val (.long ue), .second, iv flg, .val (.long msk), .second, .val (.long va), .second, .val (.long vb), .second, .val (.long vc), .second, .val (.long vd), .second, .val (.long ve), .second, iv 3, rv bx87_rb, .val (.long (own_f2 (own_f2 va vb) vc)), .second, rv b110] [(.long (bx116_L_x1.getD 3 0))]))
      refine own_lx X126.here hx rfl (hb hby at_161) rfl ?_
      refine own_step (fun t k => XS.lcmp X126.here hx rfl (hb hby at_163) rfl k) ?_
      have hk127 : (bx116_L_x1.getD 3 0) = (own_f2 (own_f2 va vb) vc) := Int64.toInt_inj.mp (pr116_0.2.trans (by simp only [own_f2_int]))
      refine own_step (fun t k => XS.ifNo X126.here hx rfl (hb hby at_164) rfl ((if0 _ _).trans (teq ((lw_eq _ _).mpr hk127)).2) k) ?_
      show own_G p.tables e below _ (T126.setTop (mkF m 167 #[.val (.long ua), .second, .val (.long ub), .second, .val (.long uc), .second, .val (.long ud), .second, .val (.long ue), .second, iv flg, .val (.long msk), .second, .val (.long va), .second, .val (.long vb), .second, .val (.long vc), .second, .val (.long vd), .second, .val (.long ve), .second, iv 3, rv bx87_rb, .val (.long (own_f2 (own_f2 va vb) vc)), .second, rv b110] []))
      refine own_ic X126.here hx rfl (hb hby at_167) ?_
      refine own_go X126.here hx rfl (pc0 := 168) (pc' := 172) rfl (hb hby at_168) (by decide) (by decide) ?_
      obtain ⟨fs, hr, hrun, hended, hW, hsame⟩ := X126.leave (v := some (.int (1 : Int32))) (fun h => by rw [Bd.returns] at h; cases h)
      refine own_done (retN X126 hx (t := .boolean) Bd.returns (by simp) (hb hby at_172) hr) hrun hended ⟨_, _, rfl, ?_, ⟨_, rfl⟩, hW, hsame.mono (by decide) (by decide)⟩
      show Q0 Z ua ub uc ud ue flg h0 n0 _ T126.heap _
      rw [e126]
      exact ⟨rfl, N126⟩
  · skip
    show own_G p.tables e below _ (s₁.setTop (mkF m 64 #[.val (.long ua), .second, .val (.long ub), .second, .val (.long uc), .second, .val (.long ud), .second, .val (.long ue), .second, iv flg, .val (.long msk), .second, .val (.long va), .second, .val (.long vb), .second, .val (.long vc), .second, .val (.long vd), .second, .val (.long ve), .second, iv 4, .unset, .unset, .unset, .unset] []))
    refine own_ix X0.here hx rfl (hb hby at_64) rfl ?_
    refine own_lx X0.here hx rfl (hb hby at_66) rfl ?_
    refine own_lx X0.here hx rfl (hb hby at_68) rfl ?_
    refine own_lx X0.here hx rfl (hb hby at_70) rfl ?_
    refine own_lx X0.here hx rfl (hb hby at_72) rfl ?_
    refine own_lx X0.here hx rfl (hb hby at_74) rfl ?_
    obtain ⟨_, _, ⟨T128, L128, k128, n128⟩, -, X128, ⟨Lc128, hQ128, l128, y128, z128⟩, st128⟩ := Jvm.LawKit.callS X0 hx (y := own_y1) hown (mvT hZ (own_w hw 1 rfl)) (mvT hZ (own_w hw 2 rfl)) (mvT hZ (own_w hw 3 rfl)) (mvT hZ (own_w hw 4 rfl)) (by decide) (backOf (W := 0) (rm1_n4 l Z a0 hw [] va vb vc vd ve h0 n0 (Nat.le_trans Z0 (Keep.refl h0 []).1) ) hZ (own_w hw 4 rfl) (own_w hw 3 rfl) (by decide) (by decide)) (g := (mkF m 76 #[.val (.long ua), .second, .val (.long ub), .second, .val (.long uc), .second, .val (.long ud), .second, .val (.long ue), .second, iv flg, .val (.long msk), .second, .val (.long va), .second, .val (.long vb), .second, .val (.long vc), .second, .val (.long vd), .second, .val (.long ve), .second, iv 4, .unset, .unset, .unset, .unset] [(.long ve), (.long vd), (.long vc), (.long vb), (.long va), (.int 4)])) rfl (by rw [hml]; rfl) (argsL := [(.int 4), (.long va), (.long vb), (.long vc), (.long vd), (.long ve)]) (rest := []) (lenOf pd_0_0 rfl) rfl (own_wl rfl) (hb hby at_76) (fun _ _ => ⟨rfl, e0, (by decide : 0 + 1 ≤ _), (by decide : 0 + 4 ≤ _)⟩)
    dsimp only [Pt.U, Pt.locs, Pt.cells, Pt.slots] at X128 l128 y128 z128 st128 hQ128
    subst y128 z128
    obtain ⟨bx128_rb, rfl, N128q, K128q, w128_0, sx128_0⟩ := hQ128
    have sz128_0 : h0.size ≤ bx128_rb := Nat.le_trans (Keep.refl h0 []).1 sx128_0
    have ge128_0 : n0 ≤ bx128_rb := Nat.le_trans Z0 sz128_0
    have K128 : Keep h0 T128.heap [] := (Keep.refl h0 []).trans K128q all0
    have N128 : Fr n0 L128 := by rw [l128]; exact Fr.app N0 N128q
    refine own_step st128 ?_
    show own_G p.tables e below _ (T128.setTop (mkF m 79 #[.val (.long ua), .second, .val (.long ub), .second, .val (.long uc), .second, .val (.long ud), .second, .val (.long ue), .second, iv flg, .val (.long msk), .second, .val (.long va), .second, .val (.long vb), .second, .val (.long vc), .second, .val (.long vd), .second, .val (.long ve), .second, iv 4, .unset, .unset, .unset, .unset] [(.ref bx128_rb)]))
    refine own_step (fun t k => XS.astore X128.here hx rfl (hb hby at_79) rfl rfl (l' := #[.val (.long ua), .second, .val (.long ub), .second, .val (.long uc), .second, .val (.long ud), .second, .val (.long ue), .second, iv flg, .val (.long msk), .second, .val (.long va), .second, .val (.long vb), .second, .val (.long vc), .second, .val (.long vd), .second, .val (.long ve), .second, iv 4, rv bx128_rb, .unset, .unset, .unset]) rfl k) ?_
    refine own_lx X128.here hx rfl (hb hby at_81) rfl ?_
    refine own_step (fun t k => XS.lstore X128.here hx rfl (hb hby at_83) rfl (l' := #[.val (.long ua), .second, .val (.long ub), .second, .val (.long uc), .second, .val (.long ud), .second, .val (.long ue), .second, iv flg, .val (.long msk), .second, .val (.long va), .second, .val (.long vb), .second, .val (.long vc), .second, .val (.long vd), .second, .val (.long ve), .second, iv 4, rv bx128_rb, .val (.long va), .second, .unset]) rfl k) ?_
    refine own_ix X128.here hx rfl (hb hby at_85) rfl ?_
    refine own_ic X128.here hx rfl (hb hby at_87) ?_
    have hk129 : (1 : Int32) < (4 : Int32) := (by decide)
    refine own_step (fun t k => XS.icmpNo X128.here hx rfl (hb hby at_88) rfl ((tlt hk129).2.2.2) k) ?_
    show own_G p.tables e below _ (T128.setTop (mkF m 91 #[.val (.long ua), .second, .val (.long ub), .second, .val (.long uc), .second, .val (.long ud), .second, .val (.long ue), .second, iv flg, .val (.long msk), .second, .val (.long va), .second, .val (.long vb), .second, .val (.long vc), .second, .val (.long vd), .second, .val (.long ve), .second, iv 4, rv bx128_rb, .val (.long va), .second, .unset] []))
    refine own_lx X128.here hx rfl (hb hby at_91) rfl ?_
    refine own_lx X128.here hx rfl (hb hby at_93) rfl ?_
    obtain ⟨_, _, ⟨T130, L130, k130, n130⟩, -, X130, ⟨Lc130, hQ130, l130, y130, z130⟩, st130⟩ := Jvm.LawKit.callS X128 hx (y := own_y2) hown (mvT hZ (own_w hw 6 rfl)) (mvT hZ (own_w hw 7 rfl)) (mvT hZ (own_w hw 8 rfl)) (mvT hZ (own_w hw 9 rfl)) (by decide) (backOf (W := 0) (rm2 l Z a0 hw [] va vb T128.heap n0 (Nat.le_trans Z0 K128.1) ) hZ (own_w hw 9 rfl) (own_w hw 8 rfl) (by decide) (by decide)) (g := (mkF m 95 #[.val (.long ua), .second, .val (.long ub), .second, .val (.long uc), .second, .val (.long ud), .second, .val (.long ue), .second, iv flg, .val (.long msk), .second, .val (.long va), .second, .val (.long vb), .second, .val (.long vc), .second, .val (.long vd), .second, .val (.long ve), .second, iv 4, rv bx128_rb, .val (.long va), .second, .unset] [(.long vb), (.long va)])) rfl (by rw [hml]; rfl) (argsL := [(.long va), (.long vb)]) (rest := []) (lenOf pd_0_3 rfl) rfl (own_wl rfl) (hb hby at_95) (fun _ _ => ⟨rfl, rfl, (by decide : 1 + 0 ≤ _), (by decide : 4 + 0 ≤ _)⟩)
    dsimp only [Pt.U, Pt.locs, Pt.cells, Pt.slots] at X130 l130 y130 z130 st130 hQ130
    subst y130 z130
    obtain ⟨rfl, N130q, e130⟩ := hQ130
    have N130 : Fr n0 L130 := by rw [l130]; exact Fr.app N128 N130q
    refine own_step st130 ?_
    refine own_step (fun t k => XS.lstore X130.here hx rfl (hb hby at_98) rfl (l' := #[.val (.long ua), .second, .val (.long ub), .second, .val (.long uc), .second, .val (.long ud), .second, .val (.long ue), .second, iv flg, .val (.long msk), .second, .val (.long va), .second, .val (.long vb), .second, .val (.long vc), .second, .val (.long vd), .second, .val (.long ve), .second, iv 4, rv bx128_rb, .val (.long (own_f2 va vb)), .second, .unset]) rfl k) ?_
    refine own_ix X130.here hx rfl (hb hby at_100) rfl ?_
    refine own_ic X130.here hx rfl (hb hby at_102) ?_
    have hk131 : (2 : Int32) < (4 : Int32) := (by decide)
    refine own_step (fun t k => XS.icmpNo X130.here hx rfl (hb hby at_103) rfl ((tlt hk131).2.2.2) k) ?_
    clear K128q N128 N128q N130q X128 hk129 hk131 st128 st130 sx128_0
    show own_G p.tables e below _ (T130.setTop (mkF m 106 #[.val (.long ua), .second, .val (.long ub), .second, .val (.long uc), .second, .val (.long ud), .second, .val (.long ue), .second, iv flg, .val (.long msk), .second, .val (.long va), .second, .val (.long vb), .second, .val (.long vc), .second, .val (.long vd), .second, .val (.long ve), .second, iv 4, rv bx128_rb, .val (.long (own_f2 va vb)), .second, .unset] []))
    refine own_lx X130.here hx rfl (hb hby at_106) rfl ?_
    refine own_lx X130.here hx rfl (hb hby at_108) rfl ?_
    obtain ⟨_, _, ⟨T132, L132, k132, n132⟩, -, X132, ⟨Lc132, hQ132, l132, y132, z132⟩, st132⟩ := Jvm.LawKit.callS X130 hx (y := own_y2) hown (mvT hZ (own_w hw 6 rfl)) (mvT hZ (own_w hw 7 rfl)) (mvT hZ (own_w hw 8 rfl)) (mvT hZ (own_w hw 9 rfl)) (by decide) (backOf (W := 0) (rm2 l Z a0 hw [] (own_f2 va vb) vc T128.heap n0 (Nat.le_trans Z0 K128.1) ) hZ (own_w hw 9 rfl) (own_w hw 8 rfl) (by decide) (by decide)) (g := (mkF m 110 #[.val (.long ua), .second, .val (.long ub), .second, .val (.long uc), .second, .val (.long ud), .second, .val (.long ue), .second, iv flg, .val (.long msk), .second, .val (.long va), .second, .val (.long vb), .second, .val (.long vc), .second, .val (.long vd), .second, .val (.long ve), .second, iv 4, rv bx128_rb, .val (.long (own_f2 va vb)), .second, .unset] [(.long vc), (.long (own_f2 va vb))])) rfl (by rw [hml]; rfl) (argsL := [(.long (own_f2 va vb)), (.long vc)]) (rest := []) (lenOf pd_0_3 rfl) rfl (own_wl rfl) (hb hby at_110) (fun _ _ => ⟨rfl, e130, (by decide : 1 + 0 ≤ _), (by decide : 4 + 0 ≤ _)⟩)
    dsimp only [Pt.U, Pt.locs, Pt.cells, Pt.slots] at X132 l132 y132 z132 st132 hQ132
    subst y132 z132
    obtain ⟨rfl, N132q, e132⟩ := hQ132
    have N132 : Fr n0 L132 := by rw [l132]; exact Fr.app N130 N132q
    refine own_step st132 ?_
    refine own_step (fun t k => XS.lstore X132.here hx rfl (hb hby at_113) rfl (l' := #[.val (.long ua), .second, .val (.long ub), .second, .val (.long uc), .second, .val (.long ud), .second, .val (.long ue), .second, iv flg, .val (.long msk), .second, .val (.long va), .second, .val (.long vb), .second, .val (.long vc), .second, .val (.long vd), .second, .val (.long ve), .second, iv 4, rv bx128_rb, .val (.long (own_f2 (own_f2 va vb) vc)), .second, .unset]) rfl k) ?_
    refine own_ix X132.here hx rfl (hb hby at_115) rfl ?_
    refine own_ic X132.here hx rfl (hb hby at_117) ?_
    have hk133 : (3 : Int32) < (4 : Int32) := (by decide)
    refine own_step (fun t k => XS.icmpNo X132.here hx rfl (hb hby at_118) rfl ((tlt hk133).2.2.2) k) ?_
    show own_G p.tables e below _ (T132.setTop (mkF m 121 #[.val (.long ua), .second, .val (.long ub), .second, .val (.long uc), .second, .val (.long ud), .second, .val (.long ue), .second, iv flg, .val (.long msk), .second, .val (.long va), .second, .val (.long vb), .second, .val (.long vc), .second, .val (.long vd), .second, .val (.long ve), .second, iv 4, rv bx128_rb, .val (.long (own_f2 (own_f2 va vb) vc)), .second, .unset] []))
    refine own_lx X132.here hx rfl (hb hby at_121) rfl ?_
    refine own_lx X132.here hx rfl (hb hby at_123) rfl ?_
    obtain ⟨_, _, ⟨T134, L134, k134, n134⟩, -, X134, ⟨Lc134, hQ134, l134, y134, z134⟩, st134⟩ := Jvm.LawKit.callS X132 hx (y := own_y2) hown (mvT hZ (own_w hw 6 rfl)) (mvT hZ (own_w hw 7 rfl)) (mvT hZ (own_w hw 8 rfl)) (mvT hZ (own_w hw 9 rfl)) (by decide) (backOf (W := 0) (rm2 l Z a0 hw [] (own_f2 (own_f2 va vb) vc) vd T128.heap n0 (Nat.le_trans Z0 K128.1) ) hZ (own_w hw 9 rfl) (own_w hw 8 rfl) (by decide) (by decide)) (g := (mkF m 125 #[.val (.long ua), .second, .val (.long ub), .second, .val (.long uc), .second, .val (.long ud), .second, .val (.long ue), .second, iv flg, .val (.long msk), .second, .val (.long va), .second, .val (.long vb), .second, .val (.long vc), .second, .val (.long vd), .second, .val (.long ve), .second, iv 4, rv bx128_rb, .val (.long (own_f2 (own_f2 va vb) vc)), .second, .unset] [(.long vd), (.long (own_f2 (own_f2 va vb) vc))])) rfl (by rw [hml]; rfl) (argsL := [(.long (own_f2 (own_f2 va vb) vc)), (.long vd)]) (rest := []) (lenOf pd_0_3 rfl) rfl (own_wl rfl) (hb hby at_125) (fun _ _ => ⟨rfl, e132, (by decide : 1 + 0 ≤ _), (by decide : 4 + 0 ≤ _)⟩)
    dsimp only [Pt.U, Pt.locs, Pt.cells, Pt.slots] at X134 l134 y134 z134 st134 hQ134
    subst y134 z134
    obtain ⟨rfl, N134q, e134⟩ := hQ134
    have N134 : Fr n0 L134 := by rw [l134]; exact Fr.app N132 N134q
    refine own_step st134 ?_
    refine own_step (fun t k => XS.lstore X134.here hx rfl (hb hby at_128) rfl (l' := #[.val (.long ua), .second, .val (.long ub), .second, .val (.long uc), .second, .val (.long ud), .second, .val (.long ue), .second, iv flg, .val (.long msk), .second, .val (.long va), .second, .val (.long vb), .second, .val (.long vc), .second, .val (.long vd), .second, .val (.long ve), .second, iv 4, rv bx128_rb, .val (.long (own_f2 (own_f2 (own_f2 va vb) vc) vd)), .second, .unset]) rfl k) ?_
    refine own_ix X134.here hx rfl (hb hby at_130) rfl ?_
    refine own_ic X134.here hx rfl (hb hby at_132) ?_
    have hk135 : ¬ ((4 : Int32) < (4 : Int32)) := (by decide)
    refine own_step (fun t k => XS.icmpYes X134.here hx rfl (pc0 := 133) (pc' := 145) rfl (hb hby at_133) rfl ((flt hk135).2.2.2) (by decide) (by decide) k) ?_
    clear N130 N132 N132q N134q X130 X132 e130 e132 hk133 hk135 st132 st134
    show own_G p.tables e below _ (T134.setTop (mkF m 145 #[.val (.long ua), .second, .val (.long ub), .second, .val (.long uc), .second, .val (.long ud), .second, .val (.long ue), .second, iv flg, .val (.long msk), .second, .val (.long va), .second, .val (.long vb), .second, .val (.long vc), .second, .val (.long vd), .second, .val (.long ve), .second, iv 4, rv bx128_rb, .val (.long (own_f2 (own_f2 (own_f2 va vb) vc) vd)), .second, .unset] []))
    rcases own_f5z_n4 va vb vc vd with hpk | hpk
    · skip
      show own_G p.tables e below _ (T134.setTop (mkF m 145 #[.val (.long ua), .second, .val (.long ub), .second, .val (.long uc), .second, .val (.long ud), .second, .val (.long ue), .second, iv flg, .val (.long msk), .second, .val (.long va), .second, .val (.long vb), .second, .val (.long vc), .second, .val (.long vd), .second, .val (.long ve), .second, iv 4, rv bx128_rb, .val (.long (own_f2 (own_f2 (own_f2 va vb) vc) vd)), .second, .unset] []))
      obtain ⟨T136, h136, X136, e136, E136, A136, D136, -, st136⟩ := newO X134 hx hZ hown (own_w hw 10 rfl) (own_w hw 11 rfl) (own_w hw 12 rfl) e134 (g := (mkF m 145 #[.val (.long ua), .second, .val (.long ub), .second, .val (.long uc), .second, .val (.long ud), .second, .val (.long ue), .second, iv flg, .val (.long msk), .second, .val (.long va), .second, .val (.long vb), .second, .val (.long vc), .second, .val (.long vd), .second, .val (.long ve), .second, iv 4, rv bx128_rb, .val (.long (own_f2 (own_f2 (own_f2 va vb) vc) vd)), .second, .unset] [])) rfl (hb hby at_145) (by decide) (by decide)
      obtain ⟨b136, g136⟩ : ∃ z, z = T128.heap.size := ⟨_, rfl⟩
      have ne137 : bx128_rb ≠ b136 := Nat.ne_of_lt (Nat.lt_of_lt_of_le w128_0.lt (Nat.le_of_eq g136.symm))
      have sz136 : h0.size ≤ b136 := Nat.le_trans K128.1 (Nat.le_of_eq g136.symm)
      have ge136 : n0 ≤ b136 := Nat.le_trans Z0 sz136
      have c138 : own_Arj Z h136 bx128_rb [va, vb, vc, vd] := w128_0.ext E136
      have K136 : Keep h0 h136 [] := K128.ext E136
      rw [← g136] at A136 D136 st136
      have c139 : Fld Z h136 b136 own_C "end" "I" (.int 0) := D136 (Or.inl (own_w hw 20 rfl)) (ty := .int) (by decide)
      have c140 : Fld Z h136 b136 own_C "keys" "[J" .null := D136 (Or.inl (own_w hw 22 rfl)) (ty := (.array .long)) (by decide)
      have c141 : Fld Z h136 b136 own_C "nodes" "[I" .null := D136 (Or.inl (own_w hw 46 rfl)) (ty := (.array .int)) (by decide)
      refine own_step st136 ?_
      refine own_step (fun t k => XS.dup X136.here hx rfl (hb hby at_148) rfl rfl k) ?_
      refine own_step (fun t k => XS.aload X136.here hx rfl (hb hby at_149) rfl rfl k) ?_
      obtain ⟨_, _, ⟨T142, L142, k142, n142⟩, -, X142, ⟨Lc142, hQ142, l142, y142, z142⟩, st142⟩ := X136.specialBack hx (y := own_y3) rfl hown (mvT hZ (own_w hw 13 rfl)) (mvT hZ (own_w hw 14 rfl)) (mvT hZ (own_w hw 15 rfl)) (by decide) (backOf (W := 1) (rm3_p4 l Z a0 hw [] b136 bx128_rb va vb vc vd h136 n0 (Nat.le_trans Z0 K136.1) A136 c139 c140 c141 c138 (hpk : own_f5_n4 va vb vc vd = 1) (own_nn hd_va hd_msk : 0 ≤ va.toInt) (own_nn hd_vb hd_msk : 0 ≤ vb.toInt) (own_nn hd_vc hd_msk : 0 ≤ vc.toInt) (own_nn hd_vd hd_msk : 0 ≤ vd.toInt) ge136 ne137) hZ (own_w hw 15 rfl) (own_w hw 12 rfl) (by decide) (by decide)) (g := (mkF m 151 #[.val (.long ua), .second, .val (.long ub), .second, .val (.long uc), .second, .val (.long ud), .second, .val (.long ue), .second, iv flg, .val (.long msk), .second, .val (.long va), .second, .val (.long vb), .second, .val (.long vc), .second, .val (.long vd), .second, .val (.long ve), .second, iv 4, rv bx128_rb, .val (.long (own_f2 (own_f2 (own_f2 va vb) vc) vd)), .second, .unset] [(.ref bx128_rb), (.ref b136), (.ref b136)])) rfl (by rw [hml]; rfl) (Steps.refl _) (a := b136) (argsL := [(.ref bx128_rb)]) (rest := [(.ref b136)]) (lenOf pd_0_1 rfl) rfl (own_wl rfl) (hb hby at_151) (fun _ _ => ⟨rfl, e136, (by decide : 2 + 1 ≤ _), (by decide : 7 + 10 ≤ _)⟩)
      dsimp only [Pt.U, Pt.locs, Pt.cells, Pt.slots] at X142 l142 y142 z142 st142 hQ142
      subst y142 z142
      obtain ⟨bx142_x1, bx142_L_x1, rfl, N142q, K142q, w142_0, w142_1, w142_2, w142_3, sx142_0, pr142_0⟩ := hQ142
      have c143 : own_Arj Z T142.heap bx128_rb [va, vb, vc, vd] := c138.keep K142q (ninS ne137 nin0)
      have c144 : Exa Z T142.heap b136 own_C := A136.keep K142q
      have sz142_0 : h0.size ≤ bx142_x1 := Nat.le_trans K136.1 sx142_0
      have ge142_0 : n0 ≤ bx142_x1 := Nat.le_trans Z0 sz142_0
      have ne148 : bx128_rb ≠ bx142_x1 := Nat.ne_of_lt (Nat.lt_of_lt_of_le c138.lt sx142_0)
      have ne149 : b136 ≠ bx142_x1 := Nat.ne_of_lt (Nat.lt_of_lt_of_le A136.lt sx142_0)
      have K142 : Keep h0 T142.heap [] := K136.trans K142q (allS (Or.inr sz136) all0)
      have N142 : Fr n0 L142 := by rw [l142]; exact Fr.app N134 N142q
      refine own_step (fun t k => st142.trans k) ?_
      refine own_step (fun t k => XS.astore X142.here hx rfl (hb hby at_154) rfl rfl (l' := #[.val (.long ua), .second, .val (.long ub), .second, .val (.long uc), .second, .val (.long ud), .second, .val (.long ue), .second, iv flg, .val (.long msk), .second, .val (.long va), .second, .val (.long vb), .second, .val (.long vc), .second, .val (.long vd), .second, .val (.long ve), .second, iv 4, rv bx128_rb, .val (.long (own_f2 (own_f2 (own_f2 va vb) vc) vd)), .second, rv b136]) rfl k) ?_
      refine own_step (fun t k => XS.aload X142.here hx rfl (hb hby at_156) rfl rfl k) ?_
      obtain ⟨cq150, kq150, q150a, q150b, q150c⟩ := isOf hZ rfl c144
      obtain ⟨_, _, ⟨T150, L150, k150, n150⟩, -, X150, ⟨Lc150, hQ150, l150, y150, z150⟩, st150⟩ := X142.virtualBack hx (y := own_y15) (z := own_y15) hown (mvT hZ (own_w hw 62 rfl)) (mvT hZ (own_w hw 63 rfl)) (notFace_of_selects (args := #[]) (mvT hZ (own_w hw 65 rfl))) (mvT hZ (own_w hw 65 rfl)) (mvT hZ (own_w hw 64 rfl)) (by decide) (backOf (W := 0) (rm15_p l Z a0 hw [] b136 bx142_x1 bx142_L_x1 T142.heap n0 (Nat.le_trans Z0 K142.1) w142_1 w142_2 w142_3 (own_b3 pr142_0.1 (by decide) : own_Inb (3 : Int32) bx142_L_x1.length)) hZ (own_w hw 66 rfl) (own_w hw 12 rfl) (by decide) (by decide)) q150a q150c (g := (mkF m 158 #[.val (.long ua), .second, .val (.long ub), .second, .val (.long uc), .second, .val (.long ud), .second, .val (.long ue), .second, iv flg, .val (.long msk), .second, .val (.long va), .second, .val (.long vb), .second, .val (.long vc), .second, .val (.long vd), .second, .val (.long ve), .second, iv 4, rv bx128_rb, .val (.long (own_f2 (own_f2 (own_f2 va vb) vc) vd)), .second, rv b136] [(.ref b136)])) rfl (by rw [hml]; rfl) (Steps.refl _) (argsL := []) (rest := []) (lenOf pd_0_2 rfl) rfl (own_wl rfl) (hb hby at_158) (fun _ _ => ⟨rfl, rfl, (by decide : 3 + 0 ≤ _), (by decide : 17 + 0 ≤ _)⟩)
      dsimp only [Pt.U, Pt.locs, Pt.cells, Pt.slots] at X150 l150 y150 z150 st150 hQ150
      subst y150 z150
      obtain ⟨rfl, N150q, e150⟩ := hQ150
      have N150 : Fr n0 L150 := by rw [l150]; exact Fr.app N142 N150q
      refine own_step (fun t k => st150.trans k) ?_
      clear A136 D136 E136 K128 K136 K142q N134 N142 N142q N150q X134 X136 X142 c138 c139 c140 c141 e134 e136 g136 q150a q150b q150c st136 st142 st150 sx142_0 w128_0
      show own_G p.tables e below _ (T150.setTop (mkF m 161 #[.val (.long ua), .second, .val (.long ub), .second, .val (.long uc), .second, .val (.long ud), .second, .val (.long ue), .second, iv flg, .val (.long msk), .second, .val (.long va), .second, .val (.long vb), .second, .val (.long vc), .second, .val (.long vd), .second, .val (.long ve), .second, iv 4, rv bx128_rb, .val (.long (own_f2 (own_f2 (own_f2 va vb) vc) vd)), .second, rv b136] [(.long (own_ush (bx142_L_x1.getD 3 0)))]))
      refine own_lx X150.here hx rfl (hb hby at_161) rfl ?_
      refine own_step (fun t k => XS.lcmp X150.here hx rfl (hb hby at_163) rfl k) ?_
      have hk151 : (own_ush (bx142_L_x1.getD 3 0)) = (own_f2 (own_f2 (own_f2 va vb) vc) vd) := Int64.toInt_inj.mp (pr142_0.2.trans (by simp only [own_f2_int]))
      refine own_step (fun t k => XS.ifNo X150.here hx rfl (hb hby at_164) rfl ((if0 _ _).trans (teq ((lw_eq _ _).mpr hk151)).2) k) ?_
      show own_G p.tables e below _ (T150.setTop (mkF m 167 #[.val (.long ua), .second, .val (.long ub), .second, .val (.long uc), .second, .val (.long ud), .second, .val (.long ue), .second, iv flg, .val (.long msk), .second, .val (.long va), .second, .val (.long vb), .second, .val (.long vc), .second, .val (.long vd), .second, .val (.long ve), .second, iv 4, rv bx128_rb, .val (.long (own_f2 (own_f2 (own_f2 va vb) vc) vd)), .second, rv b136] []))
      refine own_ic X150.here hx rfl (hb hby at_167) ?_
      refine own_go X150.here hx rfl (pc0 := 168) (pc' := 172) rfl (hb hby at_168) (by decide) (by decide) ?_
      obtain ⟨fs, hr, hrun, hended, hW, hsame⟩ := X150.leave (v := some (.int (1 : Int32))) (fun h => by rw [Bd.returns] at h; cases h)
      refine own_done (retN X150 hx (t := .boolean) Bd.returns (by simp) (hb hby at_172) hr) hrun hended ⟨_, _, rfl, ?_, ⟨_, rfl⟩, hW, hsame.mono (by decide) (by decide)⟩
      show Q0 Z ua ub uc ud ue flg h0 n0 _ T150.heap _
      rw [e150]
      exact ⟨rfl, N150⟩
    · skip
      show own_G p.tables e below _ (T134.setTop (mkF m 145 #[.val (.long ua), .second, .val (.long ub), .second, .val (.long uc), .second, .val (.long ud), .second, .val (.long ue), .second, iv flg, .val (.long msk), .second, .val (.long va), .second, .val (.long vb), .second, .val (.long vc), .second, .val (.long vd), .second, .val (.long ve), .second, iv 4, rv bx128_rb, .val (.long (own_f2 (own_f2 (own_f2 va vb) vc) vd)), .second, .unset] []))
      obtain ⟨T152, h152, X152, e152, E152, A152, D152, -, st152⟩ := newO X134 hx hZ hown (own_w hw 10 rfl) (own_w hw 11 rfl) (own_w hw 12 rfl) e134 (g := (mkF m 145 #[.val (.long ua), .second, .val (.long ub), .second, .val (.long uc), .second, .val (.long ud), .second, .val (.long ue), .second, iv flg, .val (.long msk), .second, .val (.long va), .second, .val (.long vb), .second, .val (.long vc), .second, .val (.long vd), .second, .val (.long ve), .second, iv 4, rv bx128_rb, .val (.long (own_f2 (own_f2 (own_f2 va vb) vc) vd)), .second, .unset] [])) rfl (hb hby at_145) (by decide) (by decide)
      obtain ⟨b152, g152⟩ : ∃ z, z = T128.heap.size := ⟨_, rfl⟩
      have ne153 : bx128_rb ≠ b152 := Nat.ne_of_lt (Nat.lt_of_lt_of_le w128_0.lt (Nat.le_of_eq g152.symm))
      have sz152 : h0.size ≤ b152 := Nat.le_trans K128.1 (Nat.le_of_eq g152.symm)
      have ge152 : n0 ≤ b152 := Nat.le_trans Z0 sz152
      have c154 : own_Arj Z h152 bx128_rb [va, vb, vc, vd] := w128_0.ext E152
      have K152 : Keep h0 h152 [] := K128.ext E152
      rw [← g152] at A152 D152 st152
      have c155 : Fld Z h152 b152 own_C "end" "I" (.int 0) := D152 (Or.inl (own_w hw 20 rfl)) (ty := .int) (by decide)
      have c156 : Fld Z h152 b152 own_C "keys" "[J" .null := D152 (Or.inl (own_w hw 22 rfl)) (ty := (.array .long)) (by decide)
      have c157 : Fld Z h152 b152 own_C "nodes" "[I" .null := D152 (Or.inl (own_w hw 46 rfl)) (ty := (.array .int)) (by decide)
      refine own_step st152 ?_
      refine own_step (fun t k => XS.dup X152.here hx rfl (hb hby at_148) rfl rfl k) ?_
      refine own_step (fun t k => XS.aload X152.here hx rfl (hb hby at_149) rfl rfl k) ?_
      obtain ⟨_, _, ⟨T158, L158, k158, n158⟩, -, X158, ⟨Lc158, hQ158, l158, y158, z158⟩, st158⟩ := X152.specialBack hx (y := own_y3) rfl hown (mvT hZ (own_w hw 13 rfl)) (mvT hZ (own_w hw 14 rfl)) (mvT hZ (own_w hw 15 rfl)) (by decide) (backOf (W := 1) (rm3_u4 l Z a0 hw [] b152 bx128_rb va vb vc vd h152 n0 (Nat.le_trans Z0 K152.1) A152 c155 c156 c157 c154 (hpk : own_f5_n4 va vb vc vd = 0) ge152 ne153) hZ (own_w hw 15 rfl) (own_w hw 12 rfl) (by decide) (by decide)) (g := (mkF m 151 #[.val (.long ua), .second, .val (.long ub), .second, .val (.long uc), .second, .val (.long ud), .second, .val (.long ue), .second, iv flg, .val (.long msk), .second, .val (.long va), .second, .val (.long vb), .second, .val (.long vc), .second, .val (.long vd), .second, .val (.long ve), .second, iv 4, rv bx128_rb, .val (.long (own_f2 (own_f2 (own_f2 va vb) vc) vd)), .second, .unset] [(.ref bx128_rb), (.ref b152), (.ref b152)])) rfl (by rw [hml]; rfl) (Steps.refl _) (a := b152) (argsL := [(.ref bx128_rb)]) (rest := [(.ref b152)]) (lenOf pd_0_1 rfl) rfl (own_wl rfl) (hb hby at_151) (fun _ _ => ⟨rfl, e152, (by decide : 2 + 2 ≤ _), (by decide : 7 + 20 ≤ _)⟩)
      dsimp only [Pt.U, Pt.locs, Pt.cells, Pt.slots] at X158 l158 y158 z158 st158 hQ158
      subst y158 z158
      obtain ⟨bx158_x1, bx158_x2, bx158_L_x1, bx158_L_x2, rfl, N158q, K158q, w158_0, w158_1, w158_2, w158_3, w158_4, sx158_0, sx158_1, xn158_0, pr158_0, pr158_1⟩ := hQ158
      have c159 : own_Arj Z T158.heap bx128_rb [va, vb, vc, vd] := c154.keep K158q (ninS ne153 nin0)
      have c160 : Exa Z T158.heap b152 own_C := A152.keep K158q
      have sz158_0 : h0.size ≤ bx158_x1 := Nat.le_trans K152.1 sx158_0
      have ge158_0 : n0 ≤ bx158_x1 := Nat.le_trans Z0 sz158_0
      have ne164 : bx128_rb ≠ bx158_x1 := Nat.ne_of_lt (Nat.lt_of_lt_of_le c154.lt sx158_0)
      have ne165 : b152 ≠ bx158_x1 := Nat.ne_of_lt (Nat.lt_of_lt_of_le A152.lt sx158_0)
      have sz158_1 : h0.size ≤ bx158_x2 := Nat.le_trans K152.1 sx158_1
      have ge158_1 : n0 ≤ bx158_x2 := Nat.le_trans Z0 sz158_1
      have ne166 : bx128_rb ≠ bx158_x2 := Nat.ne_of_lt (Nat.lt_of_lt_of_le c154.lt sx158_1)
      have ne167 : b152 ≠ bx158_x2 := Nat.ne_of_lt (Nat.lt_of_lt_of_le A152.lt sx158_1)
      have K158 : Keep h0 T158.heap [] := K152.trans K158q (allS (Or.inr sz152) all0)
      have N158 : Fr n0 L158 := by rw [l158]; exact Fr.app N134 N158q
      refine own_step (fun t k => st158.trans k) ?_
      refine own_step (fun t k => XS.astore X158.here hx rfl (hb hby at_154) rfl rfl (l' := #[.val (.long ua), .second, .val (.long ub), .second, .val (.long uc), .second, .val (.long ud), .second, .val (.long ue), .second, iv flg, .val (.long msk), .second, .val (.long va), .second, .val (.long vb), .second, .val (.long vc), .second, .val (.long vd), .second, .val (.long ve), .second, iv 4, rv bx128_rb, .val (.long (own_f2 (own_f2 (own_f2 va vb) vc) vd)), .second, rv b152]) rfl k) ?_
      refine own_step (fun t k => XS.aload X158.here hx rfl (hb hby at_156) rfl rfl k) ?_
      obtain ⟨cq168, kq168, q168a, q168b, q168c⟩ := isOf hZ rfl c160
      obtain ⟨_, _, ⟨T168, L168, k168, n168⟩, -, X168, ⟨Lc168, hQ168, l168, y168, z168⟩, st168⟩ := X158.virtualBack hx (y := own_y15) (z := own_y15) hown (mvT hZ (own_w hw 62 rfl)) (mvT hZ (own_w hw 63 rfl)) (notFace_of_selects (args := #[]) (mvT hZ (own_w hw 65 rfl))) (mvT hZ (own_w hw 65 rfl)) (mvT hZ (own_w hw 64 rfl)) (by decide) (backOf (W := 0) (rm15_u l Z a0 hw [] b152 bx158_x1 bx158_x2 bx158_L_x1 T158.heap n0 (Nat.le_trans Z0 K158.1) w158_1 w158_2 w158_3 (own_b3 pr158_0.1 (by decide) : own_Inb (3 : Int32) bx158_L_x1.length)) hZ (own_w hw 66 rfl) (own_w hw 12 rfl) (by decide) (by decide)) q168a q168c (g := (mkF m 158 #[.val (.long ua), .second, .val (.long ub), .second, .val (.long uc), .second, .val (.long ud), .second, .val (.long ue), .second, iv flg, .val (.long msk), .second, .val (.long va), .second, .val (.long vb), .second, .val (.long vc), .second, .val (.long vd), .second, .val (.long ve), .second, iv 4, rv bx128_rb, .val (.long (own_f2 (own_f2 (own_f2 va vb) vc) vd)), .second, rv b152] [(.ref b152)])) rfl (by rw [hml]; rfl) (Steps.refl _) (argsL := []) (rest := []) (lenOf pd_0_2 rfl) rfl (own_wl rfl) (hb hby at_158) (fun _ _ => ⟨rfl, rfl, (by decide : 4 + 0 ≤ _), (by decide : 27 + 0 ≤ _)⟩)
      dsimp only [Pt.U, Pt.locs, Pt.cells, Pt.slots] at X168 l168 y168 z168 st168 hQ168
      subst y168 z168
      obtain ⟨rfl, N168q, e168⟩ := hQ168
      have N168 : Fr n0 L168 := by rw [l168]; exact Fr.app N158 N168q
      refine own_step (fun t k => st168.trans k) ?_
      clear A152 D152 E152 K128 K152 K158q N134 N158 N158q N168q X134 X152 X158 c154 c155 c156 c157 e134 e152 g152 q168a q168b q168c st152 st158 st168 sx158_0 sx158_1 w128_0
      show own_G p.tables e below _ (T168.setTop (mkF m 161 #[.val (.long ua), .second, .val (.long ub), .second, .val (.long uc), .second, .val (.long ud), .second, .val (.long ue), .second, iv flg, .val (.long msk), .second, .val (.long va), .second, .val (.long vb), .second, .val (.long vc), .second, .val (.long vd), .second, .val (.long ve), .second, iv 4, rv bx128_rb, .val (.long (own_f2 (own_f2 (own_f2 va vb) vc) vd)), .second, rv b152] [(.long (bx158_L_x1.getD 3 0))]))
      refine own_lx X168.here hx rfl (hb hby at_161) rfl ?_
      refine own_step (fun t k => XS.lcmp X168.here hx rfl (hb hby at_163) rfl k) ?_
      have hk169 : (bx158_L_x1.getD 3 0) = (own_f2 (own_f2 (own_f2 va vb) vc) vd) := Int64.toInt_inj.mp (pr158_0.2.trans (by simp only [own_f2_int]))
      refine own_step (fun t k => XS.ifNo X168.here hx rfl (hb hby at_164) rfl ((if0 _ _).trans (teq ((lw_eq _ _).mpr hk169)).2) k) ?_
      show own_G p.tables e below _ (T168.setTop (mkF m 167 #[.val (.long ua), .second, .val (.long ub), .second, .val (.long uc), .second, .val (.long ud), .second, .val (.long ue), .second, iv flg, .val (.long msk), .second, .val (.long va), .second, .val (.long vb), .second, .val (.long vc), .second, .val (.long vd), .second, .val (.long ve), .second, iv 4, rv bx128_rb, .val (.long (own_f2 (own_f2 (own_f2 va vb) vc) vd)), .second, rv b152] []))
      refine own_ic X168.here hx rfl (hb hby at_167) ?_
      refine own_go X168.here hx rfl (pc0 := 168) (pc' := 172) rfl (hb hby at_168) (by decide) (by decide) ?_
      obtain ⟨fs, hr, hrun, hended, hW, hsame⟩ := X168.leave (v := some (.int (1 : Int32))) (fun h => by rw [Bd.returns] at h; cases h)
      refine own_done (retN X168 hx (t := .boolean) Bd.returns (by simp) (hb hby at_172) hr) hrun hended ⟨_, _, rfl, ?_, ⟨_, rfl⟩, hW, hsame.mono (by decide) (by decide)⟩
      show Q0 Z ua ub uc ud ue flg h0 n0 _ T168.heap _
      rw [e168]
      exact ⟨rfl, N168⟩
  · skip
    show own_G p.tables e below _ (s₁.setTop (mkF m 64 #[.val (.long ua), .second, .val (.long ub), .second, .val (.long uc), .second, .val (.long ud), .second, .val (.long ue), .second, iv flg, .val (.long msk), .second, .val (.long va), .second, .val (.long vb), .second, .val (.long vc), .second, .val (.long vd), .second, .val (.long ve), .second, iv 5, .unset, .unset, .unset, .unset] []))
    refine own_ix X0.here hx rfl (hb hby at_64) rfl ?_
    refine own_lx X0.here hx rfl (hb hby at_66) rfl ?_
    refine own_lx X0.here hx rfl (hb hby at_68) rfl ?_
    refine own_lx X0.here hx rfl (hb hby at_70) rfl ?_
    refine own_lx X0.here hx rfl (hb hby at_72) rfl ?_
    refine own_lx X0.here hx rfl (hb hby at_74) rfl ?_
    obtain ⟨_, _, ⟨T170, L170, k170, n170⟩, -, X170, ⟨Lc170, hQ170, l170, y170, z170⟩, st170⟩ := Jvm.LawKit.callS X0 hx (y := own_y1) hown (mvT hZ (own_w hw 1 rfl)) (mvT hZ (own_w hw 2 rfl)) (mvT hZ (own_w hw 3 rfl)) (mvT hZ (own_w hw 4 rfl)) (by decide) (backOf (W := 0) (rm1_n5 l Z a0 hw [] va vb vc vd ve h0 n0 (Nat.le_trans Z0 (Keep.refl h0 []).1) ) hZ (own_w hw 4 rfl) (own_w hw 3 rfl) (by decide) (by decide)) (g := (mkF m 76 #[.val (.long ua), .second, .val (.long ub), .second, .val (.long uc), .second, .val (.long ud), .second, .val (.long ue), .second, iv flg, .val (.long msk), .second, .val (.long va), .second, .val (.long vb), .second, .val (.long vc), .second, .val (.long vd), .second, .val (.long ve), .second, iv 5, .unset, .unset, .unset, .unset] [(.long ve), (.long vd), (.long vc), (.long vb), (.long va), (.int 5)])) rfl (by rw [hml]; rfl) (argsL := [(.int 5), (.long va), (.long vb), (.long vc), (.long vd), (.long ve)]) (rest := []) (lenOf pd_0_0 rfl) rfl (own_wl rfl) (hb hby at_76) (fun _ _ => ⟨rfl, e0, (by decide : 0 + 1 ≤ _), (by decide : 0 + 5 ≤ _)⟩)
    dsimp only [Pt.U, Pt.locs, Pt.cells, Pt.slots] at X170 l170 y170 z170 st170 hQ170
    subst y170 z170
    obtain ⟨bx170_rb, rfl, N170q, K170q, w170_0, sx170_0⟩ := hQ170
    have sz170_0 : h0.size ≤ bx170_rb := Nat.le_trans (Keep.refl h0 []).1 sx170_0
    have ge170_0 : n0 ≤ bx170_rb := Nat.le_trans Z0 sz170_0
    have K170 : Keep h0 T170.heap [] := (Keep.refl h0 []).trans K170q all0
    have N170 : Fr n0 L170 := by rw [l170]; exact Fr.app N0 N170q
    refine own_step st170 ?_
    show own_G p.tables e below _ (T170.setTop (mkF m 79 #[.val (.long ua), .second, .val (.long ub), .second, .val (.long uc), .second, .val (.long ud), .second, .val (.long ue), .second, iv flg, .val (.long msk), .second, .val (.long va), .second, .val (.long vb), .second, .val (.long vc), .second, .val (.long vd), .second, .val (.long ve), .second, iv 5, .unset, .unset, .unset, .unset] [(.ref bx170_rb)]))
    refine own_step (fun t k => XS.astore X170.here hx rfl (hb hby at_79) rfl rfl (l' := #[.val (.long ua), .second, .val (.long ub), .second, .val (.long uc), .second, .val (.long ud), .second, .val (.long ue), .second, iv flg, .val (.long msk), .second, .val (.long va), .second, .val (.long vb), .second, .val (.long vc), .second, .val (.long vd), .second, .val (.long ve), .second, iv 5, rv bx170_rb, .unset, .unset, .unset]) rfl k) ?_
    refine own_lx X170.here hx rfl (hb hby at_81) rfl ?_
    refine own_step (fun t k => XS.lstore X170.here hx rfl (hb hby at_83) rfl (l' := #[.val (.long ua), .second, .val (.long ub), .second, .val (.long uc), .second, .val (.long ud), .second, .val (.long ue), .second, iv flg, .val (.long msk), .second, .val (.long va), .second, .val (.long vb), .second, .val (.long vc), .second, .val (.long vd), .second, .val (.long ve), .second, iv 5, rv bx170_rb, .val (.long va), .second, .unset]) rfl k) ?_
    refine own_ix X170.here hx rfl (hb hby at_85) rfl ?_
    refine own_ic X170.here hx rfl (hb hby at_87) ?_
    have hk171 : (1 : Int32) < (5 : Int32) := (by decide)
    refine own_step (fun t k => XS.icmpNo X170.here hx rfl (hb hby at_88) rfl ((tlt hk171).2.2.2) k) ?_
    show own_G p.tables e below _ (T170.setTop (mkF m 91 #[.val (.long ua), .second, .val (.long ub), .second, .val (.long uc), .second, .val (.long ud), .second, .val (.long ue), .second, iv flg, .val (.long msk), .second, .val (.long va), .second, .val (.long vb), .second, .val (.long vc), .second, .val (.long vd), .second, .val (.long ve), .second, iv 5, rv bx170_rb, .val (.long va), .second, .unset] []))
    refine own_lx X170.here hx rfl (hb hby at_91) rfl ?_
    refine own_lx X170.here hx rfl (hb hby at_93) rfl ?_
    obtain ⟨_, _, ⟨T172, L172, k172, n172⟩, -, X172, ⟨Lc172, hQ172, l172, y172, z172⟩, st172⟩ := Jvm.LawKit.callS X170 hx (y := own_y2) hown (mvT hZ (own_w hw 6 rfl)) (mvT hZ (own_w hw 7 rfl)) (mvT hZ (own_w hw 8 rfl)) (mvT hZ (own_w hw 9 rfl)) (by decide) (backOf (W := 0) (rm2 l Z a0 hw [] va vb T170.heap n0 (Nat.le_trans Z0 K170.1) ) hZ (own_w hw 9 rfl) (own_w hw 8 rfl) (by decide) (by decide)) (g := (mkF m 95 #[.val (.long ua), .second, .val (.long ub), .second, .val (.long uc), .second, .val (.long ud), .second, .val (.long ue), .second, iv flg, .val (.long msk), .second, .val (.long va), .second, .val (.long vb), .second, .val (.long vc), .second, .val (.long vd), .second, .val (.long ve), .second, iv 5, rv bx170_rb, .val (.long va), .second, .unset] [(.long vb), (.long va)])) rfl (by rw [hml]; rfl) (argsL := [(.long va), (.long vb)]) (rest := []) (lenOf pd_0_3 rfl) rfl (own_wl rfl) (hb hby at_95) (fun _ _ => ⟨rfl, rfl, (by decide : 1 + 0 ≤ _), (by decide : 5 + 0 ≤ _)⟩)
    dsimp only [Pt.U, Pt.locs, Pt.cells, Pt.slots] at X172 l172 y172 z172 st172 hQ172
    subst y172 z172
    obtain ⟨rfl, N172q, e172⟩ := hQ172
    have N172 : Fr n0 L172 := by rw [l172]; exact Fr.app N170 N172q
    refine own_step st172 ?_
    refine own_step (fun t k => XS.lstore X172.here hx rfl (hb hby at_98) rfl (l' := #[.val (.long ua), .second, .val (.long ub), .second, .val (.long uc), .second, .val (.long ud), .second, .val (.long ue), .second, iv flg, .val (.long msk), .second, .val (.long va), .second, .val (.long vb), .second, .val (.long vc), .second, .val (.long vd), .second, .val (.long ve), .second, iv 5, rv bx170_rb, .val (.long (own_f2 va vb)), .second, .unset]) rfl k) ?_
    refine own_ix X172.here hx rfl (hb hby at_100) rfl ?_
    refine own_ic X172.here hx rfl (hb hby at_102) ?_
    have hk173 : (2 : Int32) < (5 : Int32) := (by decide)
    refine own_step (fun t k => XS.icmpNo X172.here hx rfl (hb hby at_103) rfl ((tlt hk173).2.2.2) k) ?_
    clear K170q N170 N170q N172q X170 hk171 hk173 st170 st172 sx170_0
    show own_G p.tables e below _ (T172.setTop (mkF m 106 #[.val (.long ua), .second, .val (.long ub), .second, .val (.long uc), .second, .val (.long ud), .second, .val (.long ue), .second, iv flg, .val (.long msk), .second, .val (.long va), .second, .val (.long vb), .second, .val (.long vc), .second, .val (.long vd), .second, .val (.long ve), .second, iv 5, rv bx170_rb, .val (.long (own_f2 va vb)), .second, .unset] []))
    refine own_lx X172.here hx rfl (hb hby at_106) rfl ?_
    refine own_lx X172.here hx rfl (hb hby at_108) rfl ?_
    obtain ⟨_, _, ⟨T174, L174, k174, n174⟩, -, X174, ⟨Lc174, hQ174, l174, y174, z174⟩, st174⟩ := Jvm.LawKit.callS X172 hx (y := own_y2) hown (mvT hZ (own_w hw 6 rfl)) (mvT hZ (own_w hw 7 rfl)) (mvT hZ (own_w hw 8 rfl)) (mvT hZ (own_w hw 9 rfl)) (by decide) (backOf (W := 0) (rm2 l Z a0 hw [] (own_f2 va vb) vc T170.heap n0 (Nat.le_trans Z0 K170.1) ) hZ (own_w hw 9 rfl) (own_w hw 8 rfl) (by decide) (by decide)) (g := (mkF m 110 #[.val (.long ua), .second, .val (.long ub), .second, .val (.long uc), .second, .val (.long ud), .second, .val (.long ue), .second, iv flg, .val (.long msk), .second, .val (.long va), .second, .val (.long vb), .second, .val (.long vc), .second, .val (.long vd), .second, .val (.long ve), .second, iv 5, rv bx170_rb, .val (.long (own_f2 va vb)), .second, .unset] [(.long vc), (.long (own_f2 va vb))])) rfl (by rw [hml]; rfl) (argsL := [(.long (own_f2 va vb)), (.long vc)]) (rest := []) (lenOf pd_0_3 rfl) rfl (own_wl rfl) (hb hby at_110) (fun _ _ => ⟨rfl, e172, (by decide : 1 + 0 ≤ _), (by decide : 5 + 0 ≤ _)⟩)
    dsimp only [Pt.U, Pt.locs, Pt.cells, Pt.slots] at X174 l174 y174 z174 st174 hQ174
    subst y174 z174
    obtain ⟨rfl, N174q, e174⟩ := hQ174
    have N174 : Fr n0 L174 := by rw [l174]; exact Fr.app N172 N174q
    refine own_step st174 ?_
    refine own_step (fun t k => XS.lstore X174.here hx rfl (hb hby at_113) rfl (l' := #[.val (.long ua), .second, .val (.long ub), .second, .val (.long uc), .second, .val (.long ud), .second, .val (.long ue), .second, iv flg, .val (.long msk), .second, .val (.long va), .second, .val (.long vb), .second, .val (.long vc), .second, .val (.long vd), .second, .val (.long ve), .second, iv 5, rv bx170_rb, .val (.long (own_f2 (own_f2 va vb) vc)), .second, .unset]) rfl k) ?_
    refine own_ix X174.here hx rfl (hb hby at_115) rfl ?_
    refine own_ic X174.here hx rfl (hb hby at_117) ?_
    have hk175 : (3 : Int32) < (5 : Int32) := (by decide)
    refine own_step (fun t k => XS.icmpNo X174.here hx rfl (hb hby at_118) rfl ((tlt hk175).2.2.2) k) ?_
    show own_G p.tables e below _ (T174.setTop (mkF m 121 #[.val (.long ua), .second, .val (.long ub), .second, .val (.long uc), .second, .val (.long ud), .second, .val (.long ue), .second, iv flg, .val (.long msk), .second, .val (.long va), .second, .val (.long vb), .second, .val (.long vc), .second, .val (.long vd), .second, .val (.long ve), .second, iv 5, rv bx170_rb, .val (.long (own_f2 (own_f2 va vb) vc)), .second, .unset] []))
    refine own_lx X174.here hx rfl (hb hby at_121) rfl ?_
    refine own_lx X174.here hx rfl (hb hby at_123) rfl ?_
    obtain ⟨_, _, ⟨T176, L176, k176, n176⟩, -, X176, ⟨Lc176, hQ176, l176, y176, z176⟩, st176⟩ := Jvm.LawKit.callS X174 hx (y := own_y2) hown (mvT hZ (own_w hw 6 rfl)) (mvT hZ (own_w hw 7 rfl)) (mvT hZ (own_w hw 8 rfl)) (mvT hZ (own_w hw 9 rfl)) (by decide) (backOf (W := 0) (rm2 l Z a0 hw [] (own_f2 (own_f2 va vb) vc) vd T170.heap n0 (Nat.le_trans Z0 K170.1) ) hZ (own_w hw 9 rfl) (own_w hw 8 rfl) (by decide) (by decide)) (g := (mkF m 125 #[.val (.long ua), .second, .val (.long ub), .second, .val (.long uc), .second, .val (.long ud), .second, .val (.long ue), .second, iv flg, .val (.long msk), .second, .val (.long va), .second, .val (.long vb), .second, .val (.long vc), .second, .val (.long vd), .second, .val (.long ve), .second, iv 5, rv bx170_rb, .val (.long (own_f2 (own_f2 va vb) vc)), .second, .unset] [(.long vd), (.long (own_f2 (own_f2 va vb) vc))])) rfl (by rw [hml]; rfl) (argsL := [(.long (own_f2 (own_f2 va vb) vc)), (.long vd)]) (rest := []) (lenOf pd_0_3 rfl) rfl (own_wl rfl) (hb hby at_125) (fun _ _ => ⟨rfl, e174, (by decide : 1 + 0 ≤ _), (by decide : 5 + 0 ≤ _)⟩)
    dsimp only [Pt.U, Pt.locs, Pt.cells, Pt.slots] at X176 l176 y176 z176 st176 hQ176
    subst y176 z176
    obtain ⟨rfl, N176q, e176⟩ := hQ176
    have N176 : Fr n0 L176 := by rw [l176]; exact Fr.app N174 N176q
    refine own_step st176 ?_
    refine own_step (fun t k => XS.lstore X176.here hx rfl (hb hby at_128) rfl (l' := #[.val (.long ua), .second, .val (.long ub), .second, .val (.long uc), .second, .val (.long ud), .second, .val (.long ue), .second, iv flg, .val (.long msk), .second, .val (.long va), .second, .val (.long vb), .second, .val (.long vc), .second, .val (.long vd), .second, .val (.long ve), .second, iv 5, rv bx170_rb, .val (.long (own_f2 (own_f2 (own_f2 va vb) vc) vd)), .second, .unset]) rfl k) ?_
    refine own_ix X176.here hx rfl (hb hby at_130) rfl ?_
    refine own_ic X176.here hx rfl (hb hby at_132) ?_
    have hk177 : (4 : Int32) < (5 : Int32) := (by decide)
    refine own_step (fun t k => XS.icmpNo X176.here hx rfl (hb hby at_133) rfl ((tlt hk177).2.2.2) k) ?_
    clear N172 N174 N174q N176q X172 X174 e172 e174 hk175 hk177 st174 st176
    show own_G p.tables e below _ (T176.setTop (mkF m 136 #[.val (.long ua), .second, .val (.long ub), .second, .val (.long uc), .second, .val (.long ud), .second, .val (.long ue), .second, iv flg, .val (.long msk), .second, .val (.long va), .second, .val (.long vb), .second, .val (.long vc), .second, .val (.long vd), .second, .val (.long ve), .second, iv 5, rv bx170_rb, .val (.long (own_f2 (own_f2 (own_f2 va vb) vc) vd)), .second, .unset] []))
    refine own_lx X176.here hx rfl (hb hby at_136) rfl ?_
    refine own_lx X176.here hx rfl (hb hby at_138) rfl ?_
    obtain ⟨_, _, ⟨T178, L178, k178, n178⟩, -, X178, ⟨Lc178, hQ178, l178, y178, z178⟩, st178⟩ := Jvm.LawKit.callS X176 hx (y := own_y2) hown (mvT hZ (own_w hw 6 rfl)) (mvT hZ (own_w hw 7 rfl)) (mvT hZ (own_w hw 8 rfl)) (mvT hZ (own_w hw 9 rfl)) (by decide) (backOf (W := 0) (rm2 l Z a0 hw [] (own_f2 (own_f2 (own_f2 va vb) vc) vd) ve T170.heap n0 (Nat.le_trans Z0 K170.1) ) hZ (own_w hw 9 rfl) (own_w hw 8 rfl) (by decide) (by decide)) (g := (mkF m 140 #[.val (.long ua), .second, .val (.long ub), .second, .val (.long uc), .second, .val (.long ud), .second, .val (.long ue), .second, iv flg, .val (.long msk), .second, .val (.long va), .second, .val (.long vb), .second, .val (.long vc), .second, .val (.long vd), .second, .val (.long ve), .second, iv 5, rv bx170_rb, .val (.long (own_f2 (own_f2 (own_f2 va vb) vc) vd)), .second, .unset] [(.long ve), (.long (own_f2 (own_f2 (own_f2 va vb) vc) vd))])) rfl (by rw [hml]; rfl) (argsL := [(.long (own_f2 (own_f2 (own_f2 va vb) vc) vd)), (.long ve)]) (rest := []) (lenOf pd_0_3 rfl) rfl (own_wl rfl) (hb hby at_140) (fun _ _ => ⟨rfl, e176, (by decide : 1 + 0 ≤ _), (by decide : 5 + 0 ≤ _)⟩)
    dsimp only [Pt.U, Pt.locs, Pt.cells, Pt.slots] at X178 l178 y178 z178 st178 hQ178
    subst y178 z178
    obtain ⟨rfl, N178q, e178⟩ := hQ178
    have N178 : Fr n0 L178 := by rw [l178]; exact Fr.app N176 N178q
    refine own_step st178 ?_
    refine own_step (fun t k => XS.lstore X178.here hx rfl (hb hby at_143) rfl (l' := #[.val (.long ua), .second, .val (.long ub), .second, .val (.long uc), .second, .val (.long ud), .second, .val (.long ue), .second, iv flg, .val (.long msk), .second, .val (.long va), .second, .val (.long vb), .second, .val (.long vc), .second, .val (.long vd), .second, .val (.long ve), .second, iv 5, rv bx170_rb, .val (.long (own_f2 (own_f2 (own_f2 (own_f2 va vb) vc) vd) ve)), .second, .unset]) rfl k) ?_
    rcases own_f5z_n5 va vb vc vd ve with hpk | hpk
    · skip
      show own_G p.tables e below _ (T178.setTop (mkF m 145 #[.val (.long ua), .second, .val (.long ub), .second, .val (.long uc), .second, .val (.long ud), .second, .val (.long ue), .second, iv flg, .val (.long msk), .second, .val (.long va), .second, .val (.long vb), .second, .val (.long vc), .second, .val (.long vd), .second, .val (.long ve), .second, iv 5, rv bx170_rb, .val (.long (own_f2 (own_f2 (own_f2 (own_f2 va vb) vc) vd) ve)), .second, .unset] []))
      obtain ⟨T179, h179, X179, e179, E179, A179, D179, -, st179⟩ := newO X178 hx hZ hown (own_w hw 10 rfl) (own_w hw 11 rfl) (own_w hw 12 rfl) e178 (g := (mkF m 145 #[.val (.long ua), .second, .val (.long ub), .second, .val (.long uc), .second, .val (.long ud), .second, .val (.long ue), .second, iv flg, .val (.long msk), .second, .val (.long va), .second, .val (.long vb), .second, .val (.long vc), .second, .val (.long vd), .second, .val (.long ve), .second, iv 5, rv bx170_rb, .val (.long (own_f2 (own_f2 (own_f2 (own_f2 va vb) vc) vd) ve)), .second, .unset] [])) rfl (hb hby at_145) (by decide) (by decide)
      obtain ⟨b179, g179⟩ : ∃ z, z = T170.heap.size := ⟨_, rfl⟩
      have ne180 : bx170_rb ≠ b179 := Nat.ne_of_lt (Nat.lt_of_lt_of_le w170_0.lt (Nat.le_of_eq g179.symm))
      have sz179 : h0.size ≤ b179 := Nat.le_trans K170.1 (Nat.le_of_eq g179.symm)
      have ge179 : n0 ≤ b179 := Nat.le_trans Z0 sz179
      have c181 : own_Arj Z h179 bx170_rb [va, vb, vc, vd, ve] := w170_0.ext E179
      have K179 : Keep h0 h179 [] := K170.ext E179
      rw [← g179] at A179 D179 st179
      have c182 : Fld Z h179 b179 own_C "end" "I" (.int 0) := D179 (Or.inl (own_w hw 20 rfl)) (ty := .int) (by decide)
      have c183 : Fld Z h179 b179 own_C "keys" "[J" .null := D179 (Or.inl (own_w hw 22 rfl)) (ty := (.array .long)) (by decide)
      have c184 : Fld Z h179 b179 own_C "nodes" "[I" .null := D179 (Or.inl (own_w hw 46 rfl)) (ty := (.array .int)) (by decide)
      refine own_step st179 ?_
      refine own_step (fun t k => XS.dup X179.here hx rfl (hb hby at_148) rfl rfl k) ?_
      refine own_step (fun t k => XS.aload X179.here hx rfl (hb hby at_149) rfl rfl k) ?_
      obtain ⟨_, _, ⟨T185, L185, k185, n185⟩, -, X185, ⟨Lc185, hQ185, l185, y185, z185⟩, st185⟩ := X179.specialBack hx (y := own_y3) rfl hown (mvT hZ (own_w hw 13 rfl)) (mvT hZ (own_w hw 14 rfl)) (mvT hZ (own_w hw 15 rfl)) (by decide) (backOf (W := 1) (rm3_p5 l Z a0 hw [] b179 bx170_rb va vb vc vd ve h179 n0 (Nat.le_trans Z0 K179.1) A179 c182 c183 c184 c181 (hpk : own_f5_n5 va vb vc vd ve = 1) (own_nn hd_va hd_msk : 0 ≤ va.toInt) (own_nn hd_vb hd_msk : 0 ≤ vb.toInt) (own_nn hd_vc hd_msk : 0 ≤ vc.toInt) (own_nn hd_vd hd_msk : 0 ≤ vd.toInt) (own_nn hd_ve hd_msk : 0 ≤ ve.toInt) ge179 ne180) hZ (own_w hw 15 rfl) (own_w hw 12 rfl) (by decide) (by decide)) (g := (mkF m 151 #[.val (.long ua), .second, .val (.long ub), .second, .val (.long uc), .second, .val (.long ud), .second, .val (.long ue), .second, iv flg, .val (.long msk), .second, .val (.long va), .second, .val (.long vb), .second, .val (.long vc), .second, .val (.long vd), .second, .val (.long ve), .second, iv 5, rv bx170_rb, .val (.long (own_f2 (own_f2 (own_f2 (own_f2 va vb) vc) vd) ve)), .second, .unset] [(.ref bx170_rb), (.ref b179), (.ref b179)])) rfl (by rw [hml]; rfl) (Steps.refl _) (a := b179) (argsL := [(.ref bx170_rb)]) (rest := [(.ref b179)]) (lenOf pd_0_1 rfl) rfl (own_wl rfl) (hb hby at_151) (fun _ _ => ⟨rfl, e179, (by decide : 2 + 1 ≤ _), (by decide : 8 + 11 ≤ _)⟩)
      dsimp only [Pt.U, Pt.locs, Pt.cells, Pt.slots] at X185 l185 y185 z185 st185 hQ185
      subst y185 z185
      obtain ⟨bx185_x1, bx185_L_x1, rfl, N185q, K185q, w185_0, w185_1, w185_2, w185_3, sx185_0, pr185_0⟩ := hQ185
      have c186 : own_Arj Z T185.heap bx170_rb [va, vb, vc, vd, ve] := c181.keep K185q (ninS ne180 nin0)
      have c187 : Exa Z T185.heap b179 own_C := A179.keep K185q
      have sz185_0 : h0.size ≤ bx185_x1 := Nat.le_trans K179.1 sx185_0
      have ge185_0 : n0 ≤ bx185_x1 := Nat.le_trans Z0 sz185_0
      have ne191 : bx170_rb ≠ bx185_x1 := Nat.ne_of_lt (Nat.lt_of_lt_of_le c181.lt sx185_0)
      have ne192 : b179 ≠ bx185_x1 := Nat.ne_of_lt (Nat.lt_of_lt_of_le A179.lt sx185_0)
      have K185 : Keep h0 T185.heap [] := K179.trans K185q (allS (Or.inr sz179) all0)
      have N185 : Fr n0 L185 := by rw [l185]; exact Fr.app N178 N185q
      refine own_step (fun t k => st185.trans k) ?_
      refine own_step (fun t k => XS.astore X185.here hx rfl (hb hby at_154) rfl rfl (l' := #[.val (.long ua), .second, .val (.long ub), .second, .val (.long uc), .second, .val (.long ud), .second, .val (.long ue), .second, iv flg, .val (.long msk), .second, .val (.long va), .second, .val (.long vb), .second, .val (.long vc), .second, .val (.long vd), .second, .val (.long ve), .second, iv 5, rv bx170_rb, .val (.long (own_f2 (own_f2 (own_f2 (own_f2 va vb) vc) vd) ve)), .second, rv b179]) rfl k) ?_
      refine own_step (fun t k => XS.aload X185.here hx rfl (hb hby at_156) rfl rfl k) ?_
      obtain ⟨cq193, kq193, q193a, q193b, q193c⟩ := isOf hZ rfl c187
      obtain ⟨_, _, ⟨T193, L193, k193, n193⟩, -, X193, ⟨Lc193, hQ193, l193, y193, z193⟩, st193⟩ := X185.virtualBack hx (y := own_y15) (z := own_y15) hown (mvT hZ (own_w hw 62 rfl)) (mvT hZ (own_w hw 63 rfl)) (notFace_of_selects (args := #[]) (mvT hZ (own_w hw 65 rfl))) (mvT hZ (own_w hw 65 rfl)) (mvT hZ (own_w hw 64 rfl)) (by decide) (backOf (W := 0) (rm15_p l Z a0 hw [] b179 bx185_x1 bx185_L_x1 T185.heap n0 (Nat.le_trans Z0 K185.1) w185_1 w185_2 w185_3 (own_b3 pr185_0.1 (by decide) : own_Inb (3 : Int32) bx185_L_x1.length)) hZ (own_w hw 66 rfl) (own_w hw 12 rfl) (by decide) (by decide)) q193a q193c (g := (mkF m 158 #[.val (.long ua), .second, .val (.long ub), .second, .val (.long uc), .second, .val (.long ud), .second, .val (.long ue), .second, iv flg, .val (.long msk), .second, .val (.long va), .second, .val (.long vb), .second, .val (.long vc), .second, .val (.long vd), .second, .val (.long ve), .second, iv 5, rv bx170_rb, .val (.long (own_f2 (own_f2 (own_f2 (own_f2 va vb) vc) vd) ve)), .second, rv b179] [(.ref b179)])) rfl (by rw [hml]; rfl) (Steps.refl _) (argsL := []) (rest := []) (lenOf pd_0_2 rfl) rfl (own_wl rfl) (hb hby at_158) (fun _ _ => ⟨rfl, rfl, (by decide : 3 + 0 ≤ _), (by decide : 19 + 0 ≤ _)⟩)
      dsimp only [Pt.U, Pt.locs, Pt.cells, Pt.slots] at X193 l193 y193 z193 st193 hQ193
      subst y193 z193
      obtain ⟨rfl, N193q, e193⟩ := hQ193
      have N193 : Fr n0 L193 := by rw [l193]; exact Fr.app N185 N193q
      refine own_step (fun t k => st193.trans k) ?_
      clear A179 D179 E179 K170 K179 K185q N176 N178 N178q N185 N185q N193q X176 X178 X179 X185 c181 c182 c183 c184 e176 e178 e179 g179 q193a q193b q193c st178 st179 st185 st193 sx185_0 w170_0
      show own_G p.tables e below _ (T193.setTop (mkF m 161 #[.val (.long ua), .second, .val (.long ub), .second, .val (.long uc), .second, .val (.long ud), .second, .val (.long ue), .second, iv flg, .val (.long msk), .second, .val (.long va), .second, .val (.long vb), .second, .val (.long vc), .second, .val (.long vd), .second, .val (.long ve), .second, iv 5, rv bx170_rb, .val (.long (own_f2 (own_f2 (own_f2 (own_f2 va vb) vc) vd) ve)), .second, rv b179] [(.long (own_ush (bx185_L_x1.getD 3 0)))]))
      refine own_lx X193.here hx rfl (hb hby at_161) rfl ?_
      refine own_step (fun t k => XS.lcmp X193.here hx rfl (hb hby at_163) rfl k) ?_
      have hk194 : (own_ush (bx185_L_x1.getD 3 0)) = (own_f2 (own_f2 (own_f2 (own_f2 va vb) vc) vd) ve) := Int64.toInt_inj.mp (pr185_0.2.trans (by simp only [own_f2_int]))
      refine own_step (fun t k => XS.ifNo X193.here hx rfl (hb hby at_164) rfl ((if0 _ _).trans (teq ((lw_eq _ _).mpr hk194)).2) k) ?_
      show own_G p.tables e below _ (T193.setTop (mkF m 167 #[.val (.long ua), .second, .val (.long ub), .second, .val (.long uc), .second, .val (.long ud), .second, .val (.long ue), .second, iv flg, .val (.long msk), .second, .val (.long va), .second, .val (.long vb), .second, .val (.long vc), .second, .val (.long vd), .second, .val (.long ve), .second, iv 5, rv bx170_rb, .val (.long (own_f2 (own_f2 (own_f2 (own_f2 va vb) vc) vd) ve)), .second, rv b179] []))
      refine own_ic X193.here hx rfl (hb hby at_167) ?_
      refine own_go X193.here hx rfl (pc0 := 168) (pc' := 172) rfl (hb hby at_168) (by decide) (by decide) ?_
      obtain ⟨fs, hr, hrun, hended, hW, hsame⟩ := X193.leave (v := some (.int (1 : Int32))) (fun h => by rw [Bd.returns] at h; cases h)
      refine own_done (retN X193 hx (t := .boolean) Bd.returns (by simp) (hb hby at_172) hr) hrun hended ⟨_, _, rfl, ?_, ⟨_, rfl⟩, hW, hsame.mono (by decide) (by decide)⟩
      show Q0 Z ua ub uc ud ue flg h0 n0 _ T193.heap _
      rw [e193]
      exact ⟨rfl, N193⟩
    · skip
      show own_G p.tables e below _ (T178.setTop (mkF m 145 #[.val (.long ua), .second, .val (.long ub), .second, .val (.long uc), .second, .val (.long ud), .second, .val (.long ue), .second, iv flg, .val (.long msk), .second, .val (.long va), .second, .val (.long vb), .second, .val (.long vc), .second, .val (.long vd), .second, .val (.long ve), .second, iv 5, rv bx170_rb, .val (.long (own_f2 (own_f2 (own_f2 (own_f2 va vb) vc) vd) ve)), .second, .unset] []))
      obtain ⟨T195, h195, X195, e195, E195, A195, D195, -, st195⟩ := newO X178 hx hZ hown (own_w hw 10 rfl) (own_w hw 11 rfl) (own_w hw 12 rfl) e178 (g := (mkF m 145 #[.val (.long ua), .second, .val (.long ub), .second, .val (.long uc), .second, .val (.long ud), .second, .val (.long ue), .second, iv flg, .val (.long msk), .second, .val (.long va), .second, .val (.long vb), .second, .val (.long vc), .second, .val (.long vd), .second, .val (.long ve), .second, iv 5, rv bx170_rb, .val (.long (own_f2 (own_f2 (own_f2 (own_f2 va vb) vc) vd) ve)), .second, .unset] [])) rfl (hb hby at_145) (by decide) (by decide)
      obtain ⟨b195, g195⟩ : ∃ z, z = T170.heap.size := ⟨_, rfl⟩
      have ne196 : bx170_rb ≠ b195 := Nat.ne_of_lt (Nat.lt_of_lt_of_le w170_0.lt (Nat.le_of_eq g195.symm))
      have sz195 : h0.size ≤ b195 := Nat.le_trans K170.1 (Nat.le_of_eq g195.symm)
      have ge195 : n0 ≤ b195 := Nat.le_trans Z0 sz195
      have c197 : own_Arj Z h195 bx170_rb [va, vb, vc, vd, ve] := w170_0.ext E195
      have K195 : Keep h0 h195 [] := K170.ext E195
      rw [← g195] at A195 D195 st195
      have c198 : Fld Z h195 b195 own_C "end" "I" (.int 0) := D195 (Or.inl (own_w hw 20 rfl)) (ty := .int) (by decide)
      have c199 : Fld Z h195 b195 own_C "keys" "[J" .null := D195 (Or.inl (own_w hw 22 rfl)) (ty := (.array .long)) (by decide)
      have c200 : Fld Z h195 b195 own_C "nodes" "[I" .null := D195 (Or.inl (own_w hw 46 rfl)) (ty := (.array .int)) (by decide)
      refine own_step st195 ?_
      refine own_step (fun t k => XS.dup X195.here hx rfl (hb hby at_148) rfl rfl k) ?_
      refine own_step (fun t k => XS.aload X195.here hx rfl (hb hby at_149) rfl rfl k) ?_
      obtain ⟨_, _, ⟨T201, L201, k201, n201⟩, -, X201, ⟨Lc201, hQ201, l201, y201, z201⟩, st201⟩ := X195.specialBack hx (y := own_y3) rfl hown (mvT hZ (own_w hw 13 rfl)) (mvT hZ (own_w hw 14 rfl)) (mvT hZ (own_w hw 15 rfl)) (by decide) (backOf (W := 1) (rm3_u5 l Z a0 hw [] b195 bx170_rb va vb vc vd ve h195 n0 (Nat.le_trans Z0 K195.1) A195 c198 c199 c200 c197 (hpk : own_f5_n5 va vb vc vd ve = 0) ge195 ne196) hZ (own_w hw 15 rfl) (own_w hw 12 rfl) (by decide) (by decide)) (g := (mkF m 151 #[.val (.long ua), .second, .val (.long ub), .second, .val (.long uc), .second, .val (.long ud), .second, .val (.long ue), .second, iv flg, .val (.long msk), .second, .val (.long va), .second, .val (.long vb), .second, .val (.long vc), .second, .val (.long vd), .second, .val (.long ve), .second, iv 5, rv bx170_rb, .val (.long (own_f2 (own_f2 (own_f2 (own_f2 va vb) vc) vd) ve)), .second, .unset] [(.ref bx170_rb), (.ref b195), (.ref b195)])) rfl (by rw [hml]; rfl) (Steps.refl _) (a := b195) (argsL := [(.ref bx170_rb)]) (rest := [(.ref b195)]) (lenOf pd_0_1 rfl) rfl (own_wl rfl) (hb hby at_151) (fun _ _ => ⟨rfl, e195, (by decide : 2 + 2 ≤ _), (by decide : 8 + 22 ≤ _)⟩)
      dsimp only [Pt.U, Pt.locs, Pt.cells, Pt.slots] at X201 l201 y201 z201 st201 hQ201
      subst y201 z201
      obtain ⟨bx201_x1, bx201_x2, bx201_L_x1, bx201_L_x2, rfl, N201q, K201q, w201_0, w201_1, w201_2, w201_3, w201_4, sx201_0, sx201_1, xn201_0, pr201_0, pr201_1⟩ := hQ201
      have c202 : own_Arj Z T201.heap bx170_rb [va, vb, vc, vd, ve] := c197.keep K201q (ninS ne196 nin0)
      have c203 : Exa Z T201.heap b195 own_C := A195.keep K201q
      have sz201_0 : h0.size ≤ bx201_x1 := Nat.le_trans K195.1 sx201_0
      have ge201_0 : n0 ≤ bx201_x1 := Nat.le_trans Z0 sz201_0
      have ne207 : bx170_rb ≠ bx201_x1 := Nat.ne_of_lt (Nat.lt_of_lt_of_le c197.lt sx201_0)
      have ne208 : b195 ≠ bx201_x1 := Nat.ne_of_lt (Nat.lt_of_lt_of_le A195.lt sx201_0)
      have sz201_1 : h0.size ≤ bx201_x2 := Nat.le_trans K195.1 sx201_1
      have ge201_1 : n0 ≤ bx201_x2 := Nat.le_trans Z0 sz201_1
      have ne209 : bx170_rb ≠ bx201_x2 := Nat.ne_of_lt (Nat.lt_of_lt_of_le c197.lt sx201_1)
      have ne210 : b195 ≠ bx201_x2 := Nat.ne_of_lt (Nat.lt_of_lt_of_le A195.lt sx201_1)
      have K201 : Keep h0 T201.heap [] := K195.trans K201q (allS (Or.inr sz195) all0)
      have N201 : Fr n0 L201 := by rw [l201]; exact Fr.app N178 N201q
      refine own_step (fun t k => st201.trans k) ?_
      refine own_step (fun t k => XS.astore X201.here hx rfl (hb hby at_154) rfl rfl (l' := #[.val (.long ua), .second, .val (.long ub), .second, .val (.long uc), .second, .val (.long ud), .second, .val (.long ue), .second, iv flg, .val (.long msk), .second, .val (.long va), .second, .val (.long vb), .second, .val (.long vc), .second, .val (.long vd), .second, .val (.long ve), .second, iv 5, rv bx170_rb, .val (.long (own_f2 (own_f2 (own_f2 (own_f2 va vb) vc) vd) ve)), .second, rv b195]) rfl k) ?_
      refine own_step (fun t k => XS.aload X201.here hx rfl (hb hby at_156) rfl rfl k) ?_
      obtain ⟨cq211, kq211, q211a, q211b, q211c⟩ := isOf hZ rfl c203
      obtain ⟨_, _, ⟨T211, L211, k211, n211⟩, -, X211, ⟨Lc211, hQ211, l211, y211, z211⟩, st211⟩ := X201.virtualBack hx (y := own_y15) (z := own_y15) hown (mvT hZ (own_w hw 62 rfl)) (mvT hZ (own_w hw 63 rfl)) (notFace_of_selects (args := #[]) (mvT hZ (own_w hw 65 rfl))) (mvT hZ (own_w hw 65 rfl)) (mvT hZ (own_w hw 64 rfl)) (by decide) (backOf (W := 0) (rm15_u l Z a0 hw [] b195 bx201_x1 bx201_x2 bx201_L_x1 T201.heap n0 (Nat.le_trans Z0 K201.1) w201_1 w201_2 w201_3 (own_b3 pr201_0.1 (by decide) : own_Inb (3 : Int32) bx201_L_x1.length)) hZ (own_w hw 66 rfl) (own_w hw 12 rfl) (by decide) (by decide)) q211a q211c (g := (mkF m 158 #[.val (.long ua), .second, .val (.long ub), .second, .val (.long uc), .second, .val (.long ud), .second, .val (.long ue), .second, iv flg, .val (.long msk), .second, .val (.long va), .second, .val (.long vb), .second, .val (.long vc), .second, .val (.long vd), .second, .val (.long ve), .second, iv 5, rv bx170_rb, .val (.long (own_f2 (own_f2 (own_f2 (own_f2 va vb) vc) vd) ve)), .second, rv b195] [(.ref b195)])) rfl (by rw [hml]; rfl) (Steps.refl _) (argsL := []) (rest := []) (lenOf pd_0_2 rfl) rfl (own_wl rfl) (hb hby at_158) (fun _ _ => ⟨rfl, rfl, (by decide : 4 + 0 ≤ _), (by decide : 30 + 0 ≤ _)⟩)
      dsimp only [Pt.U, Pt.locs, Pt.cells, Pt.slots] at X211 l211 y211 z211 st211 hQ211
      subst y211 z211
      obtain ⟨rfl, N211q, e211⟩ := hQ211
      have N211 : Fr n0 L211 := by rw [l211]; exact Fr.app N201 N211q
      refine own_step (fun t k => st211.trans k) ?_
      clear A195 D195 E195 K170 K195 K201q N176 N178 N178q N201 N201q N211q X176 X178 X195 X201 c197 c198 c199 c200 e176 e178 e195 g195 q211a q211b q211c st178 st195 st201 st211 sx201_0 sx201_1 w170_0
      show own_G p.tables e below _ (T211.setTop (mkF m 161 #[.val (.long ua), .second, .val (.long ub), .second, .val (.long uc), .second, .val (.long ud), .second, .val (.long ue), .second, iv flg, .val (.long msk), .second, .val (.long va), .second, .val (.long vb), .second, .val (.long vc), .second, .val (.long vd), .second, .val (.long ve), .second, iv 5, rv bx170_rb, .val (.long (own_f2 (own_f2 (own_f2 (own_f2 va vb) vc) vd) ve)), .second, rv b195] [(.long (bx201_L_x1.getD 3 0))]))
      refine own_lx X211.here hx rfl (hb hby at_161) rfl ?_
      refine own_step (fun t k => XS.lcmp X211.here hx rfl (hb hby at_163) rfl k) ?_
      have hk212 : (bx201_L_x1.getD 3 0) = (own_f2 (own_f2 (own_f2 (own_f2 va vb) vc) vd) ve) := Int64.toInt_inj.mp (pr201_0.2.trans (by simp only [own_f2_int]))
      refine own_step (fun t k => XS.ifNo X211.here hx rfl (hb hby at_164) rfl ((if0 _ _).trans (teq ((lw_eq _ _).mpr hk212)).2) k) ?_
      show own_G p.tables e below _ (T211.setTop (mkF m 167 #[.val (.long ua), .second, .val (.long ub), .second, .val (.long uc), .second, .val (.long ud), .second, .val (.long ue), .second, iv flg, .val (.long msk), .second, .val (.long va), .second, .val (.long vb), .second, .val (.long vc), .second, .val (.long vd), .second, .val (.long ve), .second, iv 5, rv bx170_rb, .val (.long (own_f2 (own_f2 (own_f2 (own_f2 va vb) vc) vd) ve)), .second, rv b195] []))
      refine own_ic X211.here hx rfl (hb hby at_167) ?_
      refine own_go X211.here hx rfl (pc0 := 168) (pc' := 172) rfl (hb hby at_168) (by decide) (by decide) ?_
      obtain ⟨fs, hr, hrun, hended, hW, hsame⟩ := X211.leave (v := some (.int (1 : Int32))) (fun h => by rw [Bd.returns] at h; cases h)
      refine own_done (retN X211 hx (t := .boolean) Bd.returns (by simp) (hb hby at_172) hr) hrun hended ⟨_, _, rfl, ?_, ⟨_, rfl⟩, hW, hsame.mono (by decide) (by decide)⟩
      show Q0 Z ua ub uc ud ue flg h0 n0 _ T211.heap _
      rw [e211]
      exact ⟨rfl, N211⟩
set_option maxRecDepth 65536 in
set_option maxHeartbeats 40000000 in
theorem comes_1 {Post : Tables → Env → Array Value → State → Outcome → State → Prop} (hpost : ∀ tb e args s v u, (limb_1_1.after args s (.returned v) u = true ∧ limb_1_2.after args s (.returned v) u = true ∧ True) → FrameEnd s (.returned v) u (Jvm.fieldLocs frame_1_writes args s ++ Jvm.arrayLocs frame_1_arrays args s ++ Jvm.staticLocs frame_1_statics s) 16 128 → Post tb e args s (.returned v) u) :
    ArmFor flags0 classFile x code maxLocals ret World_1 tables_1 room_1 Calls_1 rest_1 Pre_1 Post := by
  intro l hfl _ _ p e ha hc hk s m args below hf hA hF happ hP
  obtain ⟨hcalls, hrest, hpre⟩ := hP
  obtain ⟨-, -, -, hnamed, -, -, -, hat⟩ := (Spec.applies_iff hf).mp happ
  obtain ⟨hg, hn⟩ := and_e (Cond.before_iff.mp (show (Jvm.Cond.and given_1 narrow_1).before args s = true from hpre))
  obtain ⟨g1, g2⟩ := and_e hg
  obtain ⟨g3, g4⟩ := and_e g2
  obtain ⟨g5, g6⟩ := and_e g4
  obtain ⟨g7, g8⟩ := and_e g6
  obtain ⟨g9, g10⟩ := and_e g8
  obtain ⟨g11, g12⟩ := and_e g10
  obtain ⟨w0, w1, w2, w3, w4, w5, rfl⟩ : ∃ w0 w1 w2 w3 w4 w5 : Value, args = #[w0, w1, w2, w3, w4, w5] := by
    have hs : args.size = 6 := by simpa [Cond.value, given_1] using g1
    obtain ⟨L⟩ := args
    match L, hs with
    | [w0, w1, w2, w3, w4, w5], _ => exact ⟨w0, w1, w2, w3, w4, w5, rfl⟩
  have hw := fun d (hd : d ∈ tables_1) => atoms_spec (ws := Jvm.Cond.code x code maxLocals ret :: tables_1) hat d (List.mem_cons_of_mem _ hd)
  obtain ⟨i0, ei0⟩ := isL_v g3
  obtain rfl : w0 = (.long i0) := Option.some.inj ei0
  obtain ⟨i1, ei1⟩ := isL_v g5
  obtain rfl : w1 = (.long i1) := Option.some.inj ei1
  obtain ⟨i2, ei2⟩ := isL_v g7
  obtain rfl : w2 = (.long i2) := Option.some.inj ei2
  obtain ⟨i3, ei3⟩ := isL_v g9
  obtain rfl : w3 = (.long i3) := Option.some.inj ei3
  obtain ⟨i4, ei4⟩ := isL_v g11
  obtain rfl : w4 = (.long i4) := Option.some.inj ei4
  obtain ⟨i5, ei5⟩ := is_v g12
  obtain rfl : w5 = (.int i5) := Option.some.inj ei5
  obtain ⟨n, o, h1, h2, h3, _, L, rfl, ⟨rfl, N⟩, hq⟩ := rm0 l s _ hw tables_1 i0 i1 i2 i3 i4 i5 s.heap s.heap.size (Nat.le_refl _)  p e ha hc hk s m _ below hf ((Spec.applies_iff_loose hf).mp happ).1 ⟨rfl, State.Warmed39.refl s, rfl⟩ trivial
  refine ⟨n, _, h1, h2, h3, hpost _ _ _ _ _ _ ⟨Cond.after_iff.mpr rfl, Cond.after_iff.mpr (eq_i res_at (Term.int_eval (1)) rfl), trivial⟩ ⟨hq.1, hq.2.1, (hq.2.2.sift fun y hy => Or.inr (N y hy)).mono (by decide) (by decide)⟩⟩
theorem main_1_1 : Claimed_1_1 := comes_1 fun _ _ _ _ _ _ h hF => ⟨h.1, hF⟩
theorem main_1_2 : Claimed_1_2 := comes_1 fun _ _ _ _ _ _ h hF => ⟨h.2.1, hF⟩
end Jvm.Pilot.@@N@@
namespace Jvm.Pilot.@@N@@
open Jvm Jvm.ClassFile Sem Op Lib Jvm.Free Jvm.Stand Jvm.Pilot.@@N@@.Jvm.D
/-! MADE BY PROGRAM (witnessworld.py) out of the Statement's table words and the real class files: 15 classes; the members and pool entries that the words name. The judged class is class 1, her method 1. -/
namespace start1
open Jvm.ClassFile
def u (s : String) : CpInfo := .utf8 (stringToUtf16 s)
/-- a pool by its gaps: so many unusable entries, then the entry; so many at the end -/
def gap : Nat → List CpInfo → List CpInfo
  | 0, r => r
  | n + 1, r => .unusable :: gap n r
def poolList (es : List (Nat × CpInfo)) (last : Nat) : List CpInfo := es.foldr (fun e r => gap e.1 (e.2 :: r)) (gap last [])
def pool (es : List (Nat × CpInfo)) (last : Nat) : Array CpInfo := ⟨poolList es last⟩
def fileOf (pool : Array CpInfo) (this : Nat) (attrs : Array Attribute := #[]) (ms : Array MethodInfo := #[]) (fl : Nat := 33) (sup : Nat := 0) (ifs : Array Nat := #[]) (fds : Array FieldInfo := #[]) : ClassFile where
  minorVersion := 0
  majorVersion := 65
  constantPool := pool
  accessFlags := fl
  thisClass := this
  superClass := sup
  interfaces := ifs
  fields := fds
  methods := ms
  attributes := attrs
def plain (name : String) (sup : Option ClassId) : Class where
  name := name
  kind := .ordinary
  loader := none
  accessFlags := 33
  super := sup
  interfaces := #[]
  cf := none
  fields := #[]
  methods := #[]
  instanceTypes := #[]
  staticTypes := #[]
  resolved := #[]
  callSites := []
  init := .initialized
  statics := none
  mirror := none

def pool0 : Array CpInfo := pool [(5, u "<init>"), (0, u "()V"), (1, .class_ 10), (1, u "java/lang/Object")] 113

def k0c0 : Code := { maxStack := 0, maxLocals := 1, code := object_method_1_code, exceptionTable := #[], attributes := #[] }
def k0m0 : Method := { name := "<init>", desc := "()V", sig := { parameters := [], returnType := none }, accessFlags := 1, code := some k0c0 }
/-- java/lang/Object -/
def k0 : Class := { plain "java/lang/Object" none with
  accessFlags := 33
  interfaces := #[]
  cf := some (fileOf pool0 8 #[] #[{ accessFlags := 1, nameIndex := 5, descriptorIndex := 6, attributes := #[] }] 33 0 #[] #[])
  fields := #[]
  methods := #[k0m0]
  instanceTypes := #[]
  staticTypes := #[]
  resolved := Array.replicate 124 none
  statics := none }

def pool1 : Array CpInfo := pool [(2, .class_ 4), (1, u "java/lang/Object"), (0, u "<init>"), (0, u "()V"), (2, .long 9223372036854775807), (1, .long 4294967295), (1, .methodref 14 15), (0, .class_ 16), (0, .nameAndType 17 18), (0, u "com/example/leafcode/leafcode/FourWayHeapMinWeightPinLaw"), (0, u "build"), (0, u "(IJJJJJ)[J"), (0, .methodref 20 21), (0, .class_ 22), (0, .nameAndType 23 24), (0, u "java/lang/Math"), (0, u "min"), (0, u "(JJ)J"), (0, .class_ 26), (0, u "com/example/leafcode/leafcode/FourWayHeap"), (0, .methodref 25 28), (0, .nameAndType 5 29), (0, u "([J)V"), (0, .methodref 25 31), (0, .nameAndType 32 33), (0, u "minWeight"), (0, u "()J"), (2, u "law"), (0, u "(JJJJJI)Z")] 5

def k1m0 : Method := { name := "<init>", desc := "()V", sig := { parameters := [], returnType := none }, accessFlags := 1, code := none }
def k1c1 : Code := { maxStack := 11, maxLocals := 28, code := code, exceptionTable := #[], attributes := #[] }
def k1m1 : Method := { name := "law", desc := "(JJJJJI)Z", sig := { parameters := [.long, .long, .long, .long, .long, .int], returnType := some .boolean }, accessFlags := 9, code := some k1c1 }
def k1c2 : Code := { maxStack := 5, maxLocals := 11, code := method_3_code, exceptionTable := #[], attributes := #[] }
def k1m2 : Method := { name := "build", desc := "(IJJJJJ)[J", sig := { parameters := [.int, .long, .long, .long, .long, .long], returnType := some (.array .long) }, accessFlags := 10, code := some k1c2 }
/-- com/example/leafcode/leafcode/FourWayHeapMinWeightPinLaw -/
def k1 : Class := { plain "com/example/leafcode/leafcode/FourWayHeapMinWeightPinLaw" (some 0) with
  accessFlags := 49
  interfaces := #[]
  cf := some (fileOf pool1 14 #[] #[{ accessFlags := 1, nameIndex := 5, descriptorIndex := 6, attributes := #[] }, { accessFlags := 9, nameIndex := 36, descriptorIndex := 37, attributes := #[] }, { accessFlags := 10, nameIndex := 17, descriptorIndex := 18, attributes := #[] }] 49 2 #[] #[])
  fields := #[]
  methods := #[k1m0, k1m1, k1m2]
  instanceTypes := #[]
  staticTypes := #[]
  resolved := Array.replicate 43 none
  statics := none }

def pool2 : Array CpInfo := pool [(1, .class_ 2), (0, u "java/lang/Math"), (1, .class_ 6), (1, u "java/lang/Object"), (0, u "<init>"), (0, u "()V"), (89, .class_ 100), (1, u "java/lang/Math$RandomNumberGeneratorHolder"), (20, u "(JJ)J"), (50, u "negativeZeroFloatBits"), (0, u "J"), (2, u "negativeZeroDoubleBits"), (24, u "min"), (43, u "$assertionsDisabled"), (0, u "Z"), (88, u "(II)I"), (2, u "twoToTheDoubleScaleDown"), (0, u "D"), (4, u "twoToTheDoubleScaleUp"), (9, u "E"), (3, u "PI"), (2, u "TAU"), (2, u "DEGREES_TO_RADIANS"), (0, u "RADIANS_TO_DEGREES")] 94

def k2m0 : Method := { name := "<init>", desc := "()V", sig := { parameters := [], returnType := none }, accessFlags := 2, code := none }
def k2c1 : Code := { maxStack := 2, maxLocals := 2, code := jdk_29_method_69_code, exceptionTable := #[], attributes := #[] }
def k2m1 : Method := { name := "min", desc := "(II)I", sig := { parameters := [.int, .int], returnType := some .int }, accessFlags := 9, code := some k2c1 }
def k2c2 : Code := { maxStack := 4, maxLocals := 4, code := jdk_29_method_70_code, exceptionTable := #[], attributes := #[] }
def k2m2 : Method := { name := "min", desc := "(JJ)J", sig := { parameters := [.long, .long], returnType := some .long }, accessFlags := 9, code := some k2c2 }
/-- java/lang/Math -/
def k2 : Class := { plain "java/lang/Math" (some 0) with
  accessFlags := 49
  interfaces := #[]
  cf := some (fileOf pool2 1 #[.nestMembers #[98]] #[{ accessFlags := 2, nameIndex := 7, descriptorIndex := 8, attributes := #[] }, { accessFlags := 9, nameIndex := 201, descriptorIndex := 335, attributes := #[] }, { accessFlags := 9, nameIndex := 201, descriptorIndex := 121, attributes := #[] }] 49 4 #[] #[{ accessFlags := 25, nameIndex := 354, descriptorIndex := 339, attributes := #[] }, { accessFlags := 25, nameIndex := 358, descriptorIndex := 339, attributes := #[] }, { accessFlags := 25, nameIndex := 361, descriptorIndex := 339, attributes := #[] }, { accessFlags := 26, nameIndex := 364, descriptorIndex := 339, attributes := #[] }, { accessFlags := 26, nameIndex := 365, descriptorIndex := 339, attributes := #[] }, { accessFlags := 26, nameIndex := 172, descriptorIndex := 173, attributes := #[] }, { accessFlags := 26, nameIndex := 176, descriptorIndex := 173, attributes := #[] }, { accessFlags := 8, nameIndex := 344, descriptorIndex := 339, attributes := #[] }, { accessFlags := 8, nameIndex := 338, descriptorIndex := 339, attributes := #[] }, { accessFlags := 4120, nameIndex := 245, descriptorIndex := 246, attributes := #[] }])
  fields := #[{ name := "E", type := .double, accessFlags := 25, slot := 0, constantValue := 0 }, { name := "PI", type := .double, accessFlags := 25, slot := 1, constantValue := 0 }, { name := "TAU", type := .double, accessFlags := 25, slot := 2, constantValue := 0 }, { name := "DEGREES_TO_RADIANS", type := .double, accessFlags := 26, slot := 3, constantValue := 0 }, { name := "RADIANS_TO_DEGREES", type := .double, accessFlags := 26, slot := 4, constantValue := 0 }, { name := "negativeZeroFloatBits", type := .long, accessFlags := 26, slot := 5, constantValue := 0 }, { name := "negativeZeroDoubleBits", type := .long, accessFlags := 26, slot := 6, constantValue := 0 }, { name := "twoToTheDoubleScaleUp", type := .double, accessFlags := 8, slot := 7, constantValue := 0 }, { name := "twoToTheDoubleScaleDown", type := .double, accessFlags := 8, slot := 8, constantValue := 0 }, { name := "$assertionsDisabled", type := .boolean, accessFlags := 4120, slot := 9, constantValue := 0 }]
  methods := #[k2m0, k2m1, k2m2]
  instanceTypes := #[]
  staticTypes := #[.double, .double, .double, .double, .double, .long, .long, .double, .double, .boolean]
  resolved := Array.replicate 460 none
  statics := none }

def pool3 : Array CpInfo := pool [(1, .class_ 2), (0, u "com/example/leafcode/leafcode/NodeQueue"), (0, .class_ 4), (0, u "java/lang/Object"), (6, u "precedes"), (0, u "(JIJI)Z")] 5

def k3c0 : Code := { maxStack := 4, maxLocals := 6, code := prog_35_method_4_code, exceptionTable := #[], attributes := #[] }
def k3m0 : Method := { name := "precedes", desc := "(JIJI)Z", sig := { parameters := [.long, .int, .long, .int], returnType := some .boolean }, accessFlags := 9, code := some k3c0 }
/-- com/example/leafcode/leafcode/NodeQueue -/
def k3 : Class := { plain "com/example/leafcode/leafcode/NodeQueue" (some 0) with
  accessFlags := 1536
  interfaces := #[]
  cf := some (fileOf pool3 1 #[] #[{ accessFlags := 9, nameIndex := 11, descriptorIndex := 12, attributes := #[] }] 1536 3 #[] #[])
  fields := #[]
  methods := #[k3m0]
  instanceTypes := #[]
  staticTypes := #[]
  resolved := Array.replicate 18 none
  statics := none }

def pool4 : Array CpInfo := pool [(1, .class_ 2), (0, u "com/example/leafcode/leafcode/FourWayHeap"), (2, .methodref 6 7), (0, .class_ 8), (0, .nameAndType 9 10), (0, u "java/lang/Object"), (0, u "<init>"), (0, u "()V"), (0, .fieldref 1 12), (0, .nameAndType 13 14), (0, u "end"), (0, u "I"), (0, .fieldref 1 16), (0, .nameAndType 17 18), (0, u "keys"), (0, u "[J"), (0, .methodref 1 20), (0, .nameAndType 21 22), (0, u "packable"), (0, u "([J)Z"), (0, .methodref 1 24), (0, .nameAndType 25 26), (0, u "pack"), (0, u "(JI)J"), (0, .long 9223372036854775807), (1, .methodref 30 31), (0, .class_ 32), (0, .nameAndType 33 34), (0, u "java/util/Arrays"), (0, u "fill"), (0, u "([JIIJ)V"), (0, .fieldref 1 36), (0, .nameAndType 37 38), (0, u "nodes"), (0, u "[I"), (0, .methodref 40 41), (0, .class_ 42), (0, .nameAndType 43 44), (0, u "java/lang/System"), (0, u "arraycopy"), (0, u "(Ljava/lang/Object;ILjava/lang/Object;II)V"), (0, .methodref 1 46), (0, .nameAndType 47 48), (0, u "parent"), (0, u "(I)I"), (0, .methodref 1 50), (0, .nameAndType 51 52), (0, u "move"), (0, u "(II)V"), (0, .methodref 1 54), (0, .nameAndType 33 55), (0, u "(I)V"), (0, .long 4294967294), (9, .methodref 1 67), (0, .nameAndType 68 48), (0, u "firstChild"), (0, .methodref 1 70), (0, .nameAndType 71 48), (0, u "leastChild"), (0, .methodref 1 73), (0, .nameAndType 74 75), (0, u "precedes"), (0, u "(II)Z"), (0, .methodref 77 78), (0, .class_ 79), (0, .nameAndType 80 81), (0, u "java/lang/Math"), (0, u "min"), (0, u "(II)I"), (0, .interfaceMethodref 83 84), (0, .class_ 85), (0, .nameAndType 74 86), (0, u "com/example/leafcode/leafcode/NodeQueue"), (0, u "(JIJI)Z"), (0, u "ROOT"), (2, u "ARITY"), (1, u "INCOMING"), (1, u "NODE_BITS"), (1, u "NODE_MASK"), (0, u "J"), (0, u "MAX_PACKED_WEIGHT"), (0, u "PAST_END"), (0, u "([J)V"), (4, u "minWeight"), (0, u "()J")] 6

def k4c0 : Code := { maxStack := 5, maxLocals := 4, code := prog_20_method_1_code, exceptionTable := #[], attributes := #[] }
def k4m0 : Method := { name := "<init>", desc := "([J)V", sig := { parameters := [(.array .long)], returnType := none }, accessFlags := 0, code := some k4c0 }
def k4c1 : Code := { maxStack := 4, maxLocals := 6, code := prog_20_method_2_code, exceptionTable := #[], attributes := #[] }
def k4m1 : Method := { name := "packable", desc := "([J)Z", sig := { parameters := [(.array .long)], returnType := some .boolean }, accessFlags := 10, code := some k4c1 }
def k4c2 : Code := { maxStack := 4, maxLocals := 3, code := prog_20_method_3_code, exceptionTable := #[], attributes := #[] }
def k4m2 : Method := { name := "pack", desc := "(JI)J", sig := { parameters := [.long, .int], returnType := some .long }, accessFlags := 10, code := some k4c2 }
def k4c3 : Code := { maxStack := 2, maxLocals := 1, code := prog_20_method_4_code, exceptionTable := #[], attributes := #[] }
def k4m3 : Method := { name := "parent", desc := "(I)I", sig := { parameters := [.int], returnType := some .int }, accessFlags := 10, code := some k4c3 }
def k4c4 : Code := { maxStack := 2, maxLocals := 1, code := prog_20_method_5_code, exceptionTable := #[], attributes := #[] }
def k4m4 : Method := { name := "firstChild", desc := "(I)I", sig := { parameters := [.int], returnType := some .int }, accessFlags := 10, code := some k4c4 }
def k4c5 : Code := { maxStack := 3, maxLocals := 1, code := prog_20_method_6_code, exceptionTable := #[], attributes := #[] }
def k4m5 : Method := { name := "minWeight", desc := "()J", sig := { parameters := [], returnType := some .long }, accessFlags := 1, code := some k4c5 }
def k4c6 : Code := { maxStack := 3, maxLocals := 5, code := prog_20_method_11_code, exceptionTable := #[], attributes := #[] }
def k4m6 : Method := { name := "fill", desc := "(I)V", sig := { parameters := [.int], returnType := none }, accessFlags := 2, code := some k4c6 }
def k4c7 : Code := { maxStack := 6, maxLocals := 25, code := prog_20_method_12_code, exceptionTable := #[], attributes := #[] }
def k4m7 : Method := { name := "leastChild", desc := "(I)I", sig := { parameters := [.int], returnType := some .int }, accessFlags := 2, code := some k4c7 }
def k4c8 : Code := { maxStack := 7, maxLocals := 3, code := prog_20_method_13_code, exceptionTable := #[], attributes := #[] }
def k4m8 : Method := { name := "precedes", desc := "(II)Z", sig := { parameters := [.int, .int], returnType := some .boolean }, accessFlags := 2, code := some k4c8 }
def k4c9 : Code := { maxStack := 4, maxLocals := 3, code := prog_20_method_14_code, exceptionTable := #[], attributes := #[] }
def k4m9 : Method := { name := "move", desc := "(II)V", sig := { parameters := [.int, .int], returnType := none }, accessFlags := 2, code := some k4c9 }
/-- com/example/leafcode/leafcode/FourWayHeap -/
def k4 : Class := { plain "com/example/leafcode/leafcode/FourWayHeap" (some 0) with
  accessFlags := 48
  interfaces := #[3]
  cf := some (fileOf pool4 1 #[] #[{ accessFlags := 0, nameIndex := 9, descriptorIndex := 100, attributes := #[] }, { accessFlags := 10, nameIndex := 21, descriptorIndex := 22, attributes := #[] }, { accessFlags := 10, nameIndex := 25, descriptorIndex := 26, attributes := #[] }, { accessFlags := 10, nameIndex := 47, descriptorIndex := 48, attributes := #[] }, { accessFlags := 10, nameIndex := 68, descriptorIndex := 48, attributes := #[] }, { accessFlags := 1, nameIndex := 105, descriptorIndex := 106, attributes := #[] }, { accessFlags := 2, nameIndex := 33, descriptorIndex := 55, attributes := #[] }, { accessFlags := 2, nameIndex := 71, descriptorIndex := 48, attributes := #[] }, { accessFlags := 2, nameIndex := 74, descriptorIndex := 75, attributes := #[] }, { accessFlags := 2, nameIndex := 51, descriptorIndex := 52, attributes := #[] }] 48 6 #[83] #[{ accessFlags := 26, nameIndex := 87, descriptorIndex := 14, attributes := #[] }, { accessFlags := 26, nameIndex := 90, descriptorIndex := 14, attributes := #[] }, { accessFlags := 26, nameIndex := 92, descriptorIndex := 14, attributes := #[] }, { accessFlags := 26, nameIndex := 94, descriptorIndex := 14, attributes := #[] }, { accessFlags := 26, nameIndex := 96, descriptorIndex := 97, attributes := #[] }, { accessFlags := 26, nameIndex := 98, descriptorIndex := 97, attributes := #[] }, { accessFlags := 26, nameIndex := 99, descriptorIndex := 97, attributes := #[] }, { accessFlags := 2, nameIndex := 17, descriptorIndex := 18, attributes := #[] }, { accessFlags := 2, nameIndex := 37, descriptorIndex := 38, attributes := #[] }, { accessFlags := 2, nameIndex := 13, descriptorIndex := 14, attributes := #[] }])
  fields := #[{ name := "ROOT", type := .int, accessFlags := 26, slot := 0, constantValue := 0 }, { name := "ARITY", type := .int, accessFlags := 26, slot := 1, constantValue := 0 }, { name := "INCOMING", type := .int, accessFlags := 26, slot := 2, constantValue := 0 }, { name := "NODE_BITS", type := .int, accessFlags := 26, slot := 3, constantValue := 0 }, { name := "NODE_MASK", type := .long, accessFlags := 26, slot := 4, constantValue := 0 }, { name := "MAX_PACKED_WEIGHT", type := .long, accessFlags := 26, slot := 5, constantValue := 0 }, { name := "PAST_END", type := .long, accessFlags := 26, slot := 6, constantValue := 0 }, { name := "keys", type := (.array .long), accessFlags := 2, slot := 0, constantValue := 0 }, { name := "nodes", type := (.array .int), accessFlags := 2, slot := 1, constantValue := 0 }, { name := "end", type := .int, accessFlags := 2, slot := 2, constantValue := 0 }]
  methods := #[k4m0, k4m1, k4m2, k4m3, k4m4, k4m5, k4m6, k4m7, k4m8, k4m9]
  instanceTypes := #[(.array .long), (.array .int), .int]
  staticTypes := #[.int, .int, .int, .int, .long, .long, .long]
  resolved := Array.replicate 113 none
  statics := none }

def pool5 : Array CpInfo := pool [(2, .class_ 4), (1, u "java/lang/Object"), (0, u "<init>"), (0, u "()V"), (6, .methodref 14 15), (0, .class_ 16), (0, .nameAndType 17 18), (0, u "java/util/Arrays"), (0, u "rangeCheck"), (0, u "(III)V"), (55, .class_ 76), (1, u "java/util/Arrays$NaturalOrder"), (36, .class_ 115), (1, u "java/util/Arrays$LegacyMergeSort"), (1, u "Z"), (257, .class_ 376), (0, u "java/util/Arrays$ArrayList"), (68, u "$assertionsDisabled"), (269, u "MIN_ARRAY_SORT_GRAN"), (0, u "I"), (2, u "INSERTIONSORT_THRESHOLD"), (120, u "fill"), (3, u "([JIIJ)V"), (130, .class_ 976), (0, u "java/util/Arrays$ArrayItr")] 52

def k5m0 : Method := { name := "<init>", desc := "()V", sig := { parameters := [], returnType := none }, accessFlags := 2, code := none }
def k5c1 : Code := { maxStack := 4, maxLocals := 3, code := jdk_65_method_30_code, exceptionTable := #[], attributes := #[] }
def k5m1 : Method := { name := "rangeCheck", desc := "(III)V", sig := { parameters := [.int, .int, .int], returnType := none }, accessFlags := 8, code := some k5c1 }
def k5c2 : Code := { maxStack := 4, maxLocals := 6, code := jdk_65_method_102_code, exceptionTable := #[], attributes := #[] }
def k5m2 : Method := { name := "fill", desc := "([JIIJ)V", sig := { parameters := [(.array .long), .int, .int, .long], returnType := none }, accessFlags := 9, code := some k5c2 }
/-- java/util/Arrays -/
def k5 : Class := { plain "java/util/Arrays" (some 0) with
  accessFlags := 49
  interfaces := #[]
  cf := some (fileOf pool5 14 #[.nestMembers #[975, 375, 113, 74]] #[{ accessFlags := 2, nameIndex := 5, descriptorIndex := 6, attributes := #[] }, { accessFlags := 8, nameIndex := 17, descriptorIndex := 18, attributes := #[] }, { accessFlags := 9, nameIndex := 840, descriptorIndex := 844, attributes := #[] }] 49 2 #[] #[{ accessFlags := 26, nameIndex := 715, descriptorIndex := 716, attributes := #[] }, { accessFlags := 26, nameIndex := 719, descriptorIndex := 716, attributes := #[] }, { accessFlags := 4120, nameIndex := 445, descriptorIndex := 117, attributes := #[] }])
  fields := #[{ name := "MIN_ARRAY_SORT_GRAN", type := .int, accessFlags := 26, slot := 0, constantValue := 0 }, { name := "INSERTIONSORT_THRESHOLD", type := .int, accessFlags := 26, slot := 1, constantValue := 0 }, { name := "$assertionsDisabled", type := .boolean, accessFlags := 4120, slot := 2, constantValue := 0 }]
  methods := #[k5m0, k5m1, k5m2]
  instanceTypes := #[]
  staticTypes := #[.int, .int, .boolean]
  resolved := Array.replicate 1029 none
  statics := none }

def pool6 : Array CpInfo := pool [(2, .class_ 4), (1, u "java/lang/Object"), (0, u "<init>"), (0, u "()V"), (1, .class_ 10), (1, u "java/lang/System"), (0, u "allowSecurityManager"), (0, u "I"), (16, u "cons"), (0, u "Ljava/io/Console;"), (77, .class_ 110), (1, u "java/lang/System$CallersHolder"), (43, u "initialErrStream"), (0, u "Ljava/io/PrintStream;"), (19, u "security"), (0, u "Ljava/lang/SecurityManager;"), (31, .class_ 209), (0, u "java/lang/System$1"), (7, u "props"), (0, u "Ljava/util/Properties;"), (2, u "lineSeparator"), (0, u "Ljava/lang/String;"), (96, .class_ 321), (1, u "java/lang/System$LoggerFinder"), (5, .class_ 328), (0, u "java/lang/System$Logger"), (67, u "err"), (2, u "out"), (91, u "notSupportedJnuEncoding"), (15, u "in"), (17, u "initialIn"), (0, u "Ljava/io/InputStream;"), (35, u "bootLayer"), (0, u "Ljava/lang/ModuleLayer;"), (99, .class_ 664), (0, u "java/lang/System$2"), (9, u "NEVER"), (2, u "MAYBE"), (49, u "arraycopy"), (0, u "(Ljava/lang/Object;ILjava/lang/Object;II)V"), (72, .class_ 802), (0, u "java/lang/System$Logger$Level")] 31

def k6m0 : Method := { name := "<init>", desc := "()V", sig := { parameters := [], returnType := none }, accessFlags := 2, code := none }
def k6m1 : Method := { name := "arraycopy", desc := "(Ljava/lang/Object;ILjava/lang/Object;II)V", sig := { parameters := [(.object "java/lang/Object"), .int, (.object "java/lang/Object"), .int, .int], returnType := none }, accessFlags := 265, code := none }
/-- java/lang/System -/
def k6 : Class := { plain "java/lang/System" (some 0) with
  accessFlags := 49
  interfaces := #[]
  cf := some (fileOf pool6 8 #[.nestMembers #[319, 327, 801, 108, 663, 208]] #[{ accessFlags := 2, nameIndex := 5, descriptorIndex := 6, attributes := #[] }, { accessFlags := 265, nameIndex := 727, descriptorIndex := 728, attributes := #[] }] 49 2 #[] #[{ accessFlags := 25, nameIndex := 507, descriptorIndex := 526, attributes := #[] }, { accessFlags := 25, nameIndex := 399, descriptorIndex := 155, attributes := #[] }, { accessFlags := 25, nameIndex := 396, descriptorIndex := 155, attributes := #[] }, { accessFlags := 10, nameIndex := 525, descriptorIndex := 526, attributes := #[] }, { accessFlags := 26, nameIndex := 674, descriptorIndex := 12, attributes := #[] }, { accessFlags := 26, nameIndex := 677, descriptorIndex := 12, attributes := #[] }, { accessFlags := 10, nameIndex := 11, descriptorIndex := 12, attributes := #[] }, { accessFlags := 74, nameIndex := 175, descriptorIndex := 176, attributes := #[] }, { accessFlags := 10, nameIndex := 491, descriptorIndex := 222, attributes := #[] }, { accessFlags := 74, nameIndex := 29, descriptorIndex := 30, attributes := #[] }, { accessFlags := 74, nameIndex := 154, descriptorIndex := 155, attributes := #[] }, { accessFlags := 10, nameIndex := 217, descriptorIndex := 218, attributes := #[] }, { accessFlags := 10, nameIndex := 221, descriptorIndex := 222, attributes := #[] }, { accessFlags := 8, nameIndex := 562, descriptorIndex := 563, attributes := #[] }])
  fields := #[{ name := "in", type := (.object "java/io/InputStream"), accessFlags := 25, slot := 0, constantValue := 0 }, { name := "out", type := (.object "java/io/PrintStream"), accessFlags := 25, slot := 1, constantValue := 0 }, { name := "err", type := (.object "java/io/PrintStream"), accessFlags := 25, slot := 2, constantValue := 0 }, { name := "initialIn", type := (.object "java/io/InputStream"), accessFlags := 10, slot := 3, constantValue := 0 }, { name := "NEVER", type := .int, accessFlags := 26, slot := 4, constantValue := 0 }, { name := "MAYBE", type := .int, accessFlags := 26, slot := 5, constantValue := 0 }, { name := "allowSecurityManager", type := .int, accessFlags := 10, slot := 6, constantValue := 0 }, { name := "security", type := (.object "java/lang/SecurityManager"), accessFlags := 74, slot := 7, constantValue := 0 }, { name := "notSupportedJnuEncoding", type := (.object "java/lang/String"), accessFlags := 10, slot := 8, constantValue := 0 }, { name := "cons", type := (.object "java/io/Console"), accessFlags := 74, slot := 9, constantValue := 0 }, { name := "initialErrStream", type := (.object "java/io/PrintStream"), accessFlags := 74, slot := 10, constantValue := 0 }, { name := "props", type := (.object "java/util/Properties"), accessFlags := 10, slot := 11, constantValue := 0 }, { name := "lineSeparator", type := (.object "java/lang/String"), accessFlags := 10, slot := 12, constantValue := 0 }, { name := "bootLayer", type := (.object "java/lang/ModuleLayer"), accessFlags := 8, slot := 13, constantValue := 0 }]
  methods := #[k6m0, k6m1]
  instanceTypes := #[]
  staticTypes := #[(.object "java/io/InputStream"), (.object "java/io/PrintStream"), (.object "java/io/PrintStream"), (.object "java/io/InputStream"), .int, .int, .int, (.object "java/lang/SecurityManager"), (.object "java/lang/String"), (.object "java/io/Console"), (.object "java/io/PrintStream"), (.object "java/util/Properties"), (.object "java/lang/String"), (.object "java/lang/ModuleLayer")]
  resolved := Array.replicate 834 none
  statics := none }

def pool7 : Array CpInfo := pool [(1, u "java/lang/Cloneable"), (0, .class_ 1), (0, u "java/lang/Object"), (0, .class_ 3)] 3

/-- java/lang/Cloneable -/
def k7 : Class := { plain "java/lang/Cloneable" (some 0) with
  accessFlags := 1537
  interfaces := #[]
  cf := some (fileOf pool7 2 #[] #[] 1537 4 #[] #[])
  fields := #[]
  methods := #[]
  instanceTypes := #[]
  staticTypes := #[]
  resolved := Array.replicate 8 none
  statics := none }

def pool8 : Array CpInfo := pool [(1, u "java/io/Serializable"), (0, .class_ 1), (0, u "java/lang/Object"), (0, .class_ 3)] 3

/-- java/io/Serializable -/
def k8 : Class := { plain "java/io/Serializable" (some 0) with
  accessFlags := 1537
  interfaces := #[]
  cf := some (fileOf pool8 2 #[] #[] 1537 4 #[] #[])
  fields := #[]
  methods := #[]
  instanceTypes := #[]
  staticTypes := #[]
  resolved := Array.replicate 8 none
  statics := none }

/-- the primitive byte -/
def k9 : Class := { plain "byte" none with kind := .primitive 'B', accessFlags := 0x411 }
/-- [B -/
def k10 : Class := { plain "[B" (some 0) with kind := .array 9 .byte, interfaces := #[7, 8], accessFlags := 1041 }

/-- the primitive int -/
def k11 : Class := { plain "int" none with kind := .primitive 'I', accessFlags := 0x411 }
/-- [I -/
def k12 : Class := { plain "[I" (some 0) with kind := .array 11 .int, interfaces := #[7, 8], accessFlags := 1041 }

/-- the primitive long -/
def k13 : Class := { plain "long" none with kind := .primitive 'J', accessFlags := 0x411 }
/-- [J -/
def k14 : Class := { plain "[J" (some 0) with kind := .array 13 .long, interfaces := #[7, 8], accessFlags := 1041 }

def heap : Heap := #[]
def classes : Array Class := #[k0, k1, k2, k3, k4, k5, k6, k7, k8, k9, k10, k11, k12, k13, k14]
def interned : List (Array UInt16 × Addr) := []
def slotsUsed : Nat := 0
def theMethod : MethodId := ⟨1, 1⟩
def args0 : Array Value := #[.long 5, .long 7, .long 3, .long 9, .long 11, .int 4]
def aboutOver (below : List Frame) : State where
  vm := { classes := classes, interned := interned.toArray }
  heap := heap
  slotsUsed := slotsUsed
  threads := #[{ frames := .invoking theMethod args0 :: below }]
def below0 : List Frame := [.native { method := ⟨0, 0⟩, args := #[] }]
def about1 : State := aboutOver below0
def p0 : Program := .bare "" "" ""
def e0 : Env := launch0.env 0 0 0
theorem w_frames : about1.frames = Frame.invoking theMethod args0 :: below0 := rfl
set_option maxRecDepth 65536 in
theorem w_args : argsFit about1.vm theMethod args0 = true := by decide +kernel
set_option maxRecDepth 65536 in
theorem w_heap : heapFits about1 = true := by decide +kernel
set_option maxRecDepth 65536 in
theorem w_runnable : about1.curStatus? = some .runnable := by decide +kernel
set_option maxRecDepth 65536 in
theorem w_alone : about1.alone = true := by decide +kernel
set_option maxRecDepth 65536 in
theorem w_named : about1.methodNamed? x = some theMethod := by decide +kernel
set_option maxRecDepth 65536 in
theorem w_hears : about1.hears theMethod below0 = true := by decide +kernel
set_option maxRecDepth 65536 in
theorem w_ripe : about1.ripe theMethod args0 below0 = true := by decide +kernel
theorem w_running : about1.status = .running := rfl
set_option maxRecDepth 65536 in
theorem w_room : about1.hasRoom e0.platform room_1 = true :=
  launch0.hasRoom_least _ room_1 (by decide +kernel) (by decide +kernel) (by decide +kernel) (by decide +kernel) (by decide +kernel) (by decide +kernel)
theorem allAtoms_all (ts : List Jvm.Cond) (a : Array Jvm.Value) (st : Jvm.State) : (allAtoms ts).before a st = ts.all (fun c => c.before a st) := by
  induction ts with
  | nil => rfl
  | cons c t ih =>
    show (Jvm.Cond.and c (allAtoms t)).before a st = _
    rw [Jvm.Cond.before_and, ih, List.all_cons]
def words1 : List Jvm.Cond := Jvm.Cond.code x code maxLocals ret :: tables_1
/-- a 'code' word, met by the world's own term for the bytes: nothing is compared byte by byte -/
theorem code_word {y : MethodName} {bytes : ByteArray} {mx : Nat} {rt : Option FieldType} {a : Array Value} {s : State} {m : MethodId} {meth : Method} {c : Code} (h1 : s.methodNamed? y = some m) (h2 : s.vm.method? m = some meth) (h3 : meth.code = some c) (h4 : c.code = bytes)
    (h5 : (c.maxLocals == mx && c.exceptionTable.isEmpty && decide (c.maxStack ≤ mostOperands) && decide (meth.sig.returnType = rt) && !meth.locks && decide (parseMethodDescriptor y.desc = some meth.sig)) = true) : (Jvm.Cond.code y bytes mx rt).before a s = true := by
  simp only [Bool.and_eq_true, beq_iff_eq, Bool.not_eq_true', decide_eq_true_eq] at h5
  obtain ⟨⟨⟨⟨⟨g1, g2⟩, g3⟩, g4⟩, g5⟩, g6⟩ := h5
  simp [Cond.before, Cond.holds, Cond.value, h1, h2, h3, h4, g1, g2, g3, g4, g5, g6]
def isCode : Jvm.Cond → Bool
  | .code _ _ _ _ => true
  | _ => false
theorem all_split {L : List Jvm.Cond} {P : Jvm.Cond → Bool} (h1 : L.all (fun c => isCode c || P c) = true) (h2 : ∀ c ∈ L.filter isCode, P c = true) : L.all P = true := by
  refine List.all_eq_true.mpr fun c hc => ?_
  have h := List.all_eq_true.mp h1 c hc
  rcases Bool.eq_false_or_eq_true (isCode c) with hi | hi
  · exact h2 c (List.mem_filter.mpr ⟨hc, hi⟩)
  · simpa [hi] using h
set_option maxRecDepth 65536 in
theorem w_c0 : (Jvm.Cond.code x code maxLocals ret).before args0 about1 = true := code_word (m := ⟨1, 1⟩) (meth := k1m1) (c := k1c1) (by decide +kernel) rfl rfl rfl (by decide +kernel)
set_option maxRecDepth 65536 in
theorem w_c1 : (Jvm.Cond.code ({ cls := "com/example/leafcode/leafcode/FourWayHeapMinWeightPinLaw", name := "build", desc := "(IJJJJJ)[J" } : Jvm.MethodName) method_3_code (11 : Nat) (Option.some (Jvm.ClassFile.FieldType.array Jvm.ClassFile.FieldType.long))).before args0 about1 = true := code_word (m := ⟨1, 2⟩) (meth := k1m2) (c := k1c2) (by decide +kernel) rfl rfl rfl (by decide +kernel)
set_option maxRecDepth 65536 in
theorem w_c2 : (Jvm.Cond.code ({ cls := "java/lang/Math", name := "min", desc := "(JJ)J" } : Jvm.MethodName) jdk_29_method_70_code (4 : Nat) (Option.some Jvm.ClassFile.FieldType.long)).before args0 about1 = true := code_word (m := ⟨2, 2⟩) (meth := k2m2) (c := k2c2) (by decide +kernel) rfl rfl rfl (by decide +kernel)
set_option maxRecDepth 65536 in
theorem w_c3 : (Jvm.Cond.code ({ cls := "com/example/leafcode/leafcode/FourWayHeap", name := "<init>", desc := "([J)V" } : Jvm.MethodName) prog_20_method_1_code (4 : Nat) (Option.none : Option Jvm.ClassFile.FieldType)).before args0 about1 = true := code_word (m := ⟨4, 0⟩) (meth := k4m0) (c := k4c0) (by decide +kernel) rfl rfl rfl (by decide +kernel)
set_option maxRecDepth 65536 in
theorem w_c4 : (Jvm.Cond.code ({ cls := "java/lang/Object", name := "<init>", desc := "()V" } : Jvm.MethodName) object_method_1_code (1 : Nat) (Option.none : Option Jvm.ClassFile.FieldType)).before args0 about1 = true := code_word (m := ⟨0, 0⟩) (meth := k0m0) (c := k0c0) (by decide +kernel) rfl rfl rfl (by decide +kernel)
set_option maxRecDepth 65536 in
theorem w_c5 : (Jvm.Cond.code ({ cls := "com/example/leafcode/leafcode/FourWayHeap", name := "packable", desc := "([J)Z" } : Jvm.MethodName) prog_20_method_2_code (6 : Nat) (Option.some Jvm.ClassFile.FieldType.boolean)).before args0 about1 = true := code_word (m := ⟨4, 1⟩) (meth := k4m1) (c := k4c1) (by decide +kernel) rfl rfl rfl (by decide +kernel)
set_option maxRecDepth 65536 in
theorem w_c6 : (Jvm.Cond.code ({ cls := "com/example/leafcode/leafcode/FourWayHeap", name := "pack", desc := "(JI)J" } : Jvm.MethodName) prog_20_method_3_code (3 : Nat) (Option.some Jvm.ClassFile.FieldType.long)).before args0 about1 = true := code_word (m := ⟨4, 2⟩) (meth := k4m2) (c := k4c2) (by decide +kernel) rfl rfl rfl (by decide +kernel)
set_option maxRecDepth 65536 in
theorem w_c7 : (Jvm.Cond.code ({ cls := "java/util/Arrays", name := "fill", desc := "([JIIJ)V" } : Jvm.MethodName) jdk_65_method_102_code (6 : Nat) (Option.none : Option Jvm.ClassFile.FieldType)).before args0 about1 = true := code_word (m := ⟨5, 2⟩) (meth := k5m2) (c := k5c2) (by decide +kernel) rfl rfl rfl (by decide +kernel)
set_option maxRecDepth 65536 in
theorem w_c8 : (Jvm.Cond.code ({ cls := "java/util/Arrays", name := "rangeCheck", desc := "(III)V" } : Jvm.MethodName) jdk_65_method_30_code (3 : Nat) (Option.none : Option Jvm.ClassFile.FieldType)).before args0 about1 = true := code_word (m := ⟨5, 1⟩) (meth := k5m1) (c := k5c1) (by decide +kernel) rfl rfl rfl (by decide +kernel)
set_option maxRecDepth 65536 in
theorem w_c9 : (Jvm.Cond.code ({ cls := "com/example/leafcode/leafcode/FourWayHeap", name := "parent", desc := "(I)I" } : Jvm.MethodName) prog_20_method_4_code (1 : Nat) (Option.some Jvm.ClassFile.FieldType.int)).before args0 about1 = true := code_word (m := ⟨4, 3⟩) (meth := k4m3) (c := k4c3) (by decide +kernel) rfl rfl rfl (by decide +kernel)
set_option maxRecDepth 65536 in
theorem w_c10 : (Jvm.Cond.code ({ cls := "com/example/leafcode/leafcode/FourWayHeap", name := "move", desc := "(II)V" } : Jvm.MethodName) prog_20_method_14_code (3 : Nat) (Option.none : Option Jvm.ClassFile.FieldType)).before args0 about1 = true := code_word (m := ⟨4, 9⟩) (meth := k4m9) (c := k4c9) (by decide +kernel) rfl rfl rfl (by decide +kernel)
set_option maxRecDepth 65536 in
theorem w_c11 : (Jvm.Cond.code ({ cls := "com/example/leafcode/leafcode/FourWayHeap", name := "fill", desc := "(I)V" } : Jvm.MethodName) prog_20_method_11_code (5 : Nat) (Option.none : Option Jvm.ClassFile.FieldType)).before args0 about1 = true := code_word (m := ⟨4, 6⟩) (meth := k4m6) (c := k4c6) (by decide +kernel) rfl rfl rfl (by decide +kernel)
set_option maxRecDepth 65536 in
theorem w_c12 : (Jvm.Cond.code ({ cls := "com/example/leafcode/leafcode/FourWayHeap", name := "firstChild", desc := "(I)I" } : Jvm.MethodName) prog_20_method_5_code (1 : Nat) (Option.some Jvm.ClassFile.FieldType.int)).before args0 about1 = true := code_word (m := ⟨4, 4⟩) (meth := k4m4) (c := k4c4) (by decide +kernel) rfl rfl rfl (by decide +kernel)
set_option maxRecDepth 65536 in
theorem w_c13 : (Jvm.Cond.code ({ cls := "com/example/leafcode/leafcode/FourWayHeap", name := "leastChild", desc := "(I)I" } : Jvm.MethodName) prog_20_method_12_code (25 : Nat) (Option.some Jvm.ClassFile.FieldType.int)).before args0 about1 = true := code_word (m := ⟨4, 7⟩) (meth := k4m7) (c := k4c7) (by decide +kernel) rfl rfl rfl (by decide +kernel)
set_option maxRecDepth 65536 in
theorem w_c14 : (Jvm.Cond.code ({ cls := "com/example/leafcode/leafcode/FourWayHeap", name := "precedes", desc := "(II)Z" } : Jvm.MethodName) prog_20_method_13_code (3 : Nat) (Option.some Jvm.ClassFile.FieldType.boolean)).before args0 about1 = true := code_word (m := ⟨4, 8⟩) (meth := k4m8) (c := k4c8) (by decide +kernel) rfl rfl rfl (by decide +kernel)
set_option maxRecDepth 65536 in
theorem w_c15 : (Jvm.Cond.code ({ cls := "com/example/leafcode/leafcode/FourWayHeap", name := "minWeight", desc := "()J" } : Jvm.MethodName) prog_20_method_6_code (1 : Nat) (Option.some Jvm.ClassFile.FieldType.long)).before args0 about1 = true := code_word (m := ⟨4, 5⟩) (meth := k4m5) (c := k4c5) (by decide +kernel) rfl rfl rfl (by decide +kernel)
set_option maxRecDepth 65536 in
theorem w_c16 : (Jvm.Cond.code ({ cls := "java/lang/Math", name := "min", desc := "(II)I" } : Jvm.MethodName) jdk_29_method_69_code (2 : Nat) (Option.some Jvm.ClassFile.FieldType.int)).before args0 about1 = true := code_word (m := ⟨2, 1⟩) (meth := k2m1) (c := k2c1) (by decide +kernel) rfl rfl rfl (by decide +kernel)
set_option maxRecDepth 65536 in
theorem w_c17 : (Jvm.Cond.code ({ cls := "com/example/leafcode/leafcode/NodeQueue", name := "precedes", desc := "(JIJI)Z" } : Jvm.MethodName) prog_35_method_4_code (6 : Nat) (Option.some Jvm.ClassFile.FieldType.boolean)).before args0 about1 = true := code_word (m := ⟨3, 0⟩) (meth := k3m0) (c := k3c0) (by decide +kernel) rfl rfl rfl (by decide +kernel)
def codes1 : List Jvm.Cond := [Jvm.Cond.code x code maxLocals ret, Jvm.Cond.code ({ cls := "com/example/leafcode/leafcode/FourWayHeapMinWeightPinLaw", name := "build", desc := "(IJJJJJ)[J" } : Jvm.MethodName) method_3_code (11 : Nat) (Option.some (Jvm.ClassFile.FieldType.array Jvm.ClassFile.FieldType.long)), Jvm.Cond.code ({ cls := "java/lang/Math", name := "min", desc := "(JJ)J" } : Jvm.MethodName) jdk_29_method_70_code (4 : Nat) (Option.some Jvm.ClassFile.FieldType.long), Jvm.Cond.code ({ cls := "com/example/leafcode/leafcode/FourWayHeap", name := "<init>", desc := "([J)V" } : Jvm.MethodName) prog_20_method_1_code (4 : Nat) (Option.none : Option Jvm.ClassFile.FieldType), Jvm.Cond.code ({ cls := "java/lang/Object", name := "<init>", desc := "()V" } : Jvm.MethodName) object_method_1_code (1 : Nat) (Option.none : Option Jvm.ClassFile.FieldType), Jvm.Cond.code ({ cls := "com/example/leafcode/leafcode/FourWayHeap", name := "packable", desc := "([J)Z" } : Jvm.MethodName) prog_20_method_2_code (6 : Nat) (Option.some Jvm.ClassFile.FieldType.boolean), Jvm.Cond.code ({ cls := "com/example/leafcode/leafcode/FourWayHeap", name := "pack", desc := "(JI)J" } : Jvm.MethodName) prog_20_method_3_code (3 : Nat) (Option.some Jvm.ClassFile.FieldType.long), Jvm.Cond.code ({ cls := "java/util/Arrays", name := "fill", desc := "([JIIJ)V" } : Jvm.MethodName) jdk_65_method_102_code (6 : Nat) (Option.none : Option Jvm.ClassFile.FieldType), Jvm.Cond.code ({ cls := "java/util/Arrays", name := "rangeCheck", desc := "(III)V" } : Jvm.MethodName) jdk_65_method_30_code (3 : Nat) (Option.none : Option Jvm.ClassFile.FieldType), Jvm.Cond.code ({ cls := "com/example/leafcode/leafcode/FourWayHeap", name := "parent", desc := "(I)I" } : Jvm.MethodName) prog_20_method_4_code (1 : Nat) (Option.some Jvm.ClassFile.FieldType.int), Jvm.Cond.code ({ cls := "com/example/leafcode/leafcode/FourWayHeap", name := "move", desc := "(II)V" } : Jvm.MethodName) prog_20_method_14_code (3 : Nat) (Option.none : Option Jvm.ClassFile.FieldType), Jvm.Cond.code ({ cls := "com/example/leafcode/leafcode/FourWayHeap", name := "fill", desc := "(I)V" } : Jvm.MethodName) prog_20_method_11_code (5 : Nat) (Option.none : Option Jvm.ClassFile.FieldType), Jvm.Cond.code ({ cls := "com/example/leafcode/leafcode/FourWayHeap", name := "firstChild", desc := "(I)I" } : Jvm.MethodName) prog_20_method_5_code (1 : Nat) (Option.some Jvm.ClassFile.FieldType.int), Jvm.Cond.code ({ cls := "com/example/leafcode/leafcode/FourWayHeap", name := "leastChild", desc := "(I)I" } : Jvm.MethodName) prog_20_method_12_code (25 : Nat) (Option.some Jvm.ClassFile.FieldType.int), Jvm.Cond.code ({ cls := "com/example/leafcode/leafcode/FourWayHeap", name := "precedes", desc := "(II)Z" } : Jvm.MethodName) prog_20_method_13_code (3 : Nat) (Option.some Jvm.ClassFile.FieldType.boolean), Jvm.Cond.code ({ cls := "com/example/leafcode/leafcode/FourWayHeap", name := "minWeight", desc := "()J" } : Jvm.MethodName) prog_20_method_6_code (1 : Nat) (Option.some Jvm.ClassFile.FieldType.long), Jvm.Cond.code ({ cls := "java/lang/Math", name := "min", desc := "(II)I" } : Jvm.MethodName) jdk_29_method_69_code (2 : Nat) (Option.some Jvm.ClassFile.FieldType.int), Jvm.Cond.code ({ cls := "com/example/leafcode/leafcode/NodeQueue", name := "precedes", desc := "(JIJI)Z" } : Jvm.MethodName) prog_35_method_4_code (6 : Nat) (Option.some Jvm.ClassFile.FieldType.boolean)]
set_option maxRecDepth 65536 in
theorem codes_eq : words1.filter isCode = codes1 := rfl
theorem w_codes : ∀ c ∈ words1.filter isCode, c.before args0 about1 = true := by
  rw [codes_eq]
  intro c hc
  simp only [codes1, List.mem_cons, List.not_mem_nil, or_false] at hc
  rcases hc with rfl | rfl | rfl | rfl | rfl | rfl | rfl | rfl | rfl | rfl | rfl | rfl | rfl | rfl | rfl | rfl | rfl | rfl
  · exact w_c0
  · exact w_c1
  · exact w_c2
  · exact w_c3
  · exact w_c4
  · exact w_c5
  · exact w_c6
  · exact w_c7
  · exact w_c8
  · exact w_c9
  · exact w_c10
  · exact w_c11
  · exact w_c12
  · exact w_c13
  · exact w_c14
  · exact w_c15
  · exact w_c16
  · exact w_c17
set_option maxRecDepth 65536 in
theorem w_t1 : (words1.take 24).all (fun c => isCode c || c.before args0 about1) = true := by decide +kernel
set_option maxRecDepth 65536 in
theorem w_t2 : ((words1.drop 24).take 24).all (fun c => isCode c || c.before args0 about1) = true := by decide +kernel
set_option maxRecDepth 65536 in
theorem w_t3 : (((words1.drop 24).drop 24).take 24).all (fun c => isCode c || c.before args0 about1) = true := by decide +kernel
set_option maxRecDepth 65536 in
theorem w_t4 : (((words1.drop 24).drop 24).drop 24).all (fun c => isCode c || c.before args0 about1) = true := by decide +kernel
theorem w_tables : (allAtoms (Jvm.Cond.code x code maxLocals ret :: tables_1)).before args0 about1 = true := by
  rw [allAtoms_all]
  show words1.all (fun c => c.before args0 about1) = true
  refine all_split ?_ w_codes
  rw [← List.take_append_drop 24 words1, List.all_append, w_t1, ← List.take_append_drop 24 (words1.drop 24), List.all_append, w_t2, ← List.take_append_drop 24 ((words1.drop 24).drop 24), List.all_append, w_t3, w_t4]
  rfl
set_option maxRecDepth 65536 in
theorem w_case : (Jvm.Cond.and given_1 narrow_1).before args0 about1 = true := by decide +kernel
theorem w_applies : (headSpec (Jvm.Cond.code x code maxLocals ret :: tables_1) room_1).applies x e0.platform about1 = true :=
  (Spec.applies_iff w_frames).mpr ⟨w_running, w_runnable, w_alone, w_named, w_hears, w_ripe, w_room, w_tables⟩
theorem atStart : AtStart classFile x code maxLocals ret World_1 tables_1 room_1 Calls_1 rest_1 Pre_1 launch0 p0 e0 about1 theMethod args0 below0 :=
  ⟨lists_1, trivial, launch0.admits_env _ _ _, launch0.least_env, fairChoices_fair.cas, fairChoices_fair.clock, w_frames, w_args, w_heap, w_applies, trivial, trivial, w_case⟩
end start1
theorem witness_1 : WitnessClaimed_1 := ⟨start1.p0, start1.e0, start1.about1, start1.theMethod, start1.args0, start1.below0, start1.atStart⟩
end Jvm.Pilot.@@N@@
